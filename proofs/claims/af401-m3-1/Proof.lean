import JvmDerived
import JvmDerived.Pilot.@@N@@Statement
import JvmDerived.Pilot.@@N@@Code
set_option linter.unusedVariables false
set_option linter.unusedSimpArgs false
/- laws to paste: Road.backV (cut by pick.py; bodies as the Statement names them) -/
namespace Jvm.Pilot.@@N@@
namespace StrChars
open Jvm Sem ClassFile Op Lib Jvm.Stand Jvm.Free.XT Jvm.Free.ALB Jvm.Free.JM Jvm.Free
open Jvm.Lib.Cold (StaticIs)
/-- a char array whose places are chars -/
def Ch (a : Addr) (A : Cell) (U : State) : Prop := Arr .char a A U ∧ Typed .char A
theorem Ch.mv {a : Addr} {A : Cell} {U U' : State} (h : Ch a A U) (hal : U.vm.Alike U'.vm) (hh : U'.heap = U.heap) : Ch a A U' := ⟨h.1.mv hal hh, h.2⟩
theorem Ch.keep {a : Addr} {A : Cell} {U U' : State} (h : Ch a A U) (hal : U.vm.Alike U'.vm) (hk : U'.heap[a]? = some A) : Ch a A U' := ⟨h.1.keep hal hk, h.2⟩
/-- what place i of a char[]'s cell holds -/
def cv (A : Cell) (i : Nat) : Int32 := match A.slots[i]? with | some (.int x) => x | _ => 0
theorem Ch.get {a : Addr} {A : Cell} {U : State} (h : Ch a A U) {i : Nat} (hi : i < A.slots.size) : A.slots[i]? = some (.int (cv A i)) := by
  have e := Array.getElem?_eq_getElem hi
  have f := h.2 i _ e
  unfold cv; rw [e]
  generalize A.slots[i] = v at f
  cases v <;> simp [fits] at f ⊢
/-- the byte that i2b leaves of a char -/
def lo8 (x : Int32) : Int32 := x.toInt8.toInt32
theorem fits_lo8 (y : Int32) : fits .byte (.int (lo8 y)) = true := by
  have h1 := y.toInt8.le_toInt
  have h2 := y.toInt8.toInt_lt
  simp only [lo8, fits, Bool.and_eq_true, decide_eq_true_eq, Int32.le_iff_toInt_le, Int8.toInt_toInt32, show (-128 : Int32).toInt = -128 from by decide, show (127 : Int32).toInt = 127 from by decide]
  omega
/-- A' is A but that each place j of lo .. hi - 1 holds f j -/
def Laid (A A' : Cell) (lo hi : Nat) (f : Nat → Value) : Prop := A'.cls = A.cls ∧ A'.vm = A.vm ∧ A'.slots.size = A.slots.size ∧ ∀ i, A'.slots[i]? = if lo ≤ i ∧ i < hi then some (f i) else A.slots[i]?
theorem Laid.zero (A : Cell) (lo : Nat) (f : Nat → Value) : Laid A A lo (lo + 0) f := ⟨rfl, rfl, rfl, fun i => by rw [if_neg (by omega)]⟩
theorem Laid.step {A Ak : Cell} {lo k : Nat} {f : Nat → Value} {v : Value} (h : Laid A Ak lo k f) (hlo : lo ≤ k) (hk : k < Ak.slots.size) (hv : v = f k) : Laid A (Ak.setSlot k v) lo (k + 1) f := by
  refine ⟨h.1, h.2.1, by simpa [Cell.setSlot] using h.2.2.1, fun i => ?_⟩
  by_cases e : k = i
  · subst e; rw [Cell.slots_setSlot_self v hk, if_pos (by omega), hv]
  · rw [Cell.slots_setSlot_ne v e, h.2.2.2 i]
    by_cases q : lo ≤ i ∧ i < k
    · rw [if_pos q, if_pos (by omega)]
    · rw [if_neg q, if_neg (by omega)]
def U16 : String := "java/lang/StringUTF16"
namespace Cmp5
def yN : MethodName := ⟨"java/lang/StringUTF16", "compress", "([CI[BII)I"⟩
abbrev yB : ByteArray := jdk_52_method_21_code
theorem d0 : decode yB 0 = .ok (.iconst 0, 1) := by decide +kernel
theorem d1 : decode yB 1 = .ok (.istore 5, 2) := by decide +kernel
theorem d3 : decode yB 3 = .ok (.iload 5, 2) := by decide +kernel
theorem d5 : decode yB 5 = .ok (.iload 4, 2) := by decide +kernel
theorem d7 : decode yB 7 = .ok (.if_icmp (.ge) 37, 3) := by decide +kernel
theorem d10 : decode yB 10 = .ok (.aload_n 0, 1) := by decide +kernel
theorem d11 : decode yB 11 = .ok (.iload_n 1, 1) := by decide +kernel
theorem d12 : decode yB 12 = .ok (.caload, 1) := by decide +kernel
theorem d13 : decode yB 13 = .ok (.istore 6, 2) := by decide +kernel
theorem d15 : decode yB 15 = .ok (.iload 6, 2) := by decide +kernel
theorem d17 : decode yB 17 = .ok (.sipush 255, 3) := by decide +kernel
theorem d20 : decode yB 20 = .ok (.if_icmp (.le) 6, 3) := by decide +kernel
theorem d26 : decode yB 26 = .ok (.aload_n 2, 1) := by decide +kernel
theorem d27 : decode yB 27 = .ok (.iload_n 3, 1) := by decide +kernel
theorem d28 : decode yB 28 = .ok (.iload 6, 2) := by decide +kernel
theorem d30 : decode yB 30 = .ok (.i2b, 1) := by decide +kernel
theorem d31 : decode yB 31 = .ok (.bastore, 1) := by decide +kernel
theorem d32 : decode yB 32 = .ok (.iinc 1 1, 3) := by decide +kernel
theorem d35 : decode yB 35 = .ok (.iinc 3 1, 3) := by decide +kernel
theorem d38 : decode yB 38 = .ok (.iinc 5 1, 3) := by decide +kernel
theorem d41 : decode yB 41 = .ok (.goto (-38), 3) := by decide +kernel
theorem d44 : decode yB 44 = .ok (.iload 4, 2) := by decide +kernel
theorem d46 : decode yB 46 = .ok (.ireturn, 1) := by decide +kernel
def site : List Cond := []
def tab : Cond := tabOf yN yB 7 (some .int) site
def P (b : Addr) (A : Cell) (d : Addr) (B : Cell) (o q len : Nat) (args : Array Value) (s : State) : Prop := args = #[.ref b, .int (Int32.ofNat o), .ref d, .int (Int32.ofNat q), .int (Int32.ofNat len)] ∧ Ch b A s ∧ Arr .byte d B s ∧ b ≠ d ∧ o + len ≤ A.slots.size ∧ q + len ≤ B.slots.size ∧ ∀ i, i < len → ¬ 255 < cv A (o + i)
def E (b : Addr) (A : Cell) (d : Addr) (B : Cell) (o q len : Nat) (r : Option Value) (s u : State) : Prop := r = some (.int (Int32.ofNat len)) ∧ ∃ B', Put d B' s u ∧ Laid B B' q (q + len) (fun j => Value.int (lo8 (cv A (o + (j - q)))))
/-- no char of the range above 255: len; the places written hold each char's low byte -/
theorem law (l : Launch) (b : Addr) (A : Cell) (d : Addr) (B : Cell) (o q len : Nat) : Law l yN 5 5 0 0 yB 7 (some .int) site (P b A d B o q len) (E b A d B o q len) (copyLocs d q len) 0 0 := by
  refine Law.of_walk (plainFor_of_name (by decide +kernel)) (by decide +kernel) (by decide +kernel) (by decide) (fun _ _ h => by rw [h.1]; rfl) (fun _ U U' hal hh h => ⟨h.1, h.2.1.mv hal hh, h.2.2.1.mv hal hh, h.2.2.2⟩) (fun r U U' V V' h1 hal h2 h => ⟨h.1, h.2.elim fun B' q => ⟨B', q.1.mv h1 h2, q.2⟩⟩) ?_
  intro p e s m args below meth c s₁ X0 hexec hbytes hml hret hlk hnm hown hh0 W hP
  obtain ⟨rfl, hA, hB, hne, l1, l2, hp⟩ := hP
  have c1 : Steps p.tables e below (s₁.setTop (entryFrame m #[.ref b, .int (Int32.ofNat o), .ref d, .int (Int32.ofNat q), .int (Int32.ofNat len)] 7)) (s₁.setTop (mkF m 0 #[.val (.ref b), .val (.int (Int32.ofNat o)), .val (.ref d), .val (.int (Int32.ofNat q)), .val (.int (Int32.ofNat len)), .unset, .unset] [])) := entry rfl
  have hA0 := hA.1.mv X0.warmed.alike hh0
  have hB0 := hB.mv X0.warmed.alike hh0
  have a31 := hA.1.2.2.2
  have c2 : Steps p.tables e below (s₁.setTop (entryFrame m #[.ref b, .int (Int32.ofNat o), .ref d, .int (Int32.ofNat q), .int (Int32.ofNat len)] 7)) (s₁.setTop (mkF m 3 #[.val (.ref b), .val (.int (Int32.ofNat o)), .val (.ref d), .val (.int (Int32.ofNat q)), .val (.int (Int32.ofNat len)), .val (.int 0), .unset] [])) := c1.trans (by
    refine iconstV X0.here hexec rfl 0 (hb hbytes d0) (by decide) ?_
    refine XS.istore X0.here hexec rfl (hb hbytes d1) rfl rfl ?_
    exact Steps.refl _)
  have loop : ∀ (r i : Nat), i + r = len → ∀ (z : Slot), (z = .unset ∨ ∃ w, z = .val w ∧ w.category = 1) → ∀ (Tl : State) (Bk : Cell), Stand p l e { frames := 0, locals := 0, cells := 0, slots := 0 } s m #[.ref b, .int (Int32.ofNat o), .ref d, .int (Int32.ofNat q), .int (Int32.ofNat len)] below meth c Tl ([] ++ copyLocs d q i) 0 0 → Put d Bk s₁ Tl → Laid B Bk q (q + i) (fun j => Value.int (lo8 (cv A (o + (j - q))))) →
      Steps p.tables e below (s₁.setTop (entryFrame m #[.ref b, .int (Int32.ofNat o), .ref d, .int (Int32.ofNat q), .int (Int32.ofNat len)] 7)) (Tl.setTop (mkF m 3 #[.val (.ref b), .val (.int (Int32.ofNat (o + i))), .val (.ref d), .val (.int (Int32.ofNat (q + i))), .val (.int (Int32.ofNat len)), .val (.int (Int32.ofNat i)), z] [])) → ∃ (T' : State) (B' : Cell) (z' : Slot), Stand p l e { frames := 0, locals := 0, cells := 0, slots := 0 } s m #[.ref b, .int (Int32.ofNat o), .ref d, .int (Int32.ofNat q), .int (Int32.ofNat len)] below meth c T' ([] ++ copyLocs d q len) 0 0 ∧ Put d B' s₁ T' ∧ Laid B B' q (q + len) (fun j => Value.int (lo8 (cv A (o + (j - q))))) ∧
      Steps p.tables e below (s₁.setTop (entryFrame m #[.ref b, .int (Int32.ofNat o), .ref d, .int (Int32.ofNat q), .int (Int32.ofNat len)] 7)) (T'.setTop (mkF m 3 #[.val (.ref b), .val (.int (Int32.ofNat (o + len))), .val (.ref d), .val (.int (Int32.ofNat (q + len))), .val (.int (Int32.ofNat len)), .val (.int (Int32.ofNat len)), z'] [])) := by
    intro r
    induction r with
    | zero =>
      intro i hi z hz Tl Bk Xl pl fl cl
      have hil : i = len := by omega
      rw [hil] at Xl fl cl
      exact ⟨Tl, Bk, z, Xl, pl, fl, cl⟩
    | succ r ih =>
      intro i hi z hz Tl Bk Xl pl fl cl
      have all := X0.warmed.alike.symm.trans Xl.warmed.alike
      have hAl := hA0.keep all (pl.other hne hA0.1)
      have hBk := hB0.like all pl.1 fl.1 fl.2.1 fl.2.2.1
      have hlt : q + i < Bk.slots.size := by rw [fl.2.2.1]; omega
      have c3 : Steps p.tables e below (s₁.setTop (entryFrame m #[.ref b, .int (Int32.ofNat o), .ref d, .int (Int32.ofNat q), .int (Int32.ofNat len)] 7)) (Tl.setTop (mkF m 12 #[.val (.ref b), .val (.int (Int32.ofNat (o + i))), .val (.ref d), .val (.int (Int32.ofNat (q + i))), .val (.int (Int32.ofNat len)), .val (.int (Int32.ofNat i)), z] [.int (Int32.ofNat (o + i)), .ref b])) := cl.trans (by
        refine XS.iload Xl.here hexec rfl (hb hbytes d3) rfl ?_
        refine XS.iload Xl.here hexec rfl (hb hbytes d5) rfl ?_
        refine XS.icmpNo Xl.here hexec rfl (hb hbytes d7) rfl (ii_ge_f (lt32 (by omega) (by omega))) ?_
        refine XS.aloadN Xl.here hexec rfl (hb hbytes d10) rfl rfl ?_
        refine XS.iloadN Xl.here hexec rfl (hb hbytes d11) rfl ?_
        exact Steps.refl _)
      have c4 : Steps p.tables e below (s₁.setTop (entryFrame m #[.ref b, .int (Int32.ofNat o), .ref d, .int (Int32.ofNat q), .int (Int32.ofNat len)] 7)) (Tl.setTop (mkF m 13 #[.val (.ref b), .val (.int (Int32.ofNat (o + i))), .val (.ref d), .val (.int (Int32.ofNat (q + i))), .val (.int (Int32.ofNat len)), .val (.int (Int32.ofNat i)), z] [.int (cv A (o + i))])) := c3.trans (by
        refine Xl.aget hexec hAl rfl (hA.get (i := o + i) (by omega)) rfl rfl (hb hbytes d12) ?_
        exact Steps.refl _)
      have c5 : Steps p.tables e below (s₁.setTop (entryFrame m #[.ref b, .int (Int32.ofNat o), .ref d, .int (Int32.ofNat q), .int (Int32.ofNat len)] 7)) (Tl.setTop (mkF m 15 #[.val (.ref b), .val (.int (Int32.ofNat (o + i))), .val (.ref d), .val (.int (Int32.ofNat (q + i))), .val (.int (Int32.ofNat len)), .val (.int (Int32.ofNat i)), .val (.int (cv A (o + i)))] [])) := c4.trans (by
        refine XS.istoreS Xl.here hexec rfl (hb hbytes d13) rfl rfl hz ?_
        exact Steps.refl _)
      have c6 : Steps p.tables e below (s₁.setTop (entryFrame m #[.ref b, .int (Int32.ofNat o), .ref d, .int (Int32.ofNat q), .int (Int32.ofNat len)] 7)) (Tl.setTop (mkF m 31 #[.val (.ref b), .val (.int (Int32.ofNat (o + i))), .val (.ref d), .val (.int (Int32.ofNat (q + i))), .val (.int (Int32.ofNat len)), .val (.int (Int32.ofNat i)), .val (.int (cv A (o + i)))] [.int (lo8 (cv A (o + i))), .int (Int32.ofNat (q + i)), .ref d])) := c5.trans (by
        refine XS.iload Xl.here hexec rfl (hb hbytes d15) rfl ?_
        refine sipushV Xl.here hexec rfl 255 (hb hbytes d17) (by decide) ?_
        refine XS.icmpYes Xl.here hexec rfl (pc0 := 20) rfl (hb hbytes d20) rfl (ii_le_t (hp i (by omega))) (by decide) rfl ?_
        refine XS.aloadN Xl.here hexec rfl (hb hbytes d26) rfl rfl ?_
        refine XS.iloadN Xl.here hexec rfl (hb hbytes d27) rfl ?_
        refine XS.iload Xl.here hexec rfl (hb hbytes d28) rfl ?_
        refine i2b Xl.here hexec rfl (hb hbytes d30) rfl ?_
        exact Steps.refl _)
      obtain ⟨T7, X7, p7, st7⟩ := Xl.aput hexec hBk rfl hlt rfl (fits_lo8 (cv A (o + i))) (g := (mkF m 31 #[.val (.ref b), .val (.int (Int32.ofNat (o + i))), .val (.ref d), .val (.int (Int32.ofNat (q + i))), .val (.int (Int32.ofNat len)), .val (.int (Int32.ofNat i)), .val (.int (cv A (o + i)))] [.int (lo8 (cv A (o + i))), .int (Int32.ofNat (q + i)), .ref d])) rfl (rest := []) rfl (hb hbytes d31)
      have c8 : Steps p.tables e below (s₁.setTop (entryFrame m #[.ref b, .int (Int32.ofNat o), .ref d, .int (Int32.ofNat q), .int (Int32.ofNat len)] 7)) (T7.setTop (mkF m 32 #[.val (.ref b), .val (.int (Int32.ofNat (o + i))), .val (.ref d), .val (.int (Int32.ofNat (q + i))), .val (.int (Int32.ofNat len)), .val (.int (Int32.ofNat i)), .val (.int (cv A (o + i)))] [])) := c6.trans (st7 _ (Steps.refl _))
      have c9 : Steps p.tables e below (s₁.setTop (entryFrame m #[.ref b, .int (Int32.ofNat o), .ref d, .int (Int32.ofNat q), .int (Int32.ofNat len)] 7)) (T7.setTop (mkF m 3 #[.val (.ref b), .val (.int (Int32.ofNat (o + i) + 1)), .val (.ref d), .val (.int (Int32.ofNat (q + i) + 1)), .val (.int (Int32.ofNat len)), .val (.int (Int32.ofNat i + 1)), .val (.int (cv A (o + i)))] [])) := c8.trans (by
        refine iincV X7.here hexec rfl 1 (hb hbytes d32) (by decide) rfl rfl ?_
        refine iincV X7.here hexec rfl 1 (hb hbytes d35) (by decide) rfl rfl ?_
        refine iincV X7.here hexec rfl 1 (hb hbytes d38) (by decide) rfl rfl ?_
        refine XS.goto X7.here hexec rfl (pc0 := 41) rfl (hb hbytes d41) (by decide) rfl ?_
        exact Steps.refl _)
      have c10 : Steps p.tables e below (s₁.setTop (entryFrame m #[.ref b, .int (Int32.ofNat o), .ref d, .int (Int32.ofNat q), .int (Int32.ofNat len)] 7)) (T7.setTop (mkF m 3 #[.val (.ref b), .val (.int (Int32.ofNat (o + (i + 1)))), .val (.ref d), .val (.int (Int32.ofNat (q + (i + 1)))), .val (.int (Int32.ofNat len)), .val (.int (Int32.ofNat (i + 1))), .val (.int (cv A (o + i)))] [])) := by
        have := c9
        rw [succ32, succ32, succ32] at this
        exact this
      exact ih (i + 1) (by omega) _ (Or.inr ⟨_, rfl, rfl⟩) T7 _ (by rw [copyLocs_step, ← List.append_assoc]; exact X7) (pl.trans p7) (fl.step (by omega) hlt (by simp)) c10
  obtain ⟨T9, B9, z9, X9, p9, f9, g9⟩ := loop len 0 (by omega) .unset (Or.inl rfl) s₁ B (by simpa [copyLocs] using X0) ⟨hB0.1, fun _ _ => rfl, rfl⟩ (Laid.zero _ _ _) c2
  have c11 : Steps p.tables e below (s₁.setTop (entryFrame m #[.ref b, .int (Int32.ofNat o), .ref d, .int (Int32.ofNat q), .int (Int32.ofNat len)] 7)) (T9.setTop (mkF m 46 #[.val (.ref b), .val (.int (Int32.ofNat (o + len))), .val (.ref d), .val (.int (Int32.ofNat (q + len))), .val (.int (Int32.ofNat len)), .val (.int (Int32.ofNat len)), z9] [.int (Int32.ofNat len)])) := g9.trans (by
    refine XS.iload X9.here hexec rfl (hb hbytes d3) rfl ?_
    refine XS.iload X9.here hexec rfl (hb hbytes d5) rfl ?_
    refine XS.icmpYes X9.here hexec rfl (pc0 := 7) rfl (hb hbytes d7) rfl (ii_ge_t (nlt32 (by omega) (Nat.le_refl _))) (by decide) rfl ?_
    refine XS.iload X9.here hexec rfl (hb hbytes d44) rfl ?_
    exact Steps.refl _)
  exact ⟨T9, some (.int (Int32.ofNat len)), _, _, _, X9, by simp, rfl, rfl, (fun h => by cases h), ⟨rfl, B9, p9.from hh0, f9⟩, fun fs hl => c11.trans (X9.ireturnOut hexec hret rfl (Or.inl rfl) (hb hbytes d46) hl)⟩
end Cmp5
namespace Cmp3
def yN : MethodName := ⟨"java/lang/StringUTF16", "compress", "([CII)[B"⟩
abbrev yB : ByteArray := jdk_52_method_16_code
theorem d0 : decode yB 0 = .ok (.iload_n 2, 1) := by decide +kernel
theorem d1 : decode yB 1 = .ok (.newarray .byte, 2) := by decide +kernel
theorem d3 : decode yB 3 = .ok (.astore_n 3, 1) := by decide +kernel
theorem d4 : decode yB 4 = .ok (.aload_n 0, 1) := by decide +kernel
theorem d5 : decode yB 5 = .ok (.iload_n 1, 1) := by decide +kernel
theorem d6 : decode yB 6 = .ok (.aload_n 3, 1) := by decide +kernel
theorem d7 : decode yB 7 = .ok (.iconst 0, 1) := by decide +kernel
theorem d8 : decode yB 8 = .ok (.iload_n 2, 1) := by decide +kernel
theorem d9 : decode yB 9 = .ok (.invokestatic 115, 3) := by decide +kernel
theorem d12 : decode yB 12 = .ok (.istore 4, 2) := by decide +kernel
theorem d14 : decode yB 14 = .ok (.iload 4, 2) := by decide +kernel
theorem d16 : decode yB 16 = .ok (.iload_n 2, 1) := by decide +kernel
theorem d17 : decode yB 17 = .ok (.if_icmp (.eq) 40, 3) := by decide +kernel
theorem d57 : decode yB 57 = .ok (.aload_n 3, 1) := by decide +kernel
theorem d58 : decode yB 58 = .ok (.areturn, 1) := by decide +kernel
def site : List Cond := [.arrayClass .byte, Cmp5.tab] ++ staticW U16 115 Cmp5.yN
def tab : Cond := tabOf yN yB 6 (some (.array .byte)) site
def P (b : Addr) (A : Cell) (o len : Nat) (args : Array Value) (s : State) : Prop := args = #[.ref b, .int (Int32.ofNat o), .int (Int32.ofNat len)] ∧ Ch b A s ∧ o + len ≤ A.slots.size ∧ len ≤ 536870912 ∧ ∀ i, i < len → ¬ 255 < cv A (o + i)
def E (b : Addr) (A : Cell) (o len : Nat) (r : Option Value) (s u : State) : Prop := NewArr .byte "[B" len (fun j => .int (lo8 (cv A (o + j)))) r s u ∧ u.heap.size = s.heap.size + 1
/-- no char of the range above 255: a new byte[] of their low bytes -/
theorem law (l : Launch) (b : Addr) (A : Cell) (o len : Nat) : Law l yN 3 3 1 18 yB 6 (some (.array .byte)) site (P b A o len) (E b A o len) [] 1 len := by
  refine Law.of_walk (plainFor_of_name (by decide +kernel)) (by decide +kernel) (by decide +kernel) (by decide) (fun _ _ h => by rw [h.1]; rfl) (fun _ U U' hal hh h => ⟨h.1, h.2.1.mv hal hh, h.2.2⟩) (fun r U U' V V' h1 hal h2 h => ⟨NewArr.mv r U U' V V' h1 hal h2 h.1, by rw [h1, h2]; exact h.2⟩) ?_
  intro p e s m args below meth c s₁ X0 hexec hbytes hml hret hlk hnm hown hh0 W hP
  obtain ⟨rfl, hA, l1, l2, hp⟩ := hP
  have a31 := hA.1.2.2.2
  have c1 : Steps p.tables e below (s₁.setTop (entryFrame m #[.ref b, .int (Int32.ofNat o), .int (Int32.ofNat len)] 6)) (s₁.setTop (mkF m 0 #[.val (.ref b), .val (.int (Int32.ofNat o)), .val (.int (Int32.ofNat len)), .unset, .unset, .unset] [])) := entry rfl
  have c2 : Steps p.tables e below (s₁.setTop (entryFrame m #[.ref b, .int (Int32.ofNat o), .int (Int32.ofNat len)] 6)) (s₁.setTop (mkF m 1 #[.val (.ref b), .val (.int (Int32.ofNat o)), .val (.int (Int32.ofNat len)), .unset, .unset, .unset] [.int (Int32.ofNat len)])) := c1.trans (by
    refine XS.iloadN X0.here hexec rfl (hb hbytes d0) rfl ?_
    exact Steps.refl _)
  obtain ⟨T3, B3, X3, ba3, bs3, bv3, bh3, bf3, st3⟩ := X0.anew hexec (atype := .byte) (wk W (.arrayClass .byte)) rfl (by show len * 1 ≤ _; omega) (by omega) (g := (mkF m 1 #[.val (.ref b), .val (.int (Int32.ofNat o)), .val (.int (Int32.ofNat len)), .unset, .unset, .unset] [.int (Int32.ofNat len)])) rfl (hb hbytes d1) (rest := []) rfl (Nat.le_refl _) (by show 0 + len ≤ len; omega)
  rw [hh0] at ba3 st3
  have kp3 : XT.Kept s T3 := (XT.Kept.of_eq hh0).push bh3
  have hA3 := hA.keep X3.warmed.alike (kp3 _ _ hA.1.1)
  have hne : b ≠ s.heap.size := hA.1.ne
  have c4 : Steps p.tables e below (s₁.setTop (entryFrame m #[.ref b, .int (Int32.ofNat o), .int (Int32.ofNat len)] 6)) (T3.setTop (mkF m 3 #[.val (.ref b), .val (.int (Int32.ofNat o)), .val (.int (Int32.ofNat len)), .unset, .unset, .unset] [.ref s.heap.size])) := c2.trans (st3 _ (Steps.refl _))
  have c5 : Steps p.tables e below (s₁.setTop (entryFrame m #[.ref b, .int (Int32.ofNat o), .int (Int32.ofNat len)] 6)) (T3.setTop (mkF m 9 #[.val (.ref b), .val (.int (Int32.ofNat o)), .val (.int (Int32.ofNat len)), .val (.ref s.heap.size), .unset, .unset] [.int (Int32.ofNat len), .int 0, .ref s.heap.size, .int (Int32.ofNat o), .ref b])) := c4.trans (by
    refine XS.astoreN X3.here hexec rfl (hb hbytes d3) rfl rfl rfl ?_
    refine XS.aloadN X3.here hexec rfl (hb hbytes d4) rfl rfl ?_
    refine XS.iloadN X3.here hexec rfl (hb hbytes d5) rfl ?_
    refine XS.aloadN X3.here hexec rfl (hb hbytes d6) rfl rfl ?_
    refine iconstV X3.here hexec rfl 0 (hb hbytes d7) (by decide) ?_
    refine XS.iloadN X3.here hexec rfl (hb hbytes d8) rfl ?_
    exact Steps.refl _)
  obtain ⟨v6, T6, X6, E6, g6⟩ := X3.callS hexec (Cmp5.law l b A s.heap.size B3 o 0 len) hown (wks W (staticW U16 115 Cmp5.yN)) (wk W Cmp5.tab) (W := 0) (Nat.le_of_ble_eq_true rfl) (Nat.le_of_ble_eq_true rfl) (Nat.le_refl _) (by show 0 + len + 0 ≤ len; omega) (g := (mkF m 9 #[.val (.ref b), .val (.int (Int32.ofNat o)), .val (.int (Int32.ofNat len)), .val (.ref s.heap.size), .unset, .unset] [.int (Int32.ofNat len), .int (Int32.ofNat 0), .ref s.heap.size, .int (Int32.ofNat o), .ref b])) rfl (by rw [hml]; rfl) c5 (argsL := [.ref b, .int (Int32.ofNat o), .ref s.heap.size, .int (Int32.ofNat 0), .int (Int32.ofNat len)]) (rest := []) rfl rfl (by show 2 * 0 + 0 ≤ _; decide) (hb hbytes d9) (⟨rfl, hA3, ba3, hne, l1, by rw [bs3]; simp, hp⟩)
  obtain ⟨rfl, B6, p6, f6⟩ := E6
  have c7 : Steps p.tables e below (s₁.setTop (entryFrame m #[.ref b, .int (Int32.ofNat o), .int (Int32.ofNat len)] 6)) (T6.setTop (mkF m 12 #[.val (.ref b), .val (.int (Int32.ofNat o)), .val (.int (Int32.ofNat len)), .val (.ref s.heap.size), .unset, .unset] [.int (Int32.ofNat len)])) := g6
  have c8 : Steps p.tables e below (s₁.setTop (entryFrame m #[.ref b, .int (Int32.ofNat o), .int (Int32.ofNat len)] 6)) (T6.setTop (mkF m 58 #[.val (.ref b), .val (.int (Int32.ofNat o)), .val (.int (Int32.ofNat len)), .val (.ref s.heap.size), .val (.int (Int32.ofNat len)), .unset] [.ref s.heap.size])) := c7.trans (by
    refine XS.istore X6.here hexec rfl (hb hbytes d12) rfl rfl ?_
    refine XS.iload X6.here hexec rfl (hb hbytes d14) rfl ?_
    refine XS.iloadN X6.here hexec rfl (hb hbytes d16) rfl ?_
    refine XS.icmpYes X6.here hexec rfl (pc0 := 17) rfl (hb hbytes d17) rfl (ii_eq_t rfl) (by decide) rfl ?_
    refine XS.aloadN X6.here hexec rfl (hb hbytes d57) rfl rfl ?_
    exact Steps.refl _)
  have X8 := X6.wide (L' := []) (cells' := 1) (slots' := len) (fun x hx hlt => by
    simp only [List.nil_append, copyLocs, List.mem_map, List.mem_range] at hx
    obtain ⟨i, -, rfl⟩ := hx
    exact absurd hlt (Nat.lt_irrefl _)) (Nat.le_refl _) (by omega)
  exact ⟨T6, some (.ref s.heap.size), _, _, _, X8, rfl, rfl, rfl, (fun h => by cases h), ⟨⟨rfl, B6, ba3.like (X3.warmed.alike.symm.trans X6.warmed.alike) p6.1 f6.1 f6.2.1 f6.2.2.1, f6.2.1.trans bv3, by rw [X6.warmed.alike.findClass, f6.1]; exact bf3, by rw [f6.2.2.1, bs3]; simp, fun j hj => by rw [f6.2.2.2 j, if_pos (by omega)]; rfl, kp3.put p6 (Nat.le_refl _)⟩, by rw [p6.2.2, bh3, hh0]; simp⟩, fun fs hl => c8.trans (X8.areturnOut hexec rfl hret rfl (hb hbytes d58) hl)⟩
end Cmp3
namespace CodL
def yN : MethodName := ⟨"java/lang/StringUTF16", "coderFromArrayLen", "([BI)B"⟩
abbrev yB : ByteArray := jdk_52_method_15_code
theorem d0 : decode yB 0 = .ok (.iload_n 1, 1) := by decide +kernel
theorem d1 : decode yB 1 = .ok (.aload_n 0, 1) := by decide +kernel
theorem d2 : decode yB 2 = .ok (.arraylength, 1) := by decide +kernel
theorem d3 : decode yB 3 = .ok (.isub, 1) := by decide +kernel
theorem d4 : decode yB 4 = .ok (.bipush 31, 2) := by decide +kernel
theorem d6 : decode yB 6 = .ok (.iushr, 1) := by decide +kernel
theorem d7 : decode yB 7 = .ok (.i2b, 1) := by decide +kernel
theorem d8 : decode yB 8 = .ok (.ireturn, 1) := by decide +kernel
def site : List Cond := []
def tab : Cond := tabOf yN yB 2 (some .byte) site
def P (d : Addr) (B : Cell) (args : Array Value) (s : State) : Prop := args = #[.ref d, .int (Int32.ofNat B.slots.size)] ∧ Arr .byte d B s
def E (r : Option Value) (s u : State) : Prop := XT.PureE (some (.int 0)) r s u
/-- an array as long as the number of chars: LATIN1 -/
theorem law (l : Launch) (d : Addr) (B : Cell) : Law l yN 2 2 0 0 yB 2 (some .byte) site (P d B) E [] 0 0 := by
  refine Law.of_walk (plainFor_of_name (by decide +kernel)) (by decide +kernel) (by decide +kernel) (by decide) (fun _ _ h => by rw [h.1]; rfl) (fun _ U U' hal hh h => ⟨h.1, h.2.mv hal hh⟩) (fun r U U' V V' h1 hal h2 h => XT.PureE.mv r U U' V V' h1 hal h2 h) ?_
  intro p e s m args below meth c s₁ X0 hexec hbytes hml hret hlk hnm hown hh0 W hP
  obtain ⟨rfl, hB⟩ := hP
  have hB0 := hB.mv X0.warmed.alike hh0
  have c1 : Steps p.tables e below (s₁.setTop (entryFrame m #[.ref d, .int (Int32.ofNat B.slots.size)] 2)) (s₁.setTop (mkF m 0 #[.val (.ref d), .val (.int (Int32.ofNat B.slots.size))] [])) := entry rfl
  have c2 : Steps p.tables e below (s₁.setTop (entryFrame m #[.ref d, .int (Int32.ofNat B.slots.size)] 2)) (s₁.setTop (mkF m 2 #[.val (.ref d), .val (.int (Int32.ofNat B.slots.size))] [.ref d, .int (Int32.ofNat B.slots.size)])) := c1.trans (by
    refine XS.iloadN X0.here hexec rfl (hb hbytes d0) rfl ?_
    refine XS.aloadN X0.here hexec rfl (hb hbytes d1) rfl rfl ?_
    exact Steps.refl _)
  have c3 : Steps p.tables e below (s₁.setTop (entryFrame m #[.ref d, .int (Int32.ofNat B.slots.size)] 2)) (s₁.setTop (mkF m 8 #[.val (.ref d), .val (.int (Int32.ofNat B.slots.size))] [.int (lo8 (ushr (Int32.ofNat B.slots.size - Int32.ofNat B.slots.size) 31))])) := c2.trans (by
    refine X0.alen hexec hB0 rfl rfl (hb hbytes d2) ?_
    refine XS.isub X0.here hexec rfl (hb hbytes d3) rfl ?_
    refine bipushV X0.here hexec rfl 31 (hb hbytes d4) (by decide) ?_
    refine iushr X0.here hexec rfl (hb hbytes d6) rfl ?_
    refine i2b X0.here hexec rfl (hb hbytes d7) rfl ?_
    exact Steps.refl _)
  have e0 : lo8 (ushr (Int32.ofNat B.slots.size - Int32.ofNat B.slots.size) 31) = 0 := by rw [Int32.sub_self]; decide
  rw [e0] at c3
  exact ⟨s₁, some (.int 0), _, _, _, X0, rfl, rfl, rfl, (fun h => by cases h), ⟨rfl, hh0⟩, fun fs hl => c3.trans (X0.ireturnOut hexec hret rfl (Or.inr (Or.inr (Or.inl rfl))) (hb hbytes d8) hl)⟩
end CodL
/-- the String at a is Latin-1 over a new byte[] (the heap's one new cell): the low bytes of the len chars of A from o on; every cell but a is kept -/
def Got (a : Addr) (D : Cell) (fV fC : Field) (A : Cell) (o len : Nat) (r : Option Value) (s u : State) : Prop := r = none ∧ ∃ D' V : Cell, Blank "java/lang/String" a D' u ∧ Same D D' [fV.slot, fC.slot] ∧ D'.slots[fV.slot]? = some (.ref s.heap.size) ∧ D'.slots[fC.slot]? = some (.int 0) ∧ Arr .byte s.heap.size V u ∧ V.vm = .none ∧ u.vm.findClass "[B" = some V.cls ∧ V.slots.size = len ∧ (∀ j, j < len → V.slots[j]? = some (.int (lo8 (cv A (o + j))))) ∧ (∀ (y : Addr) (c : Cell), y ≠ a → s.heap[y]? = some c → u.heap[y]? = some c) ∧ u.heap.size = s.heap.size + 1
theorem Got.mv {a : Addr} {D A : Cell} {fV fC : Field} {o len : Nat} : ∀ r (U U' V V' : State), U'.heap = U.heap → V.vm.Alike V'.vm → V'.heap = V.heap → Got a D fV fC A o len r U V → Got a D fV fC A o len r U' V' :=
  fun r U U' V V' h1 hal h2 ⟨e0, D', X, a1, a2, a3, a4, a5, a6, a7, a8, a9, a10, a11⟩ => ⟨e0, D', X, a1.mv hal h2, a2, by rw [h1]; exact a3, a4, by rw [h1]; exact a5.mv hal h2, a6, by rw [hal.findClass]; exact a7, a8, a9, by rw [h1, h2]; exact a10, by rw [h1, h2]; exact a11⟩
namespace New4
def yN : MethodName := ⟨"java/lang/String", "<init>", "([CIILjava/lang/Void;)V"⟩
abbrev yB : ByteArray := jdk_42_method_149_code
theorem d0 : decode yB 0 = .ok (.aload_n 0, 1) := by decide +kernel
theorem d1 : decode yB 1 = .ok (.invokespecial 1, 3) := by decide +kernel
theorem d4 : decode yB 4 = .ok (.iload_n 3, 1) := by decide +kernel
theorem d5 : decode yB 5 = .ok (.ifCond (.ne) 22, 3) := by decide +kernel
theorem d27 : decode yB 27 = .ok (.getstatic 38, 3) := by decide +kernel
theorem d30 : decode yB 30 = .ok (.ifCond (.eq) 28, 3) := by decide +kernel
theorem d33 : decode yB 33 = .ok (.aload_n 1, 1) := by decide +kernel
theorem d34 : decode yB 34 = .ok (.iload_n 2, 1) := by decide +kernel
theorem d35 : decode yB 35 = .ok (.iload_n 3, 1) := by decide +kernel
theorem d36 : decode yB 36 = .ok (.invokestatic 177, 3) := by decide +kernel
theorem d39 : decode yB 39 = .ok (.astore 5, 2) := by decide +kernel
theorem d41 : decode yB 41 = .ok (.aload_n 0, 1) := by decide +kernel
theorem d42 : decode yB 42 = .ok (.aload 5, 2) := by decide +kernel
theorem d44 : decode yB 44 = .ok (.iload_n 3, 1) := by decide +kernel
theorem d45 : decode yB 45 = .ok (.invokestatic 47, 3) := by decide +kernel
theorem d48 : decode yB 48 = .ok (.putfield 15, 3) := by decide +kernel
theorem d51 : decode yB 51 = .ok (.aload_n 0, 1) := by decide +kernel
theorem d52 : decode yB 52 = .ok (.aload 5, 2) := by decide +kernel
theorem d54 : decode yB 54 = .ok (.putfield 9, 3) := by decide +kernel
theorem d57 : decode yB 57 = .ok (.return_, 1) := by decide +kernel
def site : List Cond := [.fieldLink "java/lang/String" 38 "java/lang/String" "COMPACT_STRINGS" "Z", Cmp3.tab, CodL.tab, .laysFinal "java/lang/String" "java/lang/String" "value" "[B", .fieldLink "java/lang/String" 9 "java/lang/String" "value" "[B", .laysFinal "java/lang/String" "java/lang/String" "coder" "B", .fieldLink "java/lang/String" 15 "java/lang/String" "coder" "B"] ++ objW "java/lang/String" 1 ++ staticW "java/lang/String" 177 Cmp3.yN ++ staticW "java/lang/String" 47 CodL.yN
def tab : Cond := tabOf yN yB 6 none site
def P (a : Addr) (D : Cell) (fV fC : Field) (b : Addr) (A : Cell) (z : Int32) (o len : Nat) (args : Array Value) (s : State) : Prop := args = #[.ref a, .ref b, .int (Int32.ofNat o), .int (Int32.ofNat len), .null] ∧ Blank "java/lang/String" a D s ∧ Found "java/lang/String" "value" "[B" fV s ∧ Found "java/lang/String" "coder" "B" fC s ∧ Ch b A s ∧ StaticIs s "java/lang/String" "COMPACT_STRINGS" "Z" (.int z) ∧ ¬ z = 0 ∧ 0 < len ∧ o + len ≤ A.slots.size ∧ len ≤ 536870912 ∧ ∀ i, i < len → ¬ 255 < cv A (o + i)
def E (a : Addr) (D : Cell) (fV fC : Field) (A : Cell) (o len : Nat) (r : Option Value) (s u : State) : Prop := Got a D fV fC A o len r s u
/-- len > 0, no char of the range above 255: a Latin-1 String of their low bytes -/
theorem law (l : Launch) (a : Addr) (D : Cell) (fV fC : Field) (b : Addr) (A : Cell) (z : Int32) (o len : Nat) : Law l yN 5 4 2 35 yB 6 none site (P a D fV fC b A z o len) (E a D fV fC A o len) [⟨a, fC.slot⟩, ⟨a, fV.slot⟩] 1 len := by
  refine Law.of_walk (plainFor_of_name (by decide +kernel)) (by decide +kernel) (by decide +kernel) (by decide) (fun _ _ h => by rw [h.1]; rfl) (fun _ U U' hal hh h => ⟨h.1, h.2.1.mv hal hh, h.2.2.1.al hal, h.2.2.2.1.al hal, h.2.2.2.2.1.mv hal hh, h.2.2.2.2.2.1.there hal hh, h.2.2.2.2.2.2⟩) (fun r U U' V V' h1 hal h2 h => Got.mv r U U' V V' h1 hal h2 h) ?_
  intro p e s m args below meth c s₁ X0 hexec hbytes hml hret hlk hnm hown hh0 W hP
  obtain ⟨rfl, hB, f1, f2, hA, s1, hz, l0, l1, l2, hp⟩ := hP
  have a31 := hA.1.2.2.2
  have c1 : Steps p.tables e below (s₁.setTop (entryFrame m #[.ref a, .ref b, .int (Int32.ofNat o), .int (Int32.ofNat len), .null] 6)) (s₁.setTop (mkF m 0 #[.val (.ref a), .val (.ref b), .val (.int (Int32.ofNat o)), .val (.int (Int32.ofNat len)), .val .null, .unset] [])) := entry rfl
  have c2 : Steps p.tables e below (s₁.setTop (entryFrame m #[.ref a, .ref b, .int (Int32.ofNat o), .int (Int32.ofNat len), .null] 6)) (s₁.setTop (mkF m 1 #[.val (.ref a), .val (.ref b), .val (.int (Int32.ofNat o)), .val (.int (Int32.ofNat len)), .val .null, .unset] [.ref a])) := c1.trans (by
    refine XS.aloadN X0.here hexec rfl (hb hbytes d0) rfl rfl ?_
    exact Steps.refl _)
  obtain ⟨T3, X3, q3, st3⟩ := X0.oinit hexec hown (wks W (objW "java/lang/String" 1)) (g := (mkF m 1 #[.val (.ref a), .val (.ref b), .val (.int (Int32.ofNat o)), .val (.int (Int32.ofNat len)), .val .null, .unset] [.ref a])) rfl (by rw [hml]; rfl) (rest := []) rfl (hb hbytes d1) (W := 0) (by show 2 * 0 + 0 ≤ _; decide) (Nat.le_of_ble_eq_true rfl) (Nat.le_of_ble_eq_true rfl)
  have hh3 := q3.trans hh0
  have c4 : Steps p.tables e below (s₁.setTop (entryFrame m #[.ref a, .ref b, .int (Int32.ofNat o), .int (Int32.ofNat len), .null] 6)) (T3.setTop (mkF m 27 #[.val (.ref a), .val (.ref b), .val (.int (Int32.ofNat o)), .val (.int (Int32.ofNat len)), .val .null, .unset] [])) := (c2.trans (st3 _ (Steps.refl _))).trans (by
    refine XS.iloadN X3.here hexec rfl (hb hbytes d4) rfl ?_
    refine XS.ifYes X3.here hexec rfl (pc0 := 5) rfl (hb hbytes d5) rfl (i0_ne_t (nz32 (by omega) l0)) (by decide) rfl ?_
    exact Steps.refl _)
  obtain ⟨T5, X5, q5, st5⟩ := X3.sget hexec hown (wk W (.fieldLink "java/lang/String" 38 "java/lang/String" "COMPACT_STRINGS" "Z")) s1 (fun _ _ h => by rw [hh3]; exact h) (g := (mkF m 27 #[.val (.ref a), .val (.ref b), .val (.int (Int32.ofNat o)), .val (.int (Int32.ofNat len)), .val .null, .unset] [])) rfl (hb hbytes d27)
  have hh5 := q5.trans hh3
  have c6 : Steps p.tables e below (s₁.setTop (entryFrame m #[.ref a, .ref b, .int (Int32.ofNat o), .int (Int32.ofNat len), .null] 6)) (T5.setTop (mkF m 30 #[.val (.ref a), .val (.ref b), .val (.int (Int32.ofNat o)), .val (.int (Int32.ofNat len)), .val .null, .unset] [.int z])) := c4.trans (st5 _ (Steps.refl _))
  have c7 : Steps p.tables e below (s₁.setTop (entryFrame m #[.ref a, .ref b, .int (Int32.ofNat o), .int (Int32.ofNat len), .null] 6)) (T5.setTop (mkF m 36 #[.val (.ref a), .val (.ref b), .val (.int (Int32.ofNat o)), .val (.int (Int32.ofNat len)), .val .null, .unset] [.int (Int32.ofNat len), .int (Int32.ofNat o), .ref b])) := c6.trans (by
    refine XS.ifNo X5.here hexec rfl (hb hbytes d30) rfl (i0_eq_f hz) ?_
    refine XS.aloadN X5.here hexec rfl (hb hbytes d33) rfl rfl ?_
    refine XS.iloadN X5.here hexec rfl (hb hbytes d34) rfl ?_
    refine XS.iloadN X5.here hexec rfl (hb hbytes d35) rfl ?_
    exact Steps.refl _)
  obtain ⟨v8, T8, X8, E8, g8⟩ := X5.callS hexec (Cmp3.law l b A o len) hown (wks W (staticW "java/lang/String" 177 Cmp3.yN)) (wk W Cmp3.tab) (W := 0) (Nat.le_of_ble_eq_true rfl) (Nat.le_of_ble_eq_true rfl) (Nat.le_refl _) (by show 0 + len ≤ len; omega) (g := (mkF m 36 #[.val (.ref a), .val (.ref b), .val (.int (Int32.ofNat o)), .val (.int (Int32.ofNat len)), .val .null, .unset] [.int (Int32.ofNat len), .int (Int32.ofNat o), .ref b])) rfl (by rw [hml]; rfl) c7 (argsL := [.ref b, .int (Int32.ofNat o), .int (Int32.ofNat len)]) (rest := []) rfl rfl (by show 2 * 0 + 0 ≤ _; decide) (hb hbytes d36) (⟨rfl, hA.mv X5.warmed.alike hh5, l1, l2, hp⟩)
  obtain ⟨e8, z8⟩ := E8
  obtain ⟨rfl, N, n1, n2, n3, n4, n5, n6⟩ := NewArr.mv _ T5 s _ _ hh5.symm (Vm.Alike.refl _) rfl e8
  rw [hh5] at z8
  have hB1 := hB.keep X8.warmed.alike (n6 _ _ hB.1)
  have hne : s.heap.size ≠ a := (Nat.ne_of_lt (Array.getElem?_eq_some_iff.mp hB.1).1).symm
  have c9 : Steps p.tables e below (s₁.setTop (entryFrame m #[.ref a, .ref b, .int (Int32.ofNat o), .int (Int32.ofNat len), .null] 6)) (T8.setTop (mkF m 39 #[.val (.ref a), .val (.ref b), .val (.int (Int32.ofNat o)), .val (.int (Int32.ofNat len)), .val .null, .unset] [.ref s.heap.size])) := g8
  have c10 : Steps p.tables e below (s₁.setTop (entryFrame m #[.ref a, .ref b, .int (Int32.ofNat o), .int (Int32.ofNat len), .null] 6)) (T8.setTop (mkF m 45 #[.val (.ref a), .val (.ref b), .val (.int (Int32.ofNat o)), .val (.int (Int32.ofNat len)), .val .null, .val (.ref s.heap.size)] [.int (Int32.ofNat N.slots.size), .ref s.heap.size, .ref a])) := by
    have hc : Steps p.tables e below (s₁.setTop (entryFrame m #[.ref a, .ref b, .int (Int32.ofNat o), .int (Int32.ofNat len), .null] 6)) (T8.setTop (mkF m 45 #[.val (.ref a), .val (.ref b), .val (.int (Int32.ofNat o)), .val (.int (Int32.ofNat len)), .val .null, .val (.ref s.heap.size)] [.int (Int32.ofNat len), .ref s.heap.size, .ref a])) := c9.trans (by
      refine XS.astore X8.here hexec rfl (hb hbytes d39) rfl rfl rfl ?_
      refine XS.aloadN X8.here hexec rfl (hb hbytes d41) rfl rfl ?_
      refine XS.aload X8.here hexec rfl (hb hbytes d42) rfl rfl ?_
      refine XS.iloadN X8.here hexec rfl (hb hbytes d44) rfl ?_
      exact Steps.refl _)
    rw [n4]; exact hc
  obtain ⟨v11, T11, X11, E11, g11⟩ := X8.callS hexec (CodL.law l s.heap.size N) hown (wks W (staticW "java/lang/String" 47 CodL.yN)) (wk W CodL.tab) (W := 1) (Nat.le_of_ble_eq_true rfl) (Nat.le_of_ble_eq_true rfl) (Nat.le_refl _) (by show 0 + len + 0 ≤ len; omega) (g := (mkF m 45 #[.val (.ref a), .val (.ref b), .val (.int (Int32.ofNat o)), .val (.int (Int32.ofNat len)), .val .null, .val (.ref s.heap.size)] [.int (Int32.ofNat N.slots.size), .ref s.heap.size, .ref a])) rfl (by rw [hml]; rfl) c10 (argsL := [.ref s.heap.size, .int (Int32.ofNat N.slots.size)]) (rest := [.ref a]) rfl rfl (by show 2 * 0 + (1 + 0) ≤ _; decide) (hb hbytes d45) (⟨rfl, n1⟩)
  obtain ⟨rfl, q11⟩ := E11
  have hB11 := hB1.mv (X8.warmed.alike.symm.trans X11.warmed.alike) q11
  have c12 : Steps p.tables e below (s₁.setTop (entryFrame m #[.ref a, .ref b, .int (Int32.ofNat o), .int (Int32.ofNat len), .null] 6)) (T11.setTop (mkF m 48 #[.val (.ref a), .val (.ref b), .val (.int (Int32.ofNat o)), .val (.int (Int32.ofNat len)), .val .null, .val (.ref s.heap.size)] [.int 0, .ref a])) := g11
  obtain ⟨T13, X13, p13, bl13, sl13, st13⟩ := X11.finit hexec hown (wk W (.fieldLink "java/lang/String" 15 "java/lang/String" "coder" "B")) (Or.inr ⟨_, (wk W (.laysFinal "java/lang/String" "java/lang/String" "coder" "B"))⟩) (Or.inl ⟨rfl, hnm⟩) f2 (Or.inl rfl) hB11 (t := .byte) (by decide +kernel) rfl (g := (mkF m 48 #[.val (.ref a), .val (.ref b), .val (.int (Int32.ofNat o)), .val (.int (Int32.ofNat len)), .val .null, .val (.ref s.heap.size)] [.int 0, .ref a])) rfl (rest := []) rfl (hb hbytes d48)
  have c14 : Steps p.tables e below (s₁.setTop (entryFrame m #[.ref a, .ref b, .int (Int32.ofNat o), .int (Int32.ofNat len), .null] 6)) (T13.setTop (mkF m 54 #[.val (.ref a), .val (.ref b), .val (.int (Int32.ofNat o)), .val (.int (Int32.ofNat len)), .val .null, .val (.ref s.heap.size)] [.ref s.heap.size, .ref a])) := (c12.trans (st13 _ (Steps.refl _))).trans (by
    refine XS.aloadN X13.here hexec rfl (hb hbytes d51) rfl rfl ?_
    refine XS.aload X13.here hexec rfl (hb hbytes d52) rfl rfl ?_
    exact Steps.refl _)
  obtain ⟨T15, X15, p15, bl15, sl15, st15⟩ := X13.finit hexec hown (wk W (.fieldLink "java/lang/String" 9 "java/lang/String" "value" "[B")) (Or.inr ⟨_, (wk W (.laysFinal "java/lang/String" "java/lang/String" "value" "[B"))⟩) (Or.inl ⟨rfl, hnm⟩) f1 (Or.inl rfl) bl13 (t := (.array .byte)) (by decide +kernel) rfl (g := (mkF m 54 #[.val (.ref a), .val (.ref b), .val (.int (Int32.ofNat o)), .val (.int (Int32.ofNat len)), .val .null, .val (.ref s.heap.size)] [.ref s.heap.size, .ref a])) rfl (rest := []) rfl (hb hbytes d54)
  have c16 : Steps p.tables e below (s₁.setTop (entryFrame m #[.ref a, .ref b, .int (Int32.ofNat o), .int (Int32.ofNat len), .null] 6)) (T15.setTop (mkF m 57 #[.val (.ref a), .val (.ref b), .val (.int (Int32.ofNat o)), .val (.int (Int32.ofNat len)), .val .null, .val (.ref s.heap.size)] [])) := c14.trans (st15 _ (Steps.refl _))
  have ap := apart (Or.inr ⟨_, (wk W (.laysFinal "java/lang/String" "java/lang/String" "value" "[B"))⟩) (Or.inr ⟨_, (wk W (.laysFinal "java/lang/String" "java/lang/String" "coder" "B"))⟩) f1 f2 (t₁ := .array .byte) (t₂ := .byte) (by decide +kernel) (by decide +kernel) (by decide)
  have al := X8.warmed.alike.symm.trans X15.warmed.alike
  have n7 : T11.heap[s.heap.size]? = some N := by rw [q11]; exact n1.1
  exact ⟨T15, none, _, _, _, X15, by simp, rfl, by omega, (fun _ => rfl), ⟨rfl, _, N, bl15, ((Same.refl D _).set _ (by simp)).set _ (by simp), sl15, (Cell.slots_setSlot_ne _ ap).trans sl13, n1.keep al (p15.other hne (p13.other hne n7)), n2, by rw [al.findClass]; exact n3, n4, n5, fun y c h1 h2 => p15.other h1 (p13.other h1 (by rw [q11]; exact n6 y c h2)), by rw [p15.2.2, p13.2.2, q11]; exact z8⟩, fun fs hl => c16.trans (X15.returnOut hexec hret (hb hbytes d57) hl)⟩
end New4
namespace New1
def yN : MethodName := ⟨"java/lang/String", "<init>", "([C)V"⟩
abbrev yB : ByteArray := jdk_42_method_3_code
theorem d0 : decode yB 0 = .ok (.aload_n 0, 1) := by decide +kernel
theorem d1 : decode yB 1 = .ok (.aload_n 1, 1) := by decide +kernel
theorem d2 : decode yB 2 = .ok (.iconst 0, 1) := by decide +kernel
theorem d3 : decode yB 3 = .ok (.aload_n 1, 1) := by decide +kernel
theorem d4 : decode yB 4 = .ok (.arraylength, 1) := by decide +kernel
theorem d5 : decode yB 5 = .ok (.aconst_null, 1) := by decide +kernel
theorem d6 : decode yB 6 = .ok (.invokespecial 27, 3) := by decide +kernel
theorem d9 : decode yB 9 = .ok (.return_, 1) := by decide +kernel
def site : List Cond := [New4.tab] ++ initW "java/lang/String" 27 New4.yN
def tab : Cond := tabOf yN yB 2 none site
def P (a : Addr) (D : Cell) (fV fC : Field) (b : Addr) (A : Cell) (z : Int32) (args : Array Value) (s : State) : Prop := args = #[.ref a, .ref b] ∧ Blank "java/lang/String" a D s ∧ Found "java/lang/String" "value" "[B" fV s ∧ Found "java/lang/String" "coder" "B" fC s ∧ Ch b A s ∧ StaticIs s "java/lang/String" "COMPACT_STRINGS" "Z" (.int z) ∧ ¬ z = 0 ∧ 0 < A.slots.size ∧ A.slots.size ≤ 536870912 ∧ ∀ i, i < A.slots.size → ¬ 255 < cv A i
def E (a : Addr) (D : Cell) (fV fC : Field) (A : Cell) (r : Option Value) (s u : State) : Prop := Got a D fV fC A 0 A.slots.size r s u
/-- new String(chars), not empty, no char above 255: a Latin-1 String of their low bytes -/
theorem law (l : Launch) (a : Addr) (D : Cell) (fV fC : Field) (b : Addr) (A : Cell) (z : Int32) : Law l yN 2 1 3 52 yB 2 none site (P a D fV fC b A z) (E a D fV fC A) [⟨a, fC.slot⟩, ⟨a, fV.slot⟩] 1 A.slots.size := by
  refine Law.of_walk (plainFor_of_name (by decide +kernel)) (by decide +kernel) (by decide +kernel) (by decide) (fun _ _ h => by rw [h.1]; rfl) (fun _ U U' hal hh h => ⟨h.1, h.2.1.mv hal hh, h.2.2.1.al hal, h.2.2.2.1.al hal, h.2.2.2.2.1.mv hal hh, h.2.2.2.2.2.1.there hal hh, h.2.2.2.2.2.2⟩) (fun r U U' V V' h1 hal h2 h => Got.mv r U U' V V' h1 hal h2 h) ?_
  intro p e s m args below meth c s₁ X0 hexec hbytes hml hret hlk hnm hown hh0 W hP
  obtain ⟨rfl, hB, f1, f2, hA, s1, hz, l0, l2, hp⟩ := hP
  have c1 : Steps p.tables e below (s₁.setTop (entryFrame m #[.ref a, .ref b] 2)) (s₁.setTop (mkF m 0 #[.val (.ref a), .val (.ref b)] [])) := entry rfl
  have c2 : Steps p.tables e below (s₁.setTop (entryFrame m #[.ref a, .ref b] 2)) (s₁.setTop (mkF m 6 #[.val (.ref a), .val (.ref b)] [.null, .int (Int32.ofNat A.slots.size), .int 0, .ref b, .ref a])) := c1.trans (by
    refine XS.aloadN X0.here hexec rfl (hb hbytes d0) rfl rfl ?_
    refine XS.aloadN X0.here hexec rfl (hb hbytes d1) rfl rfl ?_
    refine iconstV X0.here hexec rfl 0 (hb hbytes d2) (by decide) ?_
    refine XS.aloadN X0.here hexec rfl (hb hbytes d3) rfl rfl ?_
    refine X0.alen hexec (hA.1.mv X0.warmed.alike hh0) rfl rfl (hb hbytes d4) ?_
    refine XS.aconstNull X0.here hexec rfl (hb hbytes d5) ?_
    exact Steps.refl _)
  obtain ⟨v3, T3, X3, E3, g3⟩ := X0.callN hexec (New4.law l a D fV fC b A z 0 A.slots.size) rfl hown (wks W (initW "java/lang/String" 27 New4.yN)) (W New4.tab (by simp only [site, List.mem_cons, List.mem_append, true_or, or_true])) (W := 0) (Nat.le_of_ble_eq_true rfl) (Nat.le_of_ble_eq_true rfl) (Nat.le_refl _) (by show 0 + A.slots.size ≤ A.slots.size; omega) (g := (mkF m 6 #[.val (.ref a), .val (.ref b)] [.null, .int (Int32.ofNat A.slots.size), .int (Int32.ofNat 0), .ref b, .ref a])) rfl (by rw [hml]; rfl) c2 (argsL := [.ref b, .int (Int32.ofNat 0), .int (Int32.ofNat A.slots.size), .null]) (rest := []) rfl rfl (by show 2 * 0 + 0 ≤ _; decide) (hb hbytes d6) (⟨rfl, hB.mv X0.warmed.alike hh0, f1.al X0.warmed.alike, f2.al X0.warmed.alike, hA.mv X0.warmed.alike hh0, s1.there X0.warmed.alike hh0, hz, l0, by omega, l2, fun i hi => by rw [Nat.zero_add]; exact hp i hi⟩)
  have e0 := Got.mv _ s₁ s _ _ hh0.symm (Vm.Alike.refl _) rfl E3
  obtain rfl := e0.1
  have c4 : Steps p.tables e below (s₁.setTop (entryFrame m #[.ref a, .ref b] 2)) (T3.setTop (mkF m 9 #[.val (.ref a), .val (.ref b)] [])) := g3
  exact ⟨T3, none, _, _, _, X3, by simp, rfl, by omega, (fun _ => rfl), e0, fun fs hl => c4.trans (X3.returnOut hexec hret (hb hbytes d9) hl)⟩
theorem pays {l : Launch} {R : Room} {p : Program} {e : Env} {below : List Frame} {s : State} {sargs : Array Value} {len W : Nat} (a : Addr) (D : Cell) (fV fC : Field) (b : Addr) (A : Cell) (z : Int32) (htab : tab.before sargs s = true) (hfr : 4 ≤ R.frames) (hlo : W + 65 ≤ R.locals) :
    Back l R p e below s sargs yN len W (fun A₁ a₁ => A₁.cells + 1 ≤ R.cells ∧ A₁.slots + A.slots.size ≤ R.slots ∧ P a D fV fC b A z a₁ A₁.U) (fun A₁ _ v₁ B₁ => E a D fV fC A v₁ A₁.U B₁.U ∧ B₁.locs = A₁.locs ++ [⟨a, fC.slot⟩, ⟨a, fV.slot⟩] ∧ B₁.cells = A₁.cells + 1 ∧ B₁.slots = A₁.slots + A.slots.size) :=
  (law l a D fV fC b A z).pays htab hfr (by omega)
end New1
end StrChars
namespace StrChars.Road
open Jvm Sem ClassFile Op Lib Jvm.Stand Jvm.Free Jvm.Free.XT
open Jvm.Lib.Cold (StaticIs)
abbrev ST : String := "java/lang/String"
/-- every table word that New1's law asks, flat -/
abbrev words : List Jvm.Cond := [.code New1.yN New1.yB 2 none, .initialized ST, .methodLink ST 27 New4.yN, .instanceMethod New4.yN,
  .code New4.yN New4.yB 6 none, .fieldLink ST 38 ST "COMPACT_STRINGS" "Z", .laysFinal ST ST "value" "[B", .fieldLink ST 9 ST "value" "[B", .laysFinal ST ST "coder" "B", .fieldLink ST 15 ST "coder" "B",
  .methodLink ST 1 Lib.objectInit, .instanceMethod Lib.objectInit, .code Lib.objectInit ⟨#[0xb1]⟩ 1 none, .methodLink ST 177 Cmp3.yN, .static Cmp3.yN, .methodLink ST 47 CodL.yN, .static CodL.yN,
  .code Cmp3.yN Cmp3.yB 6 (some (.array .byte)), .initialized U16, .arrayClass .byte, .methodLink U16 115 Cmp5.yN, .static Cmp5.yN, .code Cmp5.yN Cmp5.yB 7 (some .int), .code CodL.yN CodL.yB 2 (some .byte)]
theorem tab_of {a : Array Value} {s : State} (h : ∀ w ∈ words, w.before a s = true) : New1.tab.before a s = true := by
  have h5 : Cmp5.tab.before a s = true := unparts (wk h (.code Cmp5.yN Cmp5.yB 7 (some .int))) (wks h (.initialized Cmp5.yN.cls :: Cmp5.site))
  have hc : CodL.tab.before a s = true := unparts (wk h (.code CodL.yN CodL.yB 2 (some .byte))) (wks h (.initialized CodL.yN.cls :: CodL.site))
  have q5 : ∀ w ∈ Cmp5.tab :: words, w.before a s = true := fun w hw => (List.mem_cons.mp hw).elim (fun e => e ▸ h5) (h w)
  have h3 : Cmp3.tab.before a s = true := unparts (wk q5 (.code Cmp3.yN Cmp3.yB 6 (some (.array .byte)))) (wks q5 (.initialized Cmp3.yN.cls :: Cmp3.site))
  have q3 : ∀ w ∈ Cmp3.tab :: CodL.tab :: words, w.before a s = true := fun w hw => (List.mem_cons.mp hw).elim (fun e => e ▸ h3) fun hw => (List.mem_cons.mp hw).elim (fun e => e ▸ hc) (h w)
  have h4 : New4.tab.before a s = true := unparts (wk q3 (.code New4.yN New4.yB 6 none)) (wks q3 (.initialized New4.yN.cls :: New4.site))
  have q4 : ∀ w ∈ New4.tab :: words, w.before a s = true := fun w hw => (List.mem_cons.mp hw).elim (fun e => e ▸ h4) (h w)
  exact unparts (wk q4 (.code New1.yN New1.yB 2 none)) (wks q4 (.initialized New1.yN.cls :: New1.site))
/-- the words ride from the start Z to the walk's own state -/
theorem moved {Z s : State} {a0 args : Array Value} (hZ : Z.Warmed39 s.vm) (hw : ∀ d ∈ words, d.before a0 Z = true) : ∀ d ∈ words, d.before args s = true := fun d hd => by
  have q := hw d hd
  have t : ∀ d ∈ words, d = .arrayClass .byte ∨ (d.onTables && d.keepsFace) = true := by decide +kernel
  rcases t d hd with rfl | t
  · exact RoadKit.mvA hZ q
  · exact RoadKit.mv hZ q t
/-- WHAT COMES BACK, over the tables of the start Z: h the heap at the call, h' behind it -/
def Q (Z : State) (x : Addr) (A : Cell) (h : Heap) (v : Option Value) (h' : Heap) (L : List Loc) : Prop := v = none ∧ (∀ y ∈ L, y.base = x) ∧ RoadKit.Keep h h' [x] ∧ h'.size = h.size + 1 ∧ RoadKit.Exa Z h' x ST ∧ RoadKit.Fld Z h' x ST "value" "[B" (.ref h.size) ∧ RoadKit.Fld Z h' x ST "coder" "B" (.int 0) ∧
  (∃ V : Cell, RoadKit.Arr Z h' h.size V .byte ∧ V.vm = .none ∧ Z.vm.findClass "[B" = some V.cls ∧ V.slots.size = A.slots.size ∧ ∀ j, j < A.slots.size → V.slots[j]? = some (.int (lo8 (cv A j)))) ∧
  ∀ (O n d : String) (w : Value), RoadKit.Fld Z h x O n d w → RoadKit.slotOf Z O n d ≠ RoadKit.slotOf Z ST "value" "[B" → RoadKit.slotOf Z O n d ≠ RoadKit.slotOf Z ST "coder" "B" → RoadKit.Fld Z h' x O n d w
/-- **new String(chars) AT A CALL, IN THE ROAD'S FORM**: for specialBack behind newO: x the fresh String, b the char[] with the cell A -/
theorem back {p : Program} {l : Launch} {e : Env} {R : Room} {s : State} {args : Array Value} {below : List Frame} {len W : Nat} {Z : State} {a0 : Array Value} {h : Heap} (hZ : Z.Warmed39 s.vm) (hw : ∀ d ∈ words, d.before a0 Z = true) {kI : Nat} (wi : (Jvm.Cond.instantiable ST kI).before a0 Z = true)
    {x b : Addr} {A : Cell} {z : Int32} {v0 c0 : Value} (E : RoadKit.Exa Z h x ST) (V : RoadKit.Fld Z h x ST "value" "[B" v0) (C : RoadKit.Fld Z h x ST "coder" "B" c0) (K : RoadKit.Arr Z h b A .char) (hty : Typed .char A) (S : RoadKit.Sta Z h ST "COMPACT_STRINGS" "Z" (.int z)) (hz : ¬ z = 0)
    (l0 : 0 < A.slots.size) (l2 : A.slots.size ≤ 536870912) (hp : ∀ i, i < A.slots.size → ¬ 255 < cv A i) (hfr : 4 ≤ R.frames) (hlo : W + 65 ≤ R.locals) :
    Back l R p e below s args New1.yN len W (fun P a => a = #[.ref x, .ref b] ∧ P.U.heap = h ∧ P.cells + 1 ≤ R.cells ∧ P.slots + A.slots.size ≤ R.slots)
      (fun P _ v B => ∃ L, Q Z x A h v B.U.heap L ∧ B.locs = P.locs ++ L ∧ B.cells = P.cells + 1 ∧ B.slots = P.slots + A.slots.size) := by
  intro m meth c P g ig mk a X hg hsize hdg hW hn hp'
  obtain ⟨rfl, rfl, r1, r2⟩ := hp'
  have al : Z.vm.Alike P.U.vm := hZ.alike.trans X.warmed.alike
  obtain ⟨D, cfV, kV, iV, fV, hD, gV, stV, knV, obV, asV, slV⟩ := id V
  obtain ⟨D', cfC, kC, iC, fC, hD', gC, stC, -, -, asC, slC⟩ := id C
  cases hD.symm.trans hD'
  obtain ⟨D2, kD, e1, e2, e3, e4, e5⟩ := id E
  cases hD.symm.trans e1
  obtain ⟨c2, k2, i1, i2, i3, -⟩ := Cond.instantiable_spec wi
  cases e2.symm.trans i1
  cases e3.symm.trans i2
  obtain ⟨kU, u1, u2⟩ := al.2.2 _ _ e3
  have hB : Blank ST x D P.U := ⟨hD, ⟨knV, fun q hq => by rw [hq] at obV; cases obV⟩, by rw [al.findClass]; exact e2, kU, u1, by rw [u2]; exact i3, by rw [u2]; exact e5 i3⟩
  have F1 : Found ST "value" "[B" fV P.U := ⟨SBG.found_only al ⟨cfV, kV, iV, gV⟩, stV⟩
  have F2 : Found ST "coder" "B" fC P.U := ⟨SBG.found_only al ⟨cfC, kC, iC, gC⟩, stC⟩
  have hA : Ch b A P.U := ⟨⟨K.1, State.isArrayOf_alike al K.2.1, K.2.2, by omega⟩, hty⟩
  have hS : StaticIs P.U ST "COMPACT_STRINGS" "Z" (.int z) := by
    obtain ⟨cfS, iS, kS, fS, st, cS, t1, t2, t3, t4, t5, t6, t7⟩ := S
    exact StaticIs.there (s := { Z with heap := P.U.heap }) ⟨cfS, iS, kS, fS, st, cS, t1, t2, t3, t4, t5, (fun q => by rw [q] at t6; cases t6), t7⟩ al rfl
  obtain ⟨v, B, X', ⟨⟨hv, E', V', q1, q2, q3, q4, q5, q6, q7, q8, q9, q10, q11⟩, hl, hc, hs⟩, st⟩ := New1.pays x D fV fC b A z (tab_of (moved hZ hw)) hfr hlo m meth c P g ig mk _ X hg hsize hdg hW hn ⟨r1, r2, rfl, hB, F1, F2, hA, hS, hz, l0, l2, hp⟩
  have al' : Z.vm.Alike B.U.vm := hZ.alike.trans X'.warmed.alike
  have hsz : E'.slots.size = D.slots.size := by
    obtain ⟨-, -, -, kB, w1, w2, w3⟩ := q1
    obtain ⟨kB', y1, y2⟩ := al'.2.2 _ _ e3
    rw [q2.2.1] at w1
    cases w1.symm.trans y1
    rw [w3, e5 i3, y2]
  refine ⟨v, B, X', ⟨_, ⟨hv, ?_, ⟨by omega, fun y cy hy hn' => q10 y cy (by simpa using hn') hy, fun y cy hy => ?_⟩, q11, ⟨E', _, q1.1, by rw [q2.2.1]; exact e2, by rw [q2.2.1]; exact e3, by rw [q2.1]; exact obV, fun _ => by rw [hsz]; exact e5 i3⟩,
    ⟨E', cfV, kV, iV, fV, q1.1, gV, stV, by rw [q2.1]; exact knV, by rw [q2.1]; exact obV, by rw [q2.2.1]; exact asV, q3⟩, ⟨E', cfC, kC, iC, fC, q1.1, gC, stC, by rw [q2.1]; exact knV, by rw [q2.1]; exact obV, by rw [q2.2.1]; exact asC, q4⟩,
    ⟨V', ⟨q5.1, State.isArrayOf_alike al'.symm q5.2.1, q5.2.2.1⟩, q6, by rw [← al'.findClass]; exact q7, q8, fun j hj => by have := q9 j hj; rwa [Nat.zero_add] at this⟩, fun O n d w F n1 n2 => ?_⟩, hl, hc, hs⟩, st⟩
  · intro y hy
    simp only [List.mem_cons, List.not_mem_nil, or_false] at hy
    rcases hy with rfl | rfl <;> rfl
  · by_cases q : y = x
    · subst q
      cases hD.symm.trans hy
      exact ⟨E', q1.1, q2.2.1, q2.1, hsz⟩
    · exact ⟨cy, q10 y cy q hy, rfl, rfl, rfl⟩
  · obtain ⟨D3, cf, k, i, f, g1, g2, g3, g4, g5, g6, g7⟩ := F
    cases hD.symm.trans g1
    simp only [RoadKit.slotOf, g2, gV, gC, Option.map_some, Option.getD_some] at n1 n2
    exact ⟨E', cf, k, i, f, q1.1, g2, g3, by rw [q2.1]; exact g4, by rw [q2.1]; exact g5, by rw [q2.2.1]; exact g6, by rw [q2.2.2 f.slot (by simp [n1, n2])]; exact g7⟩
end StrChars.Road
namespace StrChars.Road
open Jvm Sem ClassFile Op Lib Jvm.Stand Jvm.Free Jvm.Free.XT
/-- WHAT COMES BACK, the byte[] as a list of values -/
def QA (Z : State) (x : Addr) (zn : Int32) (cs : List Int32) (h : Heap) (v : Option Value) (h' : Heap) (L : List Loc) : Prop := v = none ∧ (∀ y ∈ L, y.base = x) ∧ RoadKit.Keep h h' [x] ∧ h'.size = h.size + 1 ∧ RoadKit.Exa Z h' x ST ∧ RoadKit.Fld Z h' x ST "value" "[B" (.ref h.size) ∧ RoadKit.Fld Z h' x ST "coder" "B" (.int 0) ∧
  (∃ kb, Z.vm.findClass "[B" = some kb ∧ RoadKit.Arv Z h' h.size kb .byte zn (cs.map fun c => .int (lo8 c)) (.int 0)) ∧
  ∀ (O n d : String) (w : Value), RoadKit.Fld Z h x O n d w → RoadKit.slotOf Z O n d ≠ RoadKit.slotOf Z ST "value" "[B" → RoadKit.slotOf Z O n d ≠ RoadKit.slotOf Z ST "coder" "B" → RoadKit.Fld Z h' x O n d w
/-- **new String(chars) AT A CALL, THE ARRAYS AS LISTS**: the char[] at b holds cs, not empty, no char above 255 -/
theorem backArv {p : Program} {l : Launch} {e : Env} {R : Room} {s : State} {args : Array Value} {below : List Frame} {len W : Nat} {Z : State} {a0 : Array Value} {h : Heap} (hZ : Z.Warmed39 s.vm) (hw : ∀ d ∈ words, d.before a0 Z = true) {kI : Nat} (wi : (Jvm.Cond.instantiable ST kI).before a0 Z = true)
    {x b : Addr} {k : ClassId} {zn z : Int32} {cs : List Int32} {dv v0 c0 : Value} (E : RoadKit.Exa Z h x ST) (V : RoadKit.Fld Z h x ST "value" "[B" v0) (C : RoadKit.Fld Z h x ST "coder" "B" c0) (K : RoadKit.Arv Z h b k .char zn (cs.map Value.int) dv) (S : RoadKit.Sta Z h ST "COMPACT_STRINGS" "Z" (.int z)) (hz : ¬ z = 0)
    (hlen : zn.toNatClampNeg = cs.length) (h0 : 0 < cs.length) (hbig : cs.length ≤ 536870912) (hall : ∀ c ∈ cs, ¬ 255 < c) (hfr : 4 ≤ R.frames) (hlo : W + 65 ≤ R.locals) :
    Back l R p e below s args New1.yN len W (fun P a => a = #[.ref x, .ref b] ∧ P.U.heap = h ∧ P.cells + 1 ≤ R.cells ∧ P.slots + cs.length ≤ R.slots)
      (fun P _ v B => ∃ L, QA Z x zn cs h v B.U.heap L ∧ B.locs = P.locs ++ L ∧ B.cells = P.cells + 1 ∧ B.slots = P.slots + cs.length) := by
  obtain ⟨A, K1, K2, K3, K4, K5, K6⟩ := K
  have e : A.slots.size = cs.length := K3.trans hlen
  have hat : ∀ (i : Nat) (hi : i < cs.length), A.slots[i]? = some (.int cs[i]) := fun i hi => by rw [K5 i (by omega)]; simp [List.getD_eq_getElem?_getD, hi]
  have hcv : ∀ (i : Nat) (hi : i < cs.length), cv A i = cs[i] := fun i hi => by unfold cv; rw [hat i hi]
  have hty : Typed .char A := fun i v hv => by
    have hi : i < A.slots.size := (Array.getElem?_eq_some_iff.mp hv).1
    have q := K5 i hi
    rw [hv] at q
    rw [Option.some.inj q]
    exact K6 i hi
  refine Back.mono (back hZ hw wi E V C K1 hty S hz (by omega) (by omega) (fun i hi => by rw [hcv i (by omega)]; exact hall _ (List.getElem_mem _)) hfr hlo) (fun P a hp => ⟨hp.1, hp.2.1, hp.2.2.1, by rw [e]; exact hp.2.2.2⟩) (fun P a v B hp hq => ?_)
  obtain ⟨L, ⟨q1, q2, q3, q4, q5, q6, q7, ⟨V', v1, v2, v3, v4, v5⟩, q9⟩, hl, hc, hs⟩ := hq
  refine ⟨L, ⟨q1, q2, q3, q4, q5, q6, q7, ⟨V'.cls, v3, V', v1, rfl, by rw [v4, e, hlen], K4, fun i hi => ?_, fun i hi => ?_⟩, q9⟩, hl, hc, by rw [hs, e]⟩
  · have hi' : i < cs.length := by omega
    rw [v5 i (by omega), hcv i hi']; simp [List.getD_eq_getElem?_getD, hi']
  · have hi' : i < cs.length := by omega
    simp only [List.getD_eq_getElem?_getD, List.getElem?_map, List.getElem?_eq_getElem hi', Option.map_some, Option.getD_some]
    exact fits_lo8 _
end StrChars.Road
namespace StrChars.Road
open Jvm Sem ClassFile Op Lib Jvm.Stand Jvm.Free Jvm.Free.XT
/-- WHAT COMES BACK, in the writer's own shape -/
def QV (Z : State) (x : Addr) (N : Int32) (bs : List Int32) (h : Heap) (n0 : Nat) (v : Option Value) (h' : Heap) (L : List Loc) : Prop := v = none ∧ RoadKit.Fr n0 L ∧ RoadKit.Keep h h' [x] ∧ RoadKit.Exa Z h' x ST ∧ RoadKit.Fld Z h' x ST "coder" "B" (.int 0) ∧
  ∃ (t : Addr) (kb : ClassId), n0 ≤ t ∧ h.size ≤ t ∧ ¬ t = x ∧ RoadKit.Fld Z h' x ST "value" "[B" (.ref t) ∧ RoadKit.Arv Z h' t kb .byte N (bs.map Value.int) (.int 0)
/-- **new String(chars) AT A CALL, FOR THE WRITER**: a char[] of n known ints, each 0 to 255 -/
theorem backV {p : Program} {l : Launch} {e : Env} {R : Room} {s : State} {args : Array Value} {below : List Frame} {len W : Nat} {Z : State} {a0 : Array Value} {h : Heap} (hZ : Z.Warmed39 s.vm) (hw : ∀ d ∈ words, d.before a0 Z = true) {kI : Nat} (wi : (Jvm.Cond.instantiable ST kI).before a0 Z = true)
    {x b : Addr} {kC : ClassId} {cs bs : List Int32} {d v0 c0 : Value} {z N : Int32} {n n0 : Nat} (hx0 : n0 ≤ x) (hh0 : n0 ≤ h.size) (E : RoadKit.Exa Z h x ST) (V : RoadKit.Fld Z h x ST "value" "[B" v0) (C : RoadKit.Fld Z h x ST "coder" "B" c0) (K : RoadKit.Arv Z h b kC .char N (cs.map Value.int) d) (S : RoadKit.Sta Z h ST "COMPACT_STRINGS" "Z" (.int z)) (hz : ¬ z = 0)
    (hn : cs.length = n) (hN : N = Int32.ofNat n) (l0 : 0 < n) (l2 : n ≤ 4000) (hp : ∀ c ∈ cs, ¬ c < 0 ∧ ¬ (255 : Int32) < c) (hb : bs = cs.map (fun c => c.toInt8.toInt32)) (hfr : 4 ≤ R.frames) (hlo : W + 65 ≤ R.locals) :
    Back l R p e below s args (⟨"java/lang/String", "<init>", "([C)V"⟩ : MethodName) len W (fun P a => a = #[.ref x, .ref b] ∧ P.U.heap = h ∧ P.cells + 1 ≤ R.cells ∧ P.slots + n ≤ R.slots)
      (fun P _ v B => ∃ L, QV Z x N bs h n0 v B.U.heap L ∧ B.locs = P.locs ++ L ∧ B.cells = P.cells + 1 ∧ B.slots = P.slots + n) := by
  subst hn hN hb
  refine Back.mono (backArv hZ hw wi E V C K S hz (n32 (by omega)) l0 (by omega) (fun c hc => (hp c hc).2) hfr hlo) (fun P a hp => hp) (fun P a v B hp hq => ?_)
  obtain ⟨L, ⟨q1, q2, q3, q4, q5, q6, q7, ⟨kb, v1, v2⟩, q9⟩, hl, hc, hs⟩ := hq
  exact ⟨L, ⟨q1, fun y hy => by rw [q2 y hy]; exact hx0, q3, q5, q7, h.size, kb, hh0, Nat.le_refl _, Nat.ne_of_gt E.lt, q6, by rw [List.map_map]; exact v2⟩, hl, hc, hs⟩
end StrChars.Road
end Jvm.Pilot.@@N@@

namespace Jvm.OwnK
open Sem ClassFile Op Lib Jvm.Stand Jvm.Free Jvm.LawKit Jvm.RoadKit
/-- the run from S ends, and well -/
def EndsK (p : Program) (e : Env) (below : List Frame) (QQ : Outcome → State → Prop) (S : State) : Prop :=
  ∃ s₂ o, Steps p.tables e below S s₂ ∧ s₂.status = .running ∧ Ended s₂ below o ∧ QQ o s₂
/-- what a body's contract says of its end -/
abbrev OQ (s : State) (Q : Option Value → Heap → List Loc → Prop) (ck cs : Nat) : Outcome → State → Prop :=
  fun o U' => ∃ v L, o = .returned v ∧ Q v U'.heap L ∧ FrameEnd s o U' L ck cs
section EndsK
variable {p : Program} {e : Env} {below : List Frame} {QQ : Outcome → State → Prop} {S S' T : State}
theorem EndsK.go (h : ∀ t, Steps p.tables e below S' t → Steps p.tables e below S t) (k : EndsK p e below QQ S') : EndsK p e below QQ S := by
  obtain ⟨s₂, o, h1, h2⟩ := k
  exact ⟨s₂, o, h _ h1, h2⟩
theorem EndsK.tr (h : Steps p.tables e below S S') (k : EndsK p e below QQ S') : EndsK p e below QQ S := by
  obtain ⟨s₂, o, h1, h2⟩ := k
  exact ⟨s₂, o, h.trans h1, h2⟩
theorem EndsK.start {g g' : JFrame} (q : g = g') (k : EndsK p e below QQ (T.setTop g')) : EndsK p e below QQ (T.setTop g) := q ▸ k
end EndsK
section Leave
variable {p : Program} {l : Launch} {e : Env} {R : Room} {s : State} {m : MethodId} {args : Array Value} {below : List Frame} {meth : Method} {c : Code} {T : State} {locs : List Loc} {cells slots : Nat} {Q : Option Value → Heap → List Loc → Prop} {ck cs pc : Nat} {Ls : Array Slot} {rest : List Value}
theorem endI (X : Stand p l e R s m args below meth c T locs cells slots) (hx : p.tables.exec = Jvm.exec) {z : Int32} (hret : meth.sig.returnType = some .int) (hd : decode c.code pc = .ok (.ireturn, 1)) (hlk : meth.locks = false)
    (hq : Q (some (.int z)) T.heap locs) (hc : cells ≤ ck) (hs : slots ≤ cs) : EndsK p e below (OQ s Q ck cs) (T.setTop (mkF m pc Ls (.int z :: rest))) := by
  obtain ⟨fs, hr, hrun, hended, hW, hsame⟩ := X.leave (v := some (.int z)) (fun h => by rw [hret] at h; cases h) hlk
  refine ⟨_, _, retOut X hx hret rfl (Or.inl ⟨rfl, Or.inl rfl, _, rfl⟩) hd hr, hrun, hended, _, _, rfl, hq, ⟨_, rfl⟩, hW, hsame.mono hc hs⟩
theorem endN (X : Stand p l e R s m args below meth c T locs cells slots) (hx : p.tables.exec = Jvm.exec) {z : Int32} {t : FieldType} (hret : meth.sig.returnType = some t) (ht : t = .boolean ∨ t = .byte ∨ t = .char ∨ t = .short) (hd : decode c.code pc = .ok (.ireturn, 1)) (hlk : meth.locks = false)
    (hq : Q (some (.int (nar t z))) T.heap locs) (hc : cells ≤ ck) (hs : slots ≤ cs) : EndsK p e below (OQ s Q ck cs) (T.setTop (mkF m pc Ls (.int z :: rest))) := by
  obtain ⟨fs, hr, hrun, hended, hW, hsame⟩ := X.leave (v := some (.int (nar t z))) (fun h => by rw [hret] at h; cases h) hlk
  exact ⟨_, _, retN X hx hret ht hd hr, hrun, hended, _, _, rfl, hq, ⟨_, rfl⟩, hW, hsame.mono hc hs⟩
theorem endJ (X : Stand p l e R s m args below meth c T locs cells slots) (hx : p.tables.exec = Jvm.exec) {z : Int64} (hret : meth.sig.returnType = some .long) (hd : decode c.code pc = .ok (.lreturn, 1)) (hlk : meth.locks = false)
    (hq : Q (some (.long z)) T.heap locs) (hc : cells ≤ ck) (hs : slots ≤ cs) : EndsK p e below (OQ s Q ck cs) (T.setTop (mkF m pc Ls (.long z :: rest))) := by
  obtain ⟨fs, hr, hrun, hended, hW, hsame⟩ := X.leave (v := some (.long z)) (fun h => by rw [hret] at h; cases h) hlk
  exact ⟨_, _, retOut X hx hret rfl (Or.inr (Or.inl ⟨rfl, rfl, _, rfl⟩)) hd hr, hrun, hended, _, _, rfl, hq, ⟨_, rfl⟩, hW, hsame.mono hc hs⟩
theorem endR (X : Stand p l e R s m args below meth c T locs cells slots) (hx : p.tables.exec = Jvm.exec) {w : Value} {t : FieldType} (hret : meth.sig.returnType = some t) (ht : t.isReference = true) (hw : w.isRef = true) (hd : decode c.code pc = .ok (.areturn, 1)) (hlk : meth.locks = false)
    (hq : Q (some w) T.heap locs) (hc : cells ≤ ck) (hs : slots ≤ cs) : EndsK p e below (OQ s Q ck cs) (T.setTop (mkF m pc Ls (w :: rest))) := by
  obtain ⟨fs, hr, hrun, hended, hW, hsame⟩ := X.leave (v := some w) (fun h => by rw [hret] at h; cases h) hlk
  have hn : narrow t w = w := by cases t <;> first | (cases ht; done) | (cases w <;> first | rfl | (cases hw; done))
  exact ⟨_, _, retOut X hx hret hn (Or.inr (Or.inr (Or.inr (Or.inr ⟨rfl, ht, hw⟩)))) hd hr, hrun, hended, _, _, rfl, hq, ⟨_, rfl⟩, hW, hsame.mono hc hs⟩
theorem endV (X : Stand p l e R s m args below meth c T locs cells slots) (hx : p.tables.exec = Jvm.exec) (hret : meth.sig.returnType = none) (hd : decode c.code pc = .ok (.return_, 1)) (hlk : meth.locks = false)
    (hq : Q none T.heap locs) (hc : cells ≤ ck) (hs : slots ≤ cs) : EndsK p e below (OQ s Q ck cs) (T.setTop (mkF m pc Ls [])) := by
  obtain ⟨fs, hr, hrun, hended, hW, hsame⟩ := X.leave (v := none) (fun _ => rfl) hlk
  exact ⟨_, _, X.returnOut hx hret hd hr, hrun, hended, _, _, rfl, hq, ⟨_, rfl⟩, hW, hsame.mono hc hs⟩
end Leave
section Heaps
variable {h0 h h' : Heap} {a : Addr} {sl : Nat} {v : Value}
theorem ext_refl (h : Heap) : Ext h h := ⟨Nat.le_refl _, fun _ _ q => q⟩
theorem ext_trans (E : Ext h0 h) (E' : Ext h h') : Ext h0 h' := ⟨Nat.le_trans E.1 E'.1, fun x c q => E'.2 x c (E.2 x c q)⟩
theorem ext_wr (E : Ext h0 h) (W : Wr h h' a sl v) (q : h0.size ≤ a) : Ext h0 h' := by
  refine ⟨Nat.le_trans E.1 (Nat.le_of_eq W.size.symm), fun x c r => ?_⟩
  obtain ⟨c', e1, -, -, -, e5, -⟩ := wr_at W (E.2 x c r)
  rw [e1, e5 (fun z => by
    subst z
    exact absurd (Array.getElem?_eq_some_iff.mp r).1 (Nat.not_lt.mpr q))]
theorem ext_kept {ws : List Addr} (E : Ext h0 h) (K : Keep h h' ws) (q : ∀ x ∈ ws, h0.size ≤ x) : Ext h0 h' :=
  ⟨Nat.le_trans E.1 K.1, fun x c r => K.2.1 x c (E.2 x c r) fun z => absurd (Array.getElem?_eq_some_iff.mp r).1 (Nat.not_lt.mpr (q x z))⟩
end Heaps
section Nums
theorem own_iadd (x y : Int32) (h1 : -2147483648 ≤ x.toInt + y.toInt) (h2 : x.toInt + y.toInt ≤ 2147483647) : (x + y).toInt = x.toInt + y.toInt := by
  have a := c_iadd x y
  have b := rng32 (x + y)
  omega
theorem own_isub (x y : Int32) (h1 : -2147483648 ≤ x.toInt - y.toInt) (h2 : x.toInt - y.toInt ≤ 2147483647) : (x - y).toInt = x.toInt - y.toInt := by
  have a := c_isub x y
  have b := rng32 (x - y)
  omega
theorem own_ladd (x y : Int64) (h1 : -9223372036854775808 ≤ x.toInt + y.toInt) (h2 : x.toInt + y.toInt ≤ 9223372036854775807) : (x + y).toInt = x.toInt + y.toInt := by
  have a := c_ladd x y
  have b := rng64 (x + y)
  omega
theorem own_lsub (x y : Int64) (h1 : -9223372036854775808 ≤ x.toInt - y.toInt) (h2 : x.toInt - y.toInt ≤ 9223372036854775807) : (x - y).toInt = x.toInt - y.toInt := by
  have a := c_lsub x y
  have b := rng64 (x - y)
  omega
theorem own_l2i (x : Int64) (h1 : -2147483648 ≤ x.toInt) (h2 : x.toInt ≤ 2147483647) : x.toInt32.toInt = x.toInt := by
  have a := c_l2i x
  have b := rng32 x.toInt32
  omega
theorem own_wide (x y : Int32) (d : Int) (hy : y.toInt = d) : (x.toInt64 * y.toInt64).toInt = x.toInt * d := by rw [← hy]; exact XT.wideMul x y
end Nums
section Words
variable {Z : State} {args : Array Value} {t u : Term} {a b : Addr} {C n d O : String} {v : Value}
theorem fldI {k : Int32} (ev : t.eval args Z none [] Z = some (.ref a)) (h : (Cond.eq (.field t O n d) (.int k)).value args Z none Z [] = some true) : Fld Z Z.heap a O n d (.int k) := by
  obtain ⟨x, y, e1, e2, -, k2⟩ := cmp_v (Or.inl h)
  cases e2
  obtain ⟨z, rfl⟩ := k2
  have e3 := (fld_at (C := O) (n := n) (dd := d) ev).symm.trans e1
  have q := gotT (Cond.eq_ints e1 rfl) h
  subst q
  exact Fld.start e3
theorem fldR (ev : t.eval args Z none [] Z = some (.ref a)) (eu : u.eval args Z none [] Z = some (.ref b)) (h : (Cond.eq (.field t O n d) u).value args Z none Z [] = some true) : Fld Z Z.heap a O n d (.ref b) := by
  obtain ⟨x, y, e1, e2, -, k2⟩ := cmp_v (Or.inl h)
  cases eu.symm.trans e2
  have e3 := (fld_at (C := O) (n := n) (dd := d) ev).symm.trans e1
  have q := gotT (eq_R e1 eu k2.2 rfl) h
  subst q
  exact Fld.start e3
theorem fldN (ev : t.eval args Z none [] Z = some (.ref a)) (h : (Cond.eq (.field t O n d) .null).value args Z none Z [] = some true) : Fld Z Z.heap a O n d .null :=
  Fld.start ((fld_at (C := O) (n := n) (dd := d) ev).symm.trans (null_v h))
/-- an int[] of the start: its length and what it holds, as the case says -/
theorem arrLen {k : Int32} {cl : Cell} {ty : FieldType} (ev : t.eval args Z none [] Z = some (.ref a)) (A : Arr Z Z.heap a cl ty) (h : (Cond.eq (.length t) (.int k)).value args Z none Z [] = some true) : cl.slots.size < 2 ^ 31 ∧ cl.slots.size.toInt32 = k := by
  obtain ⟨x, y, e1, e2, -, k2⟩ := cmp_v (Or.inl h)
  cases e2
  obtain ⟨z, rfl⟩ := k2
  have q := gotT (Cond.eq_ints e1 rfl) h
  subst q
  have ha := A.fin (Vm.Alike.refl _)
  simp only [Term.eval, ev, ha, Option.bind_eq_bind, Option.bind_some] at e1
  split at e1
  · rename_i hlt; exact ⟨hlt, by simpa using e1⟩
  · cases e1
theorem arrAt {j k : Int32} {cl : Cell} {ty : FieldType} (ev : t.eval args Z none [] Z = some (.ref a)) (A : Arr Z Z.heap a cl ty) (h : (Cond.eq (.elem t (.int j)) (.int k)).value args Z none Z [] = some true) : ¬ (j < 0 ∨ cl.slots.size ≤ j.toNatClampNeg) ∧ cl.slots[j.toNatClampNeg]? = some (.int k) := by
  obtain ⟨x, y, e1, e2, -, k2⟩ := cmp_v (Or.inl h)
  cases e2
  obtain ⟨z, rfl⟩ := k2
  have q := gotT (Cond.eq_ints e1 rfl) h
  subst q
  exact elem_in e1 ev rfl A.1
end Words
end Jvm.OwnK
namespace Jvm.OwnK
open Sem ClassFile Op Lib Jvm.Stand Jvm.Free Jvm.LawKit Jvm.RoadKit
/-- what a body's contract says of its end, where it may have interned -/
abbrev OW (s : State) (Q : Option Value → Heap → List Loc → Prop) (ck cs : Nat) : Outcome → State → Prop :=
  fun o U' => ∃ v L, o = .returned v ∧ Q v U'.heap L ∧ ReturnedEndW s o U' L ck cs
theorem since0 (s : State) : s.Since s.vm 0 := ⟨State.Warmed39.refl s, fun j p h1 h2 => by
  have := (Array.getElem?_eq_some_iff.mp h2).1
  omega⟩
section WideK
variable {p : Program} {l : Launch} {e : Env} {R : Room} {s : State} {m : MethodId} {args : Array Value} {below : List Frame} {meth : Method} {c : Code} {T : State} {locs : List Loc} {cells slots : Nat} {Q : Option Value → Heap → List Loc → Prop} {ck cs pc : Nat} {Ls : Array Slot} {rest : List Value} {vm1 : Vm} {n : Nat} {S : State}
theorem EndsK.wide (k : EndsK p e below (OQ s Q ck cs) S) : EndsK p e below (OW s Q ck cs) S := by
  obtain ⟨s2, o, h1, h2, h3, v, L, rfl, hq, hF⟩ := k
  exact ⟨_, _, h1, h2, h3, v, L, rfl, hq, ReturnedEndW.of_narrow hF.1 hF.2.1 hF.2.2⟩
theorem endVW (X : Stand p l e R (s.setVm vm1) m args below meth c T locs cells slots) (hS : s.Since vm1 n) (hn : n ≤ T.heap.size) (hx : p.tables.exec = Jvm.exec) (hret : meth.sig.returnType = none) (hd : decode c.code pc = .ok (.return_, 1)) (hlk : meth.locks = false)
    (hq : Q none T.heap locs) (hc : cells ≤ ck) (hs : slots ≤ cs) : EndsK p e below (OW s Q ck cs) (T.setTop (mkF m pc Ls [])) := by
  obtain ⟨fs, hr, hrun, hended, hR⟩ := X.leaveW hS hn (v := none) (fun _ => rfl) hlk
  exact ⟨_, _, X.returnOut hx hret hd hr, hrun, hended, _, _, rfl, hq, hR.1, hR.2.1, hR.2.2.1, hR.2.2.2.mono hc hs⟩
theorem endNW (X : Stand p l e R (s.setVm vm1) m args below meth c T locs cells slots) (hS : s.Since vm1 n) (hn : n ≤ T.heap.size) (hx : p.tables.exec = Jvm.exec) {z : Int32} {t : FieldType} (hret : meth.sig.returnType = some t) (ht : t = .boolean ∨ t = .byte ∨ t = .char ∨ t = .short) (hd : decode c.code pc = .ok (.ireturn, 1)) (hlk : meth.locks = false)
    (hq : Q (some (.int (nar t z))) T.heap locs) (hc : cells ≤ ck) (hs : slots ≤ cs) : EndsK p e below (OW s Q ck cs) (T.setTop (mkF m pc Ls (.int z :: rest))) := by
  obtain ⟨fs, hr, hrun, hended, hR⟩ := X.leaveW hS hn (v := some (.int (nar t z))) (fun h => by rw [hret] at h; cases h) hlk
  exact ⟨_, _, retN X hx hret ht hd hr, hrun, hended, _, _, rfl, hq, hR.1, hR.2.1, hR.2.2.1, hR.2.2.2.mono hc hs⟩
theorem backOfK {Z : State} {a0 : Array Value} {EL : List (String × Nat)} {h : Heap} {y : MethodName} {bytes : ByteArray} {maxL : Nat} {ret : Option FieldType} {rm : Room} {len W : Nat} {as' : Array Value} {x : Addr}
    (hM : MetFree l y (head1 [Cond.code y bytes maxL ret] rm) (fun a U => a = as' ∧ Z.Warmed39 U.vm ∧ U.heap = h ∧ CHv Z EL U.vm h ∧ Safe Z EL U.vm h x) (fun _ _ _ _ _ => True) (fun _ U o U' => ∃ v L, o = .returned v ∧ Q v U'.heap L ∧ ReturnedEndW U o U' L rm.cells rm.slots))
    (hZ : Z.Warmed39 s.vm) (wc : (Cond.code y bytes maxL ret).before a0 Z = true) (wz : (Cond.initialized y.cls).before a0 Z = true) (hf : rm.frames + 1 ≤ R.frames) (hl : W + (maxL + 11) + rm.locals ≤ R.locals) (hEL : EW Z a0 EL) (H : CHv Z EL s.vm h) (hxs : x < h.size) (hS : Safe Z EL s.vm h x) :
    BackS l R p e below s args y len W (fun A a => a = as' ∧ A.U.heap = h ∧ A.cells + rm.cells ≤ R.cells ∧ A.slots + rm.slots ≤ R.slots)
      (fun A _ v B => ∃ L, Q v B.U.heap L ∧ B.locs = A.locs ++ L ∧ B.cells = A.cells + rm.cells ∧ B.slots = A.slots + rm.slots) :=
  BackS.of_freeW (bytes := bytes) (maxL := maxL) (ret := ret) (E := fun _ _ o t L k n => k = rm.cells ∧ n = rm.slots ∧ ∃ v, o = .returned v ∧ Q v t.heap L) hM hf hl
    (fun m meth c A a Y hp => have hU : Z.Warmed39 A.U.vm := wtrans hZ Y.warmed
      ⟨by show (Cond.and _ .tt).before a A.U = true; rw [Cond.before_and, mv hU wc]; rfl, mv hU wc, mv hU wz, hp.2.2.1, hp.2.2.2⟩)
    (fun m meth c A a g mk Y hp => have C := CHv.at (s := s) (vm0 := s.vm) Y hZ hEL H
      ⟨hp.1, wtrans hZ Y.warmed, hp.2.1, C.1, C.safe hxs hS⟩) (fun _ _ _ _ _ _ _ _ _ => trivial)
    (fun _ _ _ _ ⟨v, L, h1, h2, h3⟩ => ⟨L, _, _, h3, rfl, rfl, v, h1, h2⟩)
    (fun m meth c A a g mk v t L k n Y hp _ _ ⟨e1, e2, v', e3, e4⟩ => by cases e3; subst e1 e2; exact ⟨L, e4, rfl, rfl, rfl⟩)
end WideK
end Jvm.OwnK
namespace Jvm.Pilot.@@N@@
open Jvm Jvm.ClassFile Sem Op Lib Jvm.Free Jvm.Stand Jvm.LawKit Jvm.RoadKit Jvm.OwnK Bundle Jvm.Pilot.@@N@@.Jvm.D
def lf1 (p0 q0 : Int32) : Int32 := if p0 = q0 then 1 else 0
def lf2 (p0 p1 q0 q1 : Int32) : Int32 := if p0 = q0 then (if p1 = q1 then 1 else 0) else 0
theorem lf1_01 (p0 q0 : Int32) : lf1 p0 q0 = 0 ∨ lf1 p0 q0 = 1 := by unfold lf1; split <;> simp
theorem lf2_01 (p0 p1 q0 q1 : Int32) : lf2 p0 p1 q0 q1 = 0 ∨ lf2 p0 p1 q0 q1 = 1 := by unfold lf2; split <;> (try split) <;> simp
def ofL : List (Int32 × Value) → Value
  | [] => .null
  | (e, v) :: r => if e = 0 then ofL r else v
theorem d1_0 : decode method_2_code 0 = .ok (.iload_n 0, 1) := by decide +kernel
theorem d1_1 : decode method_2_code 1 = .ok (.sipush 256, 3) := by decide +kernel
theorem d1_4 : decode method_2_code 4 = .ok (.iand, 1) := by decide +kernel
theorem d1_5 : decode method_2_code 5 = .ok (.ifCond .eq 33, 3) := by decide +kernel
theorem d1_8 : decode method_2_code 8 = .ok (.iload_n 0, 1) := by decide +kernel
theorem d1_9 : decode method_2_code 9 = .ok (.iconst 3, 1) := by decide +kernel
theorem d1_10 : decode method_2_code 10 = .ok (.iand, 1) := by decide +kernel
theorem d1_11 : decode method_2_code 11 = .ok (.istore_n 1, 1) := by decide +kernel
theorem d1_12 : decode method_2_code 12 = .ok (.iload_n 1, 1) := by decide +kernel
theorem d1_13 : decode method_2_code 13 = .ok (.ifCond .ne 6, 3) := by decide +kernel
theorem d1_16 : decode method_2_code 16 = .ok (.bipush 61, 2) := by decide +kernel
theorem d1_18 : decode method_2_code 18 = .ok (.ireturn, 1) := by decide +kernel
theorem d1_19 : decode method_2_code 19 = .ok (.iload_n 1, 1) := by decide +kernel
theorem d1_20 : decode method_2_code 20 = .ok (.iconst 1, 1) := by decide +kernel
theorem d1_21 : decode method_2_code 21 = .ok (.if_icmp .ne 6, 3) := by decide +kernel
theorem d1_24 : decode method_2_code 24 = .ok (.bipush 33, 2) := by decide +kernel
theorem d1_26 : decode method_2_code 26 = .ok (.ireturn, 1) := by decide +kernel
theorem d1_27 : decode method_2_code 27 = .ok (.iload_n 1, 1) := by decide +kernel
theorem d1_28 : decode method_2_code 28 = .ok (.iconst 2, 1) := by decide +kernel
theorem d1_29 : decode method_2_code 29 = .ok (.if_icmp .ne 6, 3) := by decide +kernel
theorem d1_32 : decode method_2_code 32 = .ok (.bipush 60, 2) := by decide +kernel
theorem d1_34 : decode method_2_code 34 = .ok (.ireturn, 1) := by decide +kernel
theorem d1_35 : decode method_2_code 35 = .ok (.bipush 62, 2) := by decide +kernel
theorem d1_37 : decode method_2_code 37 = .ok (.ireturn, 1) := by decide +kernel
theorem d1_38 : decode method_2_code 38 = .ok (.iload_n 0, 1) := by decide +kernel
theorem d1_39 : decode method_2_code 39 = .ok (.sipush 255, 3) := by decide +kernel
theorem d1_42 : decode method_2_code 42 = .ok (.iand, 1) := by decide +kernel
theorem d1_43 : decode method_2_code 43 = .ok (.i2c, 1) := by decide +kernel
theorem d1_44 : decode method_2_code 44 = .ok (.ireturn, 1) := by decide +kernel
theorem pn0 : plainName "com/example/windrow/windrow/ComparisonOfPinLaw" = true := by first | (simp [plainName, overriddenIn]; done) | decide +kernel
theorem ef_pick (m : MethodId) (x0 : Int32) : entryFrame m #[(.int x0)] 2 = mkF m 0 #[.val (.int x0), .unset] [] := by first | (simp [entryFrame, mkF, argsToLocals, Value.category]; done) | rfl
def Q_pick (Z : State) (x0 : Int32) (h0 : Heap) (n0 : Nat) (vz : Option Value) (hz : Heap) (Lz : List Loc) : Prop := ∃ r : Int32, vz = some (.int r) ∧ Fr n0 Lz ∧ hz = h0 ∧ ¬ r < 0 ∧ ¬ (255 : Int32) < r
set_option maxRecDepth 65536 in
set_option maxHeartbeats 40000000 in
theorem rm_pick (l : Launch) (Z : State) (a0 : Array Value) (hw : ∀ d ∈ tables_1, d.before a0 Z = true) (ws : List Jvm.Cond) (x0 : Int32) (h0 : Heap) (n0 : Nat) (Z0 : n0 ≤ h0.size)  :
    MetFree l (⟨"com/example/windrow/windrow/ComparisonOfPinLaw", "pick", "(I)C"⟩ : MethodName) (head1 (Jvm.Cond.code (⟨"com/example/windrow/windrow/ComparisonOfPinLaw", "pick", "(I)C"⟩ : MethodName) method_2_code 2 (some .char) :: ws) ({ frames := 0, cells := 0, slots := 0, locals := 0 } : Room)) (fun az Uz => az = #[(.int x0)] ∧ Z.Warmed39 Uz.vm ∧ Uz.heap = h0) (fun _ _ _ _ _ => True) (fun _ Uz oz Ut => ∃ vz Lz, oz = .returned vz ∧ Q_pick Z x0 h0 n0 vz Ut.heap Lz ∧ FrameEnd Uz oz Ut Lz (({ frames := 0, cells := 0, slots := 0, locals := 0 } : Room)).cells (({ frames := 0, cells := 0, slots := 0, locals := 0 } : Room)).slots) := by
  refine MetFree.of_bodySF (plainFor_of_name pn0) hisR ?_
  intro p e s m args below meth c s₁ Bd hml0 hP hK
  obtain ⟨rfl, hZ, hh⟩ := hP
  have hx := Bd.exec
  have hby := Bd.bytes
  have hml : c.maxLocals = 2 := hml0
  have hown : s.vm.findClass "com/example/windrow/windrow/ComparisonOfPinLaw" = some m.cls := findClass_of_methodNamed Bd.named
  have hnm := (name_of_methodNamed Bd.named Bd.method).1
  have hlk : meth.locks = false := Bd.notSynchronized
  have X0 : Stand p l e ({ frames := 0, cells := 0, slots := 0, locals := 0 } : Room) s m #[(.int x0)] below meth c s₁ [] 0 0 := Stand.of_body Bd
  have e0 : s₁.heap = h0 := by rw [← hh, Bd.state]; rfl
  have N0 := Fr.nil n0
  show EndsK p e below (OQ s (Q_pick Z x0 h0 n0) (({ frames := 0, cells := 0, slots := 0, locals := 0 } : Room)).cells (({ frames := 0, cells := 0, slots := 0, locals := 0 } : Room)).slots) (s₁.setTop (entryFrame m #[(.int x0)] 2))
  refine EndsK.start (ef_pick m x0) ?_
  show EndsK p e below _ (s₁.setTop (mkF m 0 #[.val (.int x0), .unset] []))
  refine EndsK.go (fun _ kz => XS.iloadN X0.here hx rfl (hb hby d1_0) rfl kz) ?_
  show EndsK p e below _ (s₁.setTop (mkF m 1 #[.val (.int x0), .unset] [(.int x0)]))
  refine EndsK.go (fun _ kz => XS.sipush X0.here hx rfl (hb hby d1_1) kz) ?_
  show EndsK p e below _ (s₁.setTop (mkF m 4 #[.val (.int x0), .unset] [(.int (256 : Int32)), (.int x0)]))
  refine EndsK.go (fun _ kz => XS.iand X0.here hx rfl (hb hby d1_4) rfl kz) ?_
  show EndsK p e below _ (s₁.setTop (mkF m 5 #[.val (.int x0), .unset] [(.int (x0 &&& (256 : Int32)))]))
  by_cases H5_1 : (x0 &&& (256 : Int32)) = (0 : Int32)
  · refine EndsK.go (fun _ kz => XS.ifYes X0.here hx rfl (pc0 := 5) (pc' := 38) rfl (hb hby d1_5) rfl ((if0 _ _).trans (teq H5_1).1) (by decide) (by decide) kz) ?_
    show EndsK p e below _ (s₁.setTop (mkF m 38 #[.val (.int x0), .unset] []))
    refine EndsK.go (fun _ kz => XS.iloadN X0.here hx rfl (hb hby d1_38) rfl kz) ?_
    show EndsK p e below _ (s₁.setTop (mkF m 39 #[.val (.int x0), .unset] [(.int x0)]))
    refine EndsK.go (fun _ kz => XS.sipush X0.here hx rfl (hb hby d1_39) kz) ?_
    show EndsK p e below _ (s₁.setTop (mkF m 42 #[.val (.int x0), .unset] [(.int (255 : Int32)), (.int x0)]))
    refine EndsK.go (fun _ kz => XS.iand X0.here hx rfl (hb hby d1_42) rfl kz) ?_
    show EndsK p e below _ (s₁.setTop (mkF m 43 #[.val (.int x0), .unset] [(.int (x0 &&& (255 : Int32)))]))
    refine EndsK.go (fun _ kz => XS.i2c X0.here hx rfl (hb hby d1_43) rfl kz) ?_
    show EndsK p e below _ (s₁.setTop (mkF m 44 #[.val (.int x0), .unset] [(.int (x0 &&& (255 : Int32)).toUInt32.toUInt16.toUInt32.toInt32)]))
    exact endN X0 hx (t := .char) Bd.returns (by simp) (hb hby d1_44) hlk ⟨_, rfl, N0, e0, by
        have i2 := i2c_mask x0
        first | exact ⟨by decide, by decide⟩ | (refine ⟨?_, ?_⟩ <;> (simp only [nar]; rw [i2c_mask, i2c_mask]; have q := c_mask x0 255 8 (by decide) (by decide); rw [Int32.lt_iff_toInt_lt]; have z0 : (0 : Int32).toInt = 0 := rfl; have z1 : (255 : Int32).toInt = 255 := rfl; omega))⟩ (by decide) (by decide)
  · refine EndsK.go (fun _ kz => XS.ifNo X0.here hx rfl (hb hby d1_5) rfl ((if0 _ _).trans (feq H5_1).1) kz) ?_
    show EndsK p e below _ (s₁.setTop (mkF m 8 #[.val (.int x0), .unset] []))
    refine EndsK.go (fun _ kz => XS.iloadN X0.here hx rfl (hb hby d1_8) rfl kz) ?_
    show EndsK p e below _ (s₁.setTop (mkF m 9 #[.val (.int x0), .unset] [(.int x0)]))
    refine EndsK.go (fun _ kz => XS.iconst X0.here hx rfl (hb hby d1_9) kz) ?_
    show EndsK p e below _ (s₁.setTop (mkF m 10 #[.val (.int x0), .unset] [(.int (3 : Int32)), (.int x0)]))
    refine EndsK.go (fun _ kz => XS.iand X0.here hx rfl (hb hby d1_10) rfl kz) ?_
    show EndsK p e below _ (s₁.setTop (mkF m 11 #[.val (.int x0), .unset] [(.int (x0 &&& (3 : Int32)))]))
    refine EndsK.go (fun _ kz => XS.istoreN X0.here hx rfl (hb hby d1_11) rfl (l' := #[.val (.int x0), .val (.int (x0 &&& (3 : Int32)))]) rfl kz) ?_
    show EndsK p e below _ (s₁.setTop (mkF m 12 #[.val (.int x0), .val (.int (x0 &&& (3 : Int32)))] []))
    refine EndsK.go (fun _ kz => XS.iloadN X0.here hx rfl (hb hby d1_12) rfl kz) ?_
    show EndsK p e below _ (s₁.setTop (mkF m 13 #[.val (.int x0), .val (.int (x0 &&& (3 : Int32)))] [(.int (x0 &&& (3 : Int32)))]))
    by_cases H13_2 : (x0 &&& (3 : Int32)) = (0 : Int32)
    · refine EndsK.go (fun _ kz => XS.ifNo X0.here hx rfl (hb hby d1_13) rfl ((if0 _ _).trans (teq H13_2).2) kz) ?_
      show EndsK p e below _ (s₁.setTop (mkF m 16 #[.val (.int x0), .val (.int (x0 &&& (3 : Int32)))] []))
      refine EndsK.go (fun _ kz => XS.bipush X0.here hx rfl (hb hby d1_16) kz) ?_
      show EndsK p e below _ (s₁.setTop (mkF m 18 #[.val (.int x0), .val (.int (x0 &&& (3 : Int32)))] [(.int (61 : Int32))]))
      exact endN X0 hx (t := .char) Bd.returns (by simp) (hb hby d1_18) hlk ⟨_, rfl, N0, e0, by
          have i2 := i2c_mask x0
          first | exact ⟨by decide, by decide⟩ | (refine ⟨?_, ?_⟩ <;> (simp only [nar]; rw [i2c_mask, i2c_mask]; have q := c_mask x0 255 8 (by decide) (by decide); rw [Int32.lt_iff_toInt_lt]; have z0 : (0 : Int32).toInt = 0 := rfl; have z1 : (255 : Int32).toInt = 255 := rfl; omega))⟩ (by decide) (by decide)
    · refine EndsK.go (fun _ kz => XS.ifYes X0.here hx rfl (pc0 := 13) (pc' := 19) rfl (hb hby d1_13) rfl ((if0 _ _).trans (feq H13_2).2) (by decide) (by decide) kz) ?_
      show EndsK p e below _ (s₁.setTop (mkF m 19 #[.val (.int x0), .val (.int (x0 &&& (3 : Int32)))] []))
      refine EndsK.go (fun _ kz => XS.iloadN X0.here hx rfl (hb hby d1_19) rfl kz) ?_
      show EndsK p e below _ (s₁.setTop (mkF m 20 #[.val (.int x0), .val (.int (x0 &&& (3 : Int32)))] [(.int (x0 &&& (3 : Int32)))]))
      refine EndsK.go (fun _ kz => XS.iconst X0.here hx rfl (hb hby d1_20) kz) ?_
      show EndsK p e below _ (s₁.setTop (mkF m 21 #[.val (.int x0), .val (.int (x0 &&& (3 : Int32)))] [(.int (1 : Int32)), (.int (x0 &&& (3 : Int32)))]))
      by_cases H21_3 : (x0 &&& (3 : Int32)) = (1 : Int32)
      · refine EndsK.go (fun _ kz => XS.icmpNo X0.here hx rfl (hb hby d1_21) rfl (teq H21_3).2 kz) ?_
        show EndsK p e below _ (s₁.setTop (mkF m 24 #[.val (.int x0), .val (.int (x0 &&& (3 : Int32)))] []))
        refine EndsK.go (fun _ kz => XS.bipush X0.here hx rfl (hb hby d1_24) kz) ?_
        show EndsK p e below _ (s₁.setTop (mkF m 26 #[.val (.int x0), .val (.int (x0 &&& (3 : Int32)))] [(.int (33 : Int32))]))
        exact endN X0 hx (t := .char) Bd.returns (by simp) (hb hby d1_26) hlk ⟨_, rfl, N0, e0, by
            have i2 := i2c_mask x0
            first | exact ⟨by decide, by decide⟩ | (refine ⟨?_, ?_⟩ <;> (simp only [nar]; rw [i2c_mask, i2c_mask]; have q := c_mask x0 255 8 (by decide) (by decide); rw [Int32.lt_iff_toInt_lt]; have z0 : (0 : Int32).toInt = 0 := rfl; have z1 : (255 : Int32).toInt = 255 := rfl; omega))⟩ (by decide) (by decide)
      · refine EndsK.go (fun _ kz => XS.icmpYes X0.here hx rfl (pc0 := 21) (pc' := 27) rfl (hb hby d1_21) rfl (feq H21_3).2 (by decide) (by decide) kz) ?_
        show EndsK p e below _ (s₁.setTop (mkF m 27 #[.val (.int x0), .val (.int (x0 &&& (3 : Int32)))] []))
        refine EndsK.go (fun _ kz => XS.iloadN X0.here hx rfl (hb hby d1_27) rfl kz) ?_
        show EndsK p e below _ (s₁.setTop (mkF m 28 #[.val (.int x0), .val (.int (x0 &&& (3 : Int32)))] [(.int (x0 &&& (3 : Int32)))]))
        refine EndsK.go (fun _ kz => XS.iconst X0.here hx rfl (hb hby d1_28) kz) ?_
        show EndsK p e below _ (s₁.setTop (mkF m 29 #[.val (.int x0), .val (.int (x0 &&& (3 : Int32)))] [(.int (2 : Int32)), (.int (x0 &&& (3 : Int32)))]))
        by_cases H29_4 : (x0 &&& (3 : Int32)) = (2 : Int32)
        · refine EndsK.go (fun _ kz => XS.icmpNo X0.here hx rfl (hb hby d1_29) rfl (teq H29_4).2 kz) ?_
          show EndsK p e below _ (s₁.setTop (mkF m 32 #[.val (.int x0), .val (.int (x0 &&& (3 : Int32)))] []))
          refine EndsK.go (fun _ kz => XS.bipush X0.here hx rfl (hb hby d1_32) kz) ?_
          show EndsK p e below _ (s₁.setTop (mkF m 34 #[.val (.int x0), .val (.int (x0 &&& (3 : Int32)))] [(.int (60 : Int32))]))
          exact endN X0 hx (t := .char) Bd.returns (by simp) (hb hby d1_34) hlk ⟨_, rfl, N0, e0, by
              have i2 := i2c_mask x0
              first | exact ⟨by decide, by decide⟩ | (refine ⟨?_, ?_⟩ <;> (simp only [nar]; rw [i2c_mask, i2c_mask]; have q := c_mask x0 255 8 (by decide) (by decide); rw [Int32.lt_iff_toInt_lt]; have z0 : (0 : Int32).toInt = 0 := rfl; have z1 : (255 : Int32).toInt = 255 := rfl; omega))⟩ (by decide) (by decide)
        · refine EndsK.go (fun _ kz => XS.icmpYes X0.here hx rfl (pc0 := 29) (pc' := 35) rfl (hb hby d1_29) rfl (feq H29_4).2 (by decide) (by decide) kz) ?_
          show EndsK p e below _ (s₁.setTop (mkF m 35 #[.val (.int x0), .val (.int (x0 &&& (3 : Int32)))] []))
          refine EndsK.go (fun _ kz => XS.bipush X0.here hx rfl (hb hby d1_35) kz) ?_
          show EndsK p e below _ (s₁.setTop (mkF m 37 #[.val (.int x0), .val (.int (x0 &&& (3 : Int32)))] [(.int (62 : Int32))]))
          exact endN X0 hx (t := .char) Bd.returns (by simp) (hb hby d1_37) hlk ⟨_, rfl, N0, e0, by
              have i2 := i2c_mask x0
              first | exact ⟨by decide, by decide⟩ | (refine ⟨?_, ?_⟩ <;> (simp only [nar]; rw [i2c_mask, i2c_mask]; have q := c_mask x0 255 8 (by decide) (by decide); rw [Int32.lt_iff_toInt_lt]; have z0 : (0 : Int32).toInt = 0 := rfl; have z1 : (255 : Int32).toInt = 255 := rfl; omega))⟩ (by decide) (by decide)
theorem d8_0 : decode jdk_43_method_13_code 0 = .ok (.aload_n 0, 1) := by decide +kernel
theorem d8_1 : decode jdk_43_method_13_code 1 = .ok (.arraylength, 1) := by decide +kernel
theorem d8_2 : decode jdk_43_method_13_code 2 = .ok (.aload_n 1, 1) := by decide +kernel
theorem d8_3 : decode jdk_43_method_13_code 3 = .ok (.arraylength, 1) := by decide +kernel
theorem d8_4 : decode jdk_43_method_13_code 4 = .ok (.if_icmp .ne 30, 3) := by decide +kernel
theorem d8_7 : decode jdk_43_method_13_code 7 = .ok (.iconst 0, 1) := by decide +kernel
theorem d8_8 : decode jdk_43_method_13_code 8 = .ok (.istore_n 2, 1) := by decide +kernel
theorem d8_9 : decode jdk_43_method_13_code 9 = .ok (.iload_n 2, 1) := by decide +kernel
theorem d8_10 : decode jdk_43_method_13_code 10 = .ok (.aload_n 0, 1) := by decide +kernel
theorem d8_11 : decode jdk_43_method_13_code 11 = .ok (.arraylength, 1) := by decide +kernel
theorem d8_12 : decode jdk_43_method_13_code 12 = .ok (.if_icmp .ge 20, 3) := by decide +kernel
theorem d8_15 : decode jdk_43_method_13_code 15 = .ok (.aload_n 0, 1) := by decide +kernel
theorem d8_16 : decode jdk_43_method_13_code 16 = .ok (.iload_n 2, 1) := by decide +kernel
theorem d8_17 : decode jdk_43_method_13_code 17 = .ok (.baload, 1) := by decide +kernel
theorem d8_18 : decode jdk_43_method_13_code 18 = .ok (.aload_n 1, 1) := by decide +kernel
theorem d8_19 : decode jdk_43_method_13_code 19 = .ok (.iload_n 2, 1) := by decide +kernel
theorem d8_20 : decode jdk_43_method_13_code 20 = .ok (.baload, 1) := by decide +kernel
theorem d8_21 : decode jdk_43_method_13_code 21 = .ok (.if_icmp .eq 5, 3) := by decide +kernel
theorem d8_24 : decode jdk_43_method_13_code 24 = .ok (.iconst 0, 1) := by decide +kernel
theorem d8_25 : decode jdk_43_method_13_code 25 = .ok (.ireturn, 1) := by decide +kernel
theorem d8_26 : decode jdk_43_method_13_code 26 = .ok (.iinc 2 1, 3) := by decide +kernel
theorem d8_29 : decode jdk_43_method_13_code 29 = .ok (.goto (-20), 3) := by decide +kernel
theorem d8_32 : decode jdk_43_method_13_code 32 = .ok (.iconst 1, 1) := by decide +kernel
theorem d8_33 : decode jdk_43_method_13_code 33 = .ok (.ireturn, 1) := by decide +kernel
theorem d8_34 : decode jdk_43_method_13_code 34 = .ok (.iconst 0, 1) := by decide +kernel
theorem d8_35 : decode jdk_43_method_13_code 35 = .ok (.ireturn, 1) := by decide +kernel
theorem pn1 : plainName "java/lang/StringLatin1" = true := by first | (simp [plainName, overriddenIn]; done) | decide +kernel
theorem ef_lat10 (m : MethodId) (va : Addr) (vb : Addr) (ca : Cell) (cb : Cell) : entryFrame m #[(.ref va), (.ref vb)] 3 = mkF m 0 #[.val (.ref va), .val (.ref vb), .unset] [] := by first | (simp [entryFrame, mkF, argsToLocals, Value.category]; done) | rfl
def Q_lat10 (Z : State) (va : Addr) (vb : Addr) (ca : Cell) (cb : Cell) (h0 : Heap) (n0 : Nat) (vz : Option Value) (hz : Heap) (Lz : List Loc) : Prop := vz = some (.int (0 : Int32)) ∧ Fr n0 Lz ∧ hz = h0
set_option maxRecDepth 65536 in
set_option maxHeartbeats 40000000 in
theorem rm_lat10 (l : Launch) (Z : State) (a0 : Array Value) (hw : ∀ d ∈ tables_1, d.before a0 Z = true) (ws : List Jvm.Cond) (va : Addr) (vb : Addr) (ca : Cell) (cb : Cell) (h0 : Heap) (n0 : Nat) (Z0 : n0 ≤ h0.size) (Aa : Arr Z h0 va ca .byte) (Ab : Arr Z h0 vb cb .byte) (za : ca.slots.size.toInt32 = (1 : Int32)) (zb : cb.slots.size.toInt32 = (0 : Int32)) :
    MetFree l (⟨"java/lang/StringLatin1", "equals", "([B[B)Z"⟩ : MethodName) (head1 (Jvm.Cond.code (⟨"java/lang/StringLatin1", "equals", "([B[B)Z"⟩ : MethodName) jdk_43_method_13_code 3 (some .boolean) :: ws) ({ frames := 0, cells := 0, slots := 0, locals := 0 } : Room)) (fun az Uz => az = #[(.ref va), (.ref vb)] ∧ Z.Warmed39 Uz.vm ∧ Uz.heap = h0) (fun _ _ _ _ _ => True) (fun _ Uz oz Ut => ∃ vz Lz, oz = .returned vz ∧ Q_lat10 Z va vb ca cb h0 n0 vz Ut.heap Lz ∧ FrameEnd Uz oz Ut Lz (({ frames := 0, cells := 0, slots := 0, locals := 0 } : Room)).cells (({ frames := 0, cells := 0, slots := 0, locals := 0 } : Room)).slots) := by
  refine MetFree.of_bodySF (plainFor_of_name pn1) hisR ?_
  intro p e s m args below meth c s₁ Bd hml0 hP hK
  obtain ⟨rfl, hZ, hh⟩ := hP
  have hx := Bd.exec
  have hby := Bd.bytes
  have hml : c.maxLocals = 3 := hml0
  have hown : s.vm.findClass "java/lang/StringLatin1" = some m.cls := findClass_of_methodNamed Bd.named
  have hnm := (name_of_methodNamed Bd.named Bd.method).1
  have hlk : meth.locks = false := Bd.notSynchronized
  have X0 : Stand p l e ({ frames := 0, cells := 0, slots := 0, locals := 0 } : Room) s m #[(.ref va), (.ref vb)] below meth c s₁ [] 0 0 := Stand.of_body Bd
  have e0 : s₁.heap = h0 := by rw [← hh, Bd.state]; rfl
  have N0 := Fr.nil n0
  show EndsK p e below (OQ s (Q_lat10 Z va vb ca cb h0 n0) (({ frames := 0, cells := 0, slots := 0, locals := 0 } : Room)).cells (({ frames := 0, cells := 0, slots := 0, locals := 0 } : Room)).slots) (s₁.setTop (entryFrame m #[(.ref va), (.ref vb)] 3))
  refine EndsK.start (ef_lat10 m va vb ca cb) ?_
  show EndsK p e below _ (s₁.setTop (mkF m 0 #[.val (.ref va), .val (.ref vb), .unset] []))
  refine EndsK.go (fun _ kz => XS.aloadN X0.here hx rfl (hb hby d8_0) rfl rfl kz) ?_
  show EndsK p e below _ (s₁.setTop (mkF m 1 #[.val (.ref va), .val (.ref vb), .unset] [(.ref va)]))
  refine EndsK.go (fun tz kz => X0.arraylength hx (by rw [e0]; exact Aa.1) (State.isArrayOf_alike hZ.alike Aa.2.1) (g := (mkF m 1 #[.val (.ref va), .val (.ref vb), .unset] [(.ref va)])) rfl rfl (hb hby d8_1) tz kz) ?_
  rw [za]
  show EndsK p e below _ (s₁.setTop (mkF m 2 #[.val (.ref va), .val (.ref vb), .unset] [(.int (1 : Int32))]))
  refine EndsK.go (fun _ kz => XS.aloadN X0.here hx rfl (hb hby d8_2) rfl rfl kz) ?_
  show EndsK p e below _ (s₁.setTop (mkF m 3 #[.val (.ref va), .val (.ref vb), .unset] [(.ref vb), (.int (1 : Int32))]))
  refine EndsK.go (fun tz kz => X0.arraylength hx (by rw [e0]; exact Ab.1) (State.isArrayOf_alike hZ.alike Ab.2.1) (g := (mkF m 3 #[.val (.ref va), .val (.ref vb), .unset] [(.ref vb), (.int (1 : Int32))])) rfl rfl (hb hby d8_3) tz kz) ?_
  rw [zb]
  show EndsK p e below _ (s₁.setTop (mkF m 4 #[.val (.ref va), .val (.ref vb), .unset] [(.int (0 : Int32)), (.int (1 : Int32))]))
  refine EndsK.go (fun _ kz => XS.icmpYes X0.here hx rfl (pc0 := 4) (pc' := 34) rfl (hb hby d8_4) rfl (feq (by decide : ¬ ((1 : Int32) = (0 : Int32)))).2 (by decide) (by decide) kz) ?_
  show EndsK p e below _ (s₁.setTop (mkF m 34 #[.val (.ref va), .val (.ref vb), .unset] []))
  refine EndsK.go (fun _ kz => XS.iconst X0.here hx rfl (hb hby d8_34) kz) ?_
  show EndsK p e below _ (s₁.setTop (mkF m 35 #[.val (.ref va), .val (.ref vb), .unset] [(.int (0 : Int32))]))
  exact endN X0 hx (t := .boolean) Bd.returns (by simp) (hb hby d8_35) hlk ⟨rfl, N0, e0⟩ (by decide) (by decide)
theorem ef_lat11 (m : MethodId) (va : Addr) (vb : Addr) (ca : Cell) (cb : Cell) (p0 : Int32) (q0 : Int32) : entryFrame m #[(.ref va), (.ref vb)] 3 = mkF m 0 #[.val (.ref va), .val (.ref vb), .unset] [] := by first | (simp [entryFrame, mkF, argsToLocals, Value.category]; done) | rfl
def Q_lat11 (Z : State) (va : Addr) (vb : Addr) (ca : Cell) (cb : Cell) (p0 : Int32) (q0 : Int32) (h0 : Heap) (n0 : Nat) (vz : Option Value) (hz : Heap) (Lz : List Loc) : Prop := vz = some (.int (lf1 p0 q0)) ∧ Fr n0 Lz ∧ hz = h0
set_option maxRecDepth 65536 in
set_option maxHeartbeats 40000000 in
theorem rm_lat11 (l : Launch) (Z : State) (a0 : Array Value) (hw : ∀ d ∈ tables_1, d.before a0 Z = true) (ws : List Jvm.Cond) (va : Addr) (vb : Addr) (ca : Cell) (cb : Cell) (p0 : Int32) (q0 : Int32) (h0 : Heap) (n0 : Nat) (Z0 : n0 ≤ h0.size) (Aa : Arr Z h0 va ca .byte) (Ab : Arr Z h0 vb cb .byte) (za : ca.slots.size.toInt32 = (1 : Int32)) (zb : cb.slots.size.toInt32 = (1 : Int32)) (ua0 : ¬ ((0 : Int32) < 0 ∨ ca.slots.size ≤ (0 : Int32).toNatClampNeg) ∧ ca.slots[(0 : Int32).toNatClampNeg]? = some (.int p0)) (ub0 : ¬ ((0 : Int32) < 0 ∨ cb.slots.size ≤ (0 : Int32).toNatClampNeg) ∧ cb.slots[(0 : Int32).toNatClampNeg]? = some (.int q0)) :
    MetFree l (⟨"java/lang/StringLatin1", "equals", "([B[B)Z"⟩ : MethodName) (head1 (Jvm.Cond.code (⟨"java/lang/StringLatin1", "equals", "([B[B)Z"⟩ : MethodName) jdk_43_method_13_code 3 (some .boolean) :: ws) ({ frames := 0, cells := 0, slots := 0, locals := 0 } : Room)) (fun az Uz => az = #[(.ref va), (.ref vb)] ∧ Z.Warmed39 Uz.vm ∧ Uz.heap = h0) (fun _ _ _ _ _ => True) (fun _ Uz oz Ut => ∃ vz Lz, oz = .returned vz ∧ Q_lat11 Z va vb ca cb p0 q0 h0 n0 vz Ut.heap Lz ∧ FrameEnd Uz oz Ut Lz (({ frames := 0, cells := 0, slots := 0, locals := 0 } : Room)).cells (({ frames := 0, cells := 0, slots := 0, locals := 0 } : Room)).slots) := by
  refine MetFree.of_bodySF (plainFor_of_name pn1) hisR ?_
  intro p e s m args below meth c s₁ Bd hml0 hP hK
  obtain ⟨rfl, hZ, hh⟩ := hP
  have hx := Bd.exec
  have hby := Bd.bytes
  have hml : c.maxLocals = 3 := hml0
  have hown : s.vm.findClass "java/lang/StringLatin1" = some m.cls := findClass_of_methodNamed Bd.named
  have hnm := (name_of_methodNamed Bd.named Bd.method).1
  have hlk : meth.locks = false := Bd.notSynchronized
  have X0 : Stand p l e ({ frames := 0, cells := 0, slots := 0, locals := 0 } : Room) s m #[(.ref va), (.ref vb)] below meth c s₁ [] 0 0 := Stand.of_body Bd
  have e0 : s₁.heap = h0 := by rw [← hh, Bd.state]; rfl
  have N0 := Fr.nil n0
  show EndsK p e below (OQ s (Q_lat11 Z va vb ca cb p0 q0 h0 n0) (({ frames := 0, cells := 0, slots := 0, locals := 0 } : Room)).cells (({ frames := 0, cells := 0, slots := 0, locals := 0 } : Room)).slots) (s₁.setTop (entryFrame m #[(.ref va), (.ref vb)] 3))
  refine EndsK.start (ef_lat11 m va vb ca cb p0 q0) ?_
  show EndsK p e below _ (s₁.setTop (mkF m 0 #[.val (.ref va), .val (.ref vb), .unset] []))
  refine EndsK.go (fun _ kz => XS.aloadN X0.here hx rfl (hb hby d8_0) rfl rfl kz) ?_
  show EndsK p e below _ (s₁.setTop (mkF m 1 #[.val (.ref va), .val (.ref vb), .unset] [(.ref va)]))
  refine EndsK.go (fun tz kz => X0.arraylength hx (by rw [e0]; exact Aa.1) (State.isArrayOf_alike hZ.alike Aa.2.1) (g := (mkF m 1 #[.val (.ref va), .val (.ref vb), .unset] [(.ref va)])) rfl rfl (hb hby d8_1) tz kz) ?_
  rw [za]
  show EndsK p e below _ (s₁.setTop (mkF m 2 #[.val (.ref va), .val (.ref vb), .unset] [(.int (1 : Int32))]))
  refine EndsK.go (fun _ kz => XS.aloadN X0.here hx rfl (hb hby d8_2) rfl rfl kz) ?_
  show EndsK p e below _ (s₁.setTop (mkF m 3 #[.val (.ref va), .val (.ref vb), .unset] [(.ref vb), (.int (1 : Int32))]))
  refine EndsK.go (fun tz kz => X0.arraylength hx (by rw [e0]; exact Ab.1) (State.isArrayOf_alike hZ.alike Ab.2.1) (g := (mkF m 3 #[.val (.ref va), .val (.ref vb), .unset] [(.ref vb), (.int (1 : Int32))])) rfl rfl (hb hby d8_3) tz kz) ?_
  rw [zb]
  show EndsK p e below _ (s₁.setTop (mkF m 4 #[.val (.ref va), .val (.ref vb), .unset] [(.int (1 : Int32)), (.int (1 : Int32))]))
  refine EndsK.go (fun _ kz => XS.icmpNo X0.here hx rfl (hb hby d8_4) rfl (teq (rfl : (1 : Int32) = (1 : Int32))).2 kz) ?_
  show EndsK p e below _ (s₁.setTop (mkF m 7 #[.val (.ref va), .val (.ref vb), .unset] []))
  refine EndsK.go (fun _ kz => XS.iconst X0.here hx rfl (hb hby d8_7) kz) ?_
  show EndsK p e below _ (s₁.setTop (mkF m 8 #[.val (.ref va), .val (.ref vb), .unset] [(.int (0 : Int32))]))
  refine EndsK.go (fun _ kz => XS.istoreN X0.here hx rfl (hb hby d8_8) rfl (l' := #[.val (.ref va), .val (.ref vb), .val (.int (0 : Int32))]) rfl kz) ?_
  show EndsK p e below _ (s₁.setTop (mkF m 9 #[.val (.ref va), .val (.ref vb), .val (.int (0 : Int32))] []))
  refine EndsK.go (fun _ kz => XS.iloadN X0.here hx rfl (hb hby d8_9) rfl kz) ?_
  show EndsK p e below _ (s₁.setTop (mkF m 10 #[.val (.ref va), .val (.ref vb), .val (.int (0 : Int32))] [(.int (0 : Int32))]))
  refine EndsK.go (fun _ kz => XS.aloadN X0.here hx rfl (hb hby d8_10) rfl rfl kz) ?_
  show EndsK p e below _ (s₁.setTop (mkF m 11 #[.val (.ref va), .val (.ref vb), .val (.int (0 : Int32))] [(.ref va), (.int (0 : Int32))]))
  refine EndsK.go (fun tz kz => X0.arraylength hx (by rw [e0]; exact Aa.1) (State.isArrayOf_alike hZ.alike Aa.2.1) (g := (mkF m 11 #[.val (.ref va), .val (.ref vb), .val (.int (0 : Int32))] [(.ref va), (.int (0 : Int32))])) rfl rfl (hb hby d8_11) tz kz) ?_
  rw [za]
  show EndsK p e below _ (s₁.setTop (mkF m 12 #[.val (.ref va), .val (.ref vb), .val (.int (0 : Int32))] [(.int (1 : Int32)), (.int (0 : Int32))]))
  refine EndsK.go (fun _ kz => XS.icmpNo X0.here hx rfl (hb hby d8_12) rfl (tlt (by decide : (0 : Int32) < (1 : Int32))).2.1 kz) ?_
  show EndsK p e below _ (s₁.setTop (mkF m 15 #[.val (.ref va), .val (.ref vb), .val (.int (0 : Int32))] []))
  refine EndsK.go (fun _ kz => XS.aloadN X0.here hx rfl (hb hby d8_15) rfl rfl kz) ?_
  show EndsK p e below _ (s₁.setTop (mkF m 16 #[.val (.ref va), .val (.ref vb), .val (.int (0 : Int32))] [(.ref va)]))
  refine EndsK.go (fun _ kz => XS.iloadN X0.here hx rfl (hb hby d8_16) rfl kz) ?_
  show EndsK p e below _ (s₁.setTop (mkF m 17 #[.val (.ref va), .val (.ref vb), .val (.int (0 : Int32))] [(.int (0 : Int32)), (.ref va)]))
  refine EndsK.go (fun tz kz => X0.baloadBytes hx (j := (0 : Int32)) (v := (.int p0)) (by rw [e0]; exact Aa.1) (State.isArrayOf_alike hZ.alike Aa.2.1) Aa.2.2 ua0.1 ua0.2 (g := (mkF m 17 #[.val (.ref va), .val (.ref vb), .val (.int (0 : Int32))] [(.int (0 : Int32)), (.ref va)])) rfl rfl (hb hby d8_17) tz kz) ?_
  show EndsK p e below _ (s₁.setTop (mkF m 18 #[.val (.ref va), .val (.ref vb), .val (.int (0 : Int32))] [(.int p0)]))
  refine EndsK.go (fun _ kz => XS.aloadN X0.here hx rfl (hb hby d8_18) rfl rfl kz) ?_
  show EndsK p e below _ (s₁.setTop (mkF m 19 #[.val (.ref va), .val (.ref vb), .val (.int (0 : Int32))] [(.ref vb), (.int p0)]))
  refine EndsK.go (fun _ kz => XS.iloadN X0.here hx rfl (hb hby d8_19) rfl kz) ?_
  show EndsK p e below _ (s₁.setTop (mkF m 20 #[.val (.ref va), .val (.ref vb), .val (.int (0 : Int32))] [(.int (0 : Int32)), (.ref vb), (.int p0)]))
  refine EndsK.go (fun tz kz => X0.baloadBytes hx (j := (0 : Int32)) (v := (.int q0)) (by rw [e0]; exact Ab.1) (State.isArrayOf_alike hZ.alike Ab.2.1) Ab.2.2 ub0.1 ub0.2 (g := (mkF m 20 #[.val (.ref va), .val (.ref vb), .val (.int (0 : Int32))] [(.int (0 : Int32)), (.ref vb), (.int p0)])) rfl rfl (hb hby d8_20) tz kz) ?_
  show EndsK p e below _ (s₁.setTop (mkF m 21 #[.val (.ref va), .val (.ref vb), .val (.int (0 : Int32))] [(.int q0), (.int p0)]))
  by_cases H21_1 : p0 = q0
  · refine EndsK.go (fun _ kz => XS.icmpYes X0.here hx rfl (pc0 := 21) (pc' := 26) rfl (hb hby d8_21) rfl (teq H21_1).1 (by decide) (by decide) kz) ?_
    show EndsK p e below _ (s₁.setTop (mkF m 26 #[.val (.ref va), .val (.ref vb), .val (.int (0 : Int32))] []))
    refine EndsK.go (fun _ kz => XS.iinc X0.here hx rfl (hb hby d8_26) rfl (l' := #[.val (.ref va), .val (.ref vb), .val (.int (1 : Int32))]) rfl kz) ?_
    show EndsK p e below _ (s₁.setTop (mkF m 29 #[.val (.ref va), .val (.ref vb), .val (.int (1 : Int32))] []))
    refine EndsK.go (fun _ kz => XS.goto X0.here hx rfl (pc0 := 29) (pc' := 9) rfl (hb hby d8_29) (by decide) (by decide) kz) ?_
    show EndsK p e below _ (s₁.setTop (mkF m 9 #[.val (.ref va), .val (.ref vb), .val (.int (1 : Int32))] []))
    refine EndsK.go (fun _ kz => XS.iloadN X0.here hx rfl (hb hby d8_9) rfl kz) ?_
    show EndsK p e below _ (s₁.setTop (mkF m 10 #[.val (.ref va), .val (.ref vb), .val (.int (1 : Int32))] [(.int (1 : Int32))]))
    refine EndsK.go (fun _ kz => XS.aloadN X0.here hx rfl (hb hby d8_10) rfl rfl kz) ?_
    show EndsK p e below _ (s₁.setTop (mkF m 11 #[.val (.ref va), .val (.ref vb), .val (.int (1 : Int32))] [(.ref va), (.int (1 : Int32))]))
    refine EndsK.go (fun tz kz => X0.arraylength hx (by rw [e0]; exact Aa.1) (State.isArrayOf_alike hZ.alike Aa.2.1) (g := (mkF m 11 #[.val (.ref va), .val (.ref vb), .val (.int (1 : Int32))] [(.ref va), (.int (1 : Int32))])) rfl rfl (hb hby d8_11) tz kz) ?_
    rw [za]
    show EndsK p e below _ (s₁.setTop (mkF m 12 #[.val (.ref va), .val (.ref vb), .val (.int (1 : Int32))] [(.int (1 : Int32)), (.int (1 : Int32))]))
    refine EndsK.go (fun _ kz => XS.icmpYes X0.here hx rfl (pc0 := 12) (pc' := 32) rfl (hb hby d8_12) rfl (flt (by decide : ¬ ((1 : Int32) < (1 : Int32)))).2.1 (by decide) (by decide) kz) ?_
    show EndsK p e below _ (s₁.setTop (mkF m 32 #[.val (.ref va), .val (.ref vb), .val (.int (1 : Int32))] []))
    refine EndsK.go (fun _ kz => XS.iconst X0.here hx rfl (hb hby d8_32) kz) ?_
    show EndsK p e below _ (s₁.setTop (mkF m 33 #[.val (.ref va), .val (.ref vb), .val (.int (1 : Int32))] [(.int (1 : Int32))]))
    exact endN X0 hx (t := .boolean) Bd.returns (by simp) (hb hby d8_33) hlk ⟨(congrArg (fun z => some (Value.int z)) (by simp [lf1, lf2, H21_1] : (lf1 p0 q0) = (1 : Int32))).symm, N0, e0⟩ (by decide) (by decide)
  · refine EndsK.go (fun _ kz => XS.icmpNo X0.here hx rfl (hb hby d8_21) rfl (feq H21_1).1 kz) ?_
    show EndsK p e below _ (s₁.setTop (mkF m 24 #[.val (.ref va), .val (.ref vb), .val (.int (0 : Int32))] []))
    refine EndsK.go (fun _ kz => XS.iconst X0.here hx rfl (hb hby d8_24) kz) ?_
    show EndsK p e below _ (s₁.setTop (mkF m 25 #[.val (.ref va), .val (.ref vb), .val (.int (0 : Int32))] [(.int (0 : Int32))]))
    exact endN X0 hx (t := .boolean) Bd.returns (by simp) (hb hby d8_25) hlk ⟨(congrArg (fun z => some (Value.int z)) (by simp [lf1, lf2, H21_1] : (lf1 p0 q0) = (0 : Int32))).symm, N0, e0⟩ (by decide) (by decide)
theorem ef_lat12 (m : MethodId) (va : Addr) (vb : Addr) (ca : Cell) (cb : Cell) : entryFrame m #[(.ref va), (.ref vb)] 3 = mkF m 0 #[.val (.ref va), .val (.ref vb), .unset] [] := by first | (simp [entryFrame, mkF, argsToLocals, Value.category]; done) | rfl
def Q_lat12 (Z : State) (va : Addr) (vb : Addr) (ca : Cell) (cb : Cell) (h0 : Heap) (n0 : Nat) (vz : Option Value) (hz : Heap) (Lz : List Loc) : Prop := vz = some (.int (0 : Int32)) ∧ Fr n0 Lz ∧ hz = h0
set_option maxRecDepth 65536 in
set_option maxHeartbeats 40000000 in
theorem rm_lat12 (l : Launch) (Z : State) (a0 : Array Value) (hw : ∀ d ∈ tables_1, d.before a0 Z = true) (ws : List Jvm.Cond) (va : Addr) (vb : Addr) (ca : Cell) (cb : Cell) (h0 : Heap) (n0 : Nat) (Z0 : n0 ≤ h0.size) (Aa : Arr Z h0 va ca .byte) (Ab : Arr Z h0 vb cb .byte) (za : ca.slots.size.toInt32 = (1 : Int32)) (zb : cb.slots.size.toInt32 = (2 : Int32)) :
    MetFree l (⟨"java/lang/StringLatin1", "equals", "([B[B)Z"⟩ : MethodName) (head1 (Jvm.Cond.code (⟨"java/lang/StringLatin1", "equals", "([B[B)Z"⟩ : MethodName) jdk_43_method_13_code 3 (some .boolean) :: ws) ({ frames := 0, cells := 0, slots := 0, locals := 0 } : Room)) (fun az Uz => az = #[(.ref va), (.ref vb)] ∧ Z.Warmed39 Uz.vm ∧ Uz.heap = h0) (fun _ _ _ _ _ => True) (fun _ Uz oz Ut => ∃ vz Lz, oz = .returned vz ∧ Q_lat12 Z va vb ca cb h0 n0 vz Ut.heap Lz ∧ FrameEnd Uz oz Ut Lz (({ frames := 0, cells := 0, slots := 0, locals := 0 } : Room)).cells (({ frames := 0, cells := 0, slots := 0, locals := 0 } : Room)).slots) := by
  refine MetFree.of_bodySF (plainFor_of_name pn1) hisR ?_
  intro p e s m args below meth c s₁ Bd hml0 hP hK
  obtain ⟨rfl, hZ, hh⟩ := hP
  have hx := Bd.exec
  have hby := Bd.bytes
  have hml : c.maxLocals = 3 := hml0
  have hown : s.vm.findClass "java/lang/StringLatin1" = some m.cls := findClass_of_methodNamed Bd.named
  have hnm := (name_of_methodNamed Bd.named Bd.method).1
  have hlk : meth.locks = false := Bd.notSynchronized
  have X0 : Stand p l e ({ frames := 0, cells := 0, slots := 0, locals := 0 } : Room) s m #[(.ref va), (.ref vb)] below meth c s₁ [] 0 0 := Stand.of_body Bd
  have e0 : s₁.heap = h0 := by rw [← hh, Bd.state]; rfl
  have N0 := Fr.nil n0
  show EndsK p e below (OQ s (Q_lat12 Z va vb ca cb h0 n0) (({ frames := 0, cells := 0, slots := 0, locals := 0 } : Room)).cells (({ frames := 0, cells := 0, slots := 0, locals := 0 } : Room)).slots) (s₁.setTop (entryFrame m #[(.ref va), (.ref vb)] 3))
  refine EndsK.start (ef_lat12 m va vb ca cb) ?_
  show EndsK p e below _ (s₁.setTop (mkF m 0 #[.val (.ref va), .val (.ref vb), .unset] []))
  refine EndsK.go (fun _ kz => XS.aloadN X0.here hx rfl (hb hby d8_0) rfl rfl kz) ?_
  show EndsK p e below _ (s₁.setTop (mkF m 1 #[.val (.ref va), .val (.ref vb), .unset] [(.ref va)]))
  refine EndsK.go (fun tz kz => X0.arraylength hx (by rw [e0]; exact Aa.1) (State.isArrayOf_alike hZ.alike Aa.2.1) (g := (mkF m 1 #[.val (.ref va), .val (.ref vb), .unset] [(.ref va)])) rfl rfl (hb hby d8_1) tz kz) ?_
  rw [za]
  show EndsK p e below _ (s₁.setTop (mkF m 2 #[.val (.ref va), .val (.ref vb), .unset] [(.int (1 : Int32))]))
  refine EndsK.go (fun _ kz => XS.aloadN X0.here hx rfl (hb hby d8_2) rfl rfl kz) ?_
  show EndsK p e below _ (s₁.setTop (mkF m 3 #[.val (.ref va), .val (.ref vb), .unset] [(.ref vb), (.int (1 : Int32))]))
  refine EndsK.go (fun tz kz => X0.arraylength hx (by rw [e0]; exact Ab.1) (State.isArrayOf_alike hZ.alike Ab.2.1) (g := (mkF m 3 #[.val (.ref va), .val (.ref vb), .unset] [(.ref vb), (.int (1 : Int32))])) rfl rfl (hb hby d8_3) tz kz) ?_
  rw [zb]
  show EndsK p e below _ (s₁.setTop (mkF m 4 #[.val (.ref va), .val (.ref vb), .unset] [(.int (2 : Int32)), (.int (1 : Int32))]))
  refine EndsK.go (fun _ kz => XS.icmpYes X0.here hx rfl (pc0 := 4) (pc' := 34) rfl (hb hby d8_4) rfl (feq (by decide : ¬ ((1 : Int32) = (2 : Int32)))).2 (by decide) (by decide) kz) ?_
  show EndsK p e below _ (s₁.setTop (mkF m 34 #[.val (.ref va), .val (.ref vb), .unset] []))
  refine EndsK.go (fun _ kz => XS.iconst X0.here hx rfl (hb hby d8_34) kz) ?_
  show EndsK p e below _ (s₁.setTop (mkF m 35 #[.val (.ref va), .val (.ref vb), .unset] [(.int (0 : Int32))]))
  exact endN X0 hx (t := .boolean) Bd.returns (by simp) (hb hby d8_35) hlk ⟨rfl, N0, e0⟩ (by decide) (by decide)
theorem ef_lat13 (m : MethodId) (va : Addr) (vb : Addr) (ca : Cell) (cb : Cell) : entryFrame m #[(.ref va), (.ref vb)] 3 = mkF m 0 #[.val (.ref va), .val (.ref vb), .unset] [] := by first | (simp [entryFrame, mkF, argsToLocals, Value.category]; done) | rfl
def Q_lat13 (Z : State) (va : Addr) (vb : Addr) (ca : Cell) (cb : Cell) (h0 : Heap) (n0 : Nat) (vz : Option Value) (hz : Heap) (Lz : List Loc) : Prop := vz = some (.int (0 : Int32)) ∧ Fr n0 Lz ∧ hz = h0
set_option maxRecDepth 65536 in
set_option maxHeartbeats 40000000 in
theorem rm_lat13 (l : Launch) (Z : State) (a0 : Array Value) (hw : ∀ d ∈ tables_1, d.before a0 Z = true) (ws : List Jvm.Cond) (va : Addr) (vb : Addr) (ca : Cell) (cb : Cell) (h0 : Heap) (n0 : Nat) (Z0 : n0 ≤ h0.size) (Aa : Arr Z h0 va ca .byte) (Ab : Arr Z h0 vb cb .byte) (za : ca.slots.size.toInt32 = (1 : Int32)) (zb : cb.slots.size.toInt32 = (3 : Int32)) :
    MetFree l (⟨"java/lang/StringLatin1", "equals", "([B[B)Z"⟩ : MethodName) (head1 (Jvm.Cond.code (⟨"java/lang/StringLatin1", "equals", "([B[B)Z"⟩ : MethodName) jdk_43_method_13_code 3 (some .boolean) :: ws) ({ frames := 0, cells := 0, slots := 0, locals := 0 } : Room)) (fun az Uz => az = #[(.ref va), (.ref vb)] ∧ Z.Warmed39 Uz.vm ∧ Uz.heap = h0) (fun _ _ _ _ _ => True) (fun _ Uz oz Ut => ∃ vz Lz, oz = .returned vz ∧ Q_lat13 Z va vb ca cb h0 n0 vz Ut.heap Lz ∧ FrameEnd Uz oz Ut Lz (({ frames := 0, cells := 0, slots := 0, locals := 0 } : Room)).cells (({ frames := 0, cells := 0, slots := 0, locals := 0 } : Room)).slots) := by
  refine MetFree.of_bodySF (plainFor_of_name pn1) hisR ?_
  intro p e s m args below meth c s₁ Bd hml0 hP hK
  obtain ⟨rfl, hZ, hh⟩ := hP
  have hx := Bd.exec
  have hby := Bd.bytes
  have hml : c.maxLocals = 3 := hml0
  have hown : s.vm.findClass "java/lang/StringLatin1" = some m.cls := findClass_of_methodNamed Bd.named
  have hnm := (name_of_methodNamed Bd.named Bd.method).1
  have hlk : meth.locks = false := Bd.notSynchronized
  have X0 : Stand p l e ({ frames := 0, cells := 0, slots := 0, locals := 0 } : Room) s m #[(.ref va), (.ref vb)] below meth c s₁ [] 0 0 := Stand.of_body Bd
  have e0 : s₁.heap = h0 := by rw [← hh, Bd.state]; rfl
  have N0 := Fr.nil n0
  show EndsK p e below (OQ s (Q_lat13 Z va vb ca cb h0 n0) (({ frames := 0, cells := 0, slots := 0, locals := 0 } : Room)).cells (({ frames := 0, cells := 0, slots := 0, locals := 0 } : Room)).slots) (s₁.setTop (entryFrame m #[(.ref va), (.ref vb)] 3))
  refine EndsK.start (ef_lat13 m va vb ca cb) ?_
  show EndsK p e below _ (s₁.setTop (mkF m 0 #[.val (.ref va), .val (.ref vb), .unset] []))
  refine EndsK.go (fun _ kz => XS.aloadN X0.here hx rfl (hb hby d8_0) rfl rfl kz) ?_
  show EndsK p e below _ (s₁.setTop (mkF m 1 #[.val (.ref va), .val (.ref vb), .unset] [(.ref va)]))
  refine EndsK.go (fun tz kz => X0.arraylength hx (by rw [e0]; exact Aa.1) (State.isArrayOf_alike hZ.alike Aa.2.1) (g := (mkF m 1 #[.val (.ref va), .val (.ref vb), .unset] [(.ref va)])) rfl rfl (hb hby d8_1) tz kz) ?_
  rw [za]
  show EndsK p e below _ (s₁.setTop (mkF m 2 #[.val (.ref va), .val (.ref vb), .unset] [(.int (1 : Int32))]))
  refine EndsK.go (fun _ kz => XS.aloadN X0.here hx rfl (hb hby d8_2) rfl rfl kz) ?_
  show EndsK p e below _ (s₁.setTop (mkF m 3 #[.val (.ref va), .val (.ref vb), .unset] [(.ref vb), (.int (1 : Int32))]))
  refine EndsK.go (fun tz kz => X0.arraylength hx (by rw [e0]; exact Ab.1) (State.isArrayOf_alike hZ.alike Ab.2.1) (g := (mkF m 3 #[.val (.ref va), .val (.ref vb), .unset] [(.ref vb), (.int (1 : Int32))])) rfl rfl (hb hby d8_3) tz kz) ?_
  rw [zb]
  show EndsK p e below _ (s₁.setTop (mkF m 4 #[.val (.ref va), .val (.ref vb), .unset] [(.int (3 : Int32)), (.int (1 : Int32))]))
  refine EndsK.go (fun _ kz => XS.icmpYes X0.here hx rfl (pc0 := 4) (pc' := 34) rfl (hb hby d8_4) rfl (feq (by decide : ¬ ((1 : Int32) = (3 : Int32)))).2 (by decide) (by decide) kz) ?_
  show EndsK p e below _ (s₁.setTop (mkF m 34 #[.val (.ref va), .val (.ref vb), .unset] []))
  refine EndsK.go (fun _ kz => XS.iconst X0.here hx rfl (hb hby d8_34) kz) ?_
  show EndsK p e below _ (s₁.setTop (mkF m 35 #[.val (.ref va), .val (.ref vb), .unset] [(.int (0 : Int32))]))
  exact endN X0 hx (t := .boolean) Bd.returns (by simp) (hb hby d8_35) hlk ⟨rfl, N0, e0⟩ (by decide) (by decide)
theorem ef_lat20 (m : MethodId) (va : Addr) (vb : Addr) (ca : Cell) (cb : Cell) : entryFrame m #[(.ref va), (.ref vb)] 3 = mkF m 0 #[.val (.ref va), .val (.ref vb), .unset] [] := by first | (simp [entryFrame, mkF, argsToLocals, Value.category]; done) | rfl
def Q_lat20 (Z : State) (va : Addr) (vb : Addr) (ca : Cell) (cb : Cell) (h0 : Heap) (n0 : Nat) (vz : Option Value) (hz : Heap) (Lz : List Loc) : Prop := vz = some (.int (0 : Int32)) ∧ Fr n0 Lz ∧ hz = h0
set_option maxRecDepth 65536 in
set_option maxHeartbeats 40000000 in
theorem rm_lat20 (l : Launch) (Z : State) (a0 : Array Value) (hw : ∀ d ∈ tables_1, d.before a0 Z = true) (ws : List Jvm.Cond) (va : Addr) (vb : Addr) (ca : Cell) (cb : Cell) (h0 : Heap) (n0 : Nat) (Z0 : n0 ≤ h0.size) (Aa : Arr Z h0 va ca .byte) (Ab : Arr Z h0 vb cb .byte) (za : ca.slots.size.toInt32 = (2 : Int32)) (zb : cb.slots.size.toInt32 = (0 : Int32)) :
    MetFree l (⟨"java/lang/StringLatin1", "equals", "([B[B)Z"⟩ : MethodName) (head1 (Jvm.Cond.code (⟨"java/lang/StringLatin1", "equals", "([B[B)Z"⟩ : MethodName) jdk_43_method_13_code 3 (some .boolean) :: ws) ({ frames := 0, cells := 0, slots := 0, locals := 0 } : Room)) (fun az Uz => az = #[(.ref va), (.ref vb)] ∧ Z.Warmed39 Uz.vm ∧ Uz.heap = h0) (fun _ _ _ _ _ => True) (fun _ Uz oz Ut => ∃ vz Lz, oz = .returned vz ∧ Q_lat20 Z va vb ca cb h0 n0 vz Ut.heap Lz ∧ FrameEnd Uz oz Ut Lz (({ frames := 0, cells := 0, slots := 0, locals := 0 } : Room)).cells (({ frames := 0, cells := 0, slots := 0, locals := 0 } : Room)).slots) := by
  refine MetFree.of_bodySF (plainFor_of_name pn1) hisR ?_
  intro p e s m args below meth c s₁ Bd hml0 hP hK
  obtain ⟨rfl, hZ, hh⟩ := hP
  have hx := Bd.exec
  have hby := Bd.bytes
  have hml : c.maxLocals = 3 := hml0
  have hown : s.vm.findClass "java/lang/StringLatin1" = some m.cls := findClass_of_methodNamed Bd.named
  have hnm := (name_of_methodNamed Bd.named Bd.method).1
  have hlk : meth.locks = false := Bd.notSynchronized
  have X0 : Stand p l e ({ frames := 0, cells := 0, slots := 0, locals := 0 } : Room) s m #[(.ref va), (.ref vb)] below meth c s₁ [] 0 0 := Stand.of_body Bd
  have e0 : s₁.heap = h0 := by rw [← hh, Bd.state]; rfl
  have N0 := Fr.nil n0
  show EndsK p e below (OQ s (Q_lat20 Z va vb ca cb h0 n0) (({ frames := 0, cells := 0, slots := 0, locals := 0 } : Room)).cells (({ frames := 0, cells := 0, slots := 0, locals := 0 } : Room)).slots) (s₁.setTop (entryFrame m #[(.ref va), (.ref vb)] 3))
  refine EndsK.start (ef_lat20 m va vb ca cb) ?_
  show EndsK p e below _ (s₁.setTop (mkF m 0 #[.val (.ref va), .val (.ref vb), .unset] []))
  refine EndsK.go (fun _ kz => XS.aloadN X0.here hx rfl (hb hby d8_0) rfl rfl kz) ?_
  show EndsK p e below _ (s₁.setTop (mkF m 1 #[.val (.ref va), .val (.ref vb), .unset] [(.ref va)]))
  refine EndsK.go (fun tz kz => X0.arraylength hx (by rw [e0]; exact Aa.1) (State.isArrayOf_alike hZ.alike Aa.2.1) (g := (mkF m 1 #[.val (.ref va), .val (.ref vb), .unset] [(.ref va)])) rfl rfl (hb hby d8_1) tz kz) ?_
  rw [za]
  show EndsK p e below _ (s₁.setTop (mkF m 2 #[.val (.ref va), .val (.ref vb), .unset] [(.int (2 : Int32))]))
  refine EndsK.go (fun _ kz => XS.aloadN X0.here hx rfl (hb hby d8_2) rfl rfl kz) ?_
  show EndsK p e below _ (s₁.setTop (mkF m 3 #[.val (.ref va), .val (.ref vb), .unset] [(.ref vb), (.int (2 : Int32))]))
  refine EndsK.go (fun tz kz => X0.arraylength hx (by rw [e0]; exact Ab.1) (State.isArrayOf_alike hZ.alike Ab.2.1) (g := (mkF m 3 #[.val (.ref va), .val (.ref vb), .unset] [(.ref vb), (.int (2 : Int32))])) rfl rfl (hb hby d8_3) tz kz) ?_
  rw [zb]
  show EndsK p e below _ (s₁.setTop (mkF m 4 #[.val (.ref va), .val (.ref vb), .unset] [(.int (0 : Int32)), (.int (2 : Int32))]))
  refine EndsK.go (fun _ kz => XS.icmpYes X0.here hx rfl (pc0 := 4) (pc' := 34) rfl (hb hby d8_4) rfl (feq (by decide : ¬ ((2 : Int32) = (0 : Int32)))).2 (by decide) (by decide) kz) ?_
  show EndsK p e below _ (s₁.setTop (mkF m 34 #[.val (.ref va), .val (.ref vb), .unset] []))
  refine EndsK.go (fun _ kz => XS.iconst X0.here hx rfl (hb hby d8_34) kz) ?_
  show EndsK p e below _ (s₁.setTop (mkF m 35 #[.val (.ref va), .val (.ref vb), .unset] [(.int (0 : Int32))]))
  exact endN X0 hx (t := .boolean) Bd.returns (by simp) (hb hby d8_35) hlk ⟨rfl, N0, e0⟩ (by decide) (by decide)
theorem ef_lat21 (m : MethodId) (va : Addr) (vb : Addr) (ca : Cell) (cb : Cell) : entryFrame m #[(.ref va), (.ref vb)] 3 = mkF m 0 #[.val (.ref va), .val (.ref vb), .unset] [] := by first | (simp [entryFrame, mkF, argsToLocals, Value.category]; done) | rfl
def Q_lat21 (Z : State) (va : Addr) (vb : Addr) (ca : Cell) (cb : Cell) (h0 : Heap) (n0 : Nat) (vz : Option Value) (hz : Heap) (Lz : List Loc) : Prop := vz = some (.int (0 : Int32)) ∧ Fr n0 Lz ∧ hz = h0
set_option maxRecDepth 65536 in
set_option maxHeartbeats 40000000 in
theorem rm_lat21 (l : Launch) (Z : State) (a0 : Array Value) (hw : ∀ d ∈ tables_1, d.before a0 Z = true) (ws : List Jvm.Cond) (va : Addr) (vb : Addr) (ca : Cell) (cb : Cell) (h0 : Heap) (n0 : Nat) (Z0 : n0 ≤ h0.size) (Aa : Arr Z h0 va ca .byte) (Ab : Arr Z h0 vb cb .byte) (za : ca.slots.size.toInt32 = (2 : Int32)) (zb : cb.slots.size.toInt32 = (1 : Int32)) :
    MetFree l (⟨"java/lang/StringLatin1", "equals", "([B[B)Z"⟩ : MethodName) (head1 (Jvm.Cond.code (⟨"java/lang/StringLatin1", "equals", "([B[B)Z"⟩ : MethodName) jdk_43_method_13_code 3 (some .boolean) :: ws) ({ frames := 0, cells := 0, slots := 0, locals := 0 } : Room)) (fun az Uz => az = #[(.ref va), (.ref vb)] ∧ Z.Warmed39 Uz.vm ∧ Uz.heap = h0) (fun _ _ _ _ _ => True) (fun _ Uz oz Ut => ∃ vz Lz, oz = .returned vz ∧ Q_lat21 Z va vb ca cb h0 n0 vz Ut.heap Lz ∧ FrameEnd Uz oz Ut Lz (({ frames := 0, cells := 0, slots := 0, locals := 0 } : Room)).cells (({ frames := 0, cells := 0, slots := 0, locals := 0 } : Room)).slots) := by
  refine MetFree.of_bodySF (plainFor_of_name pn1) hisR ?_
  intro p e s m args below meth c s₁ Bd hml0 hP hK
  obtain ⟨rfl, hZ, hh⟩ := hP
  have hx := Bd.exec
  have hby := Bd.bytes
  have hml : c.maxLocals = 3 := hml0
  have hown : s.vm.findClass "java/lang/StringLatin1" = some m.cls := findClass_of_methodNamed Bd.named
  have hnm := (name_of_methodNamed Bd.named Bd.method).1
  have hlk : meth.locks = false := Bd.notSynchronized
  have X0 : Stand p l e ({ frames := 0, cells := 0, slots := 0, locals := 0 } : Room) s m #[(.ref va), (.ref vb)] below meth c s₁ [] 0 0 := Stand.of_body Bd
  have e0 : s₁.heap = h0 := by rw [← hh, Bd.state]; rfl
  have N0 := Fr.nil n0
  show EndsK p e below (OQ s (Q_lat21 Z va vb ca cb h0 n0) (({ frames := 0, cells := 0, slots := 0, locals := 0 } : Room)).cells (({ frames := 0, cells := 0, slots := 0, locals := 0 } : Room)).slots) (s₁.setTop (entryFrame m #[(.ref va), (.ref vb)] 3))
  refine EndsK.start (ef_lat21 m va vb ca cb) ?_
  show EndsK p e below _ (s₁.setTop (mkF m 0 #[.val (.ref va), .val (.ref vb), .unset] []))
  refine EndsK.go (fun _ kz => XS.aloadN X0.here hx rfl (hb hby d8_0) rfl rfl kz) ?_
  show EndsK p e below _ (s₁.setTop (mkF m 1 #[.val (.ref va), .val (.ref vb), .unset] [(.ref va)]))
  refine EndsK.go (fun tz kz => X0.arraylength hx (by rw [e0]; exact Aa.1) (State.isArrayOf_alike hZ.alike Aa.2.1) (g := (mkF m 1 #[.val (.ref va), .val (.ref vb), .unset] [(.ref va)])) rfl rfl (hb hby d8_1) tz kz) ?_
  rw [za]
  show EndsK p e below _ (s₁.setTop (mkF m 2 #[.val (.ref va), .val (.ref vb), .unset] [(.int (2 : Int32))]))
  refine EndsK.go (fun _ kz => XS.aloadN X0.here hx rfl (hb hby d8_2) rfl rfl kz) ?_
  show EndsK p e below _ (s₁.setTop (mkF m 3 #[.val (.ref va), .val (.ref vb), .unset] [(.ref vb), (.int (2 : Int32))]))
  refine EndsK.go (fun tz kz => X0.arraylength hx (by rw [e0]; exact Ab.1) (State.isArrayOf_alike hZ.alike Ab.2.1) (g := (mkF m 3 #[.val (.ref va), .val (.ref vb), .unset] [(.ref vb), (.int (2 : Int32))])) rfl rfl (hb hby d8_3) tz kz) ?_
  rw [zb]
  show EndsK p e below _ (s₁.setTop (mkF m 4 #[.val (.ref va), .val (.ref vb), .unset] [(.int (1 : Int32)), (.int (2 : Int32))]))
  refine EndsK.go (fun _ kz => XS.icmpYes X0.here hx rfl (pc0 := 4) (pc' := 34) rfl (hb hby d8_4) rfl (feq (by decide : ¬ ((2 : Int32) = (1 : Int32)))).2 (by decide) (by decide) kz) ?_
  show EndsK p e below _ (s₁.setTop (mkF m 34 #[.val (.ref va), .val (.ref vb), .unset] []))
  refine EndsK.go (fun _ kz => XS.iconst X0.here hx rfl (hb hby d8_34) kz) ?_
  show EndsK p e below _ (s₁.setTop (mkF m 35 #[.val (.ref va), .val (.ref vb), .unset] [(.int (0 : Int32))]))
  exact endN X0 hx (t := .boolean) Bd.returns (by simp) (hb hby d8_35) hlk ⟨rfl, N0, e0⟩ (by decide) (by decide)
theorem ef_lat22 (m : MethodId) (va : Addr) (vb : Addr) (ca : Cell) (cb : Cell) (p0 : Int32) (p1 : Int32) (q0 : Int32) (q1 : Int32) : entryFrame m #[(.ref va), (.ref vb)] 3 = mkF m 0 #[.val (.ref va), .val (.ref vb), .unset] [] := by first | (simp [entryFrame, mkF, argsToLocals, Value.category]; done) | rfl
def Q_lat22 (Z : State) (va : Addr) (vb : Addr) (ca : Cell) (cb : Cell) (p0 : Int32) (p1 : Int32) (q0 : Int32) (q1 : Int32) (h0 : Heap) (n0 : Nat) (vz : Option Value) (hz : Heap) (Lz : List Loc) : Prop := vz = some (.int (lf2 p0 p1 q0 q1)) ∧ Fr n0 Lz ∧ hz = h0
set_option maxRecDepth 65536 in
set_option maxHeartbeats 40000000 in
theorem rm_lat22 (l : Launch) (Z : State) (a0 : Array Value) (hw : ∀ d ∈ tables_1, d.before a0 Z = true) (ws : List Jvm.Cond) (va : Addr) (vb : Addr) (ca : Cell) (cb : Cell) (p0 : Int32) (p1 : Int32) (q0 : Int32) (q1 : Int32) (h0 : Heap) (n0 : Nat) (Z0 : n0 ≤ h0.size) (Aa : Arr Z h0 va ca .byte) (Ab : Arr Z h0 vb cb .byte) (za : ca.slots.size.toInt32 = (2 : Int32)) (zb : cb.slots.size.toInt32 = (2 : Int32)) (ua0 : ¬ ((0 : Int32) < 0 ∨ ca.slots.size ≤ (0 : Int32).toNatClampNeg) ∧ ca.slots[(0 : Int32).toNatClampNeg]? = some (.int p0)) (ub0 : ¬ ((0 : Int32) < 0 ∨ cb.slots.size ≤ (0 : Int32).toNatClampNeg) ∧ cb.slots[(0 : Int32).toNatClampNeg]? = some (.int q0)) (ua1 : ¬ ((1 : Int32) < 0 ∨ ca.slots.size ≤ (1 : Int32).toNatClampNeg) ∧ ca.slots[(1 : Int32).toNatClampNeg]? = some (.int p1)) (ub1 : ¬ ((1 : Int32) < 0 ∨ cb.slots.size ≤ (1 : Int32).toNatClampNeg) ∧ cb.slots[(1 : Int32).toNatClampNeg]? = some (.int q1)) :
    MetFree l (⟨"java/lang/StringLatin1", "equals", "([B[B)Z"⟩ : MethodName) (head1 (Jvm.Cond.code (⟨"java/lang/StringLatin1", "equals", "([B[B)Z"⟩ : MethodName) jdk_43_method_13_code 3 (some .boolean) :: ws) ({ frames := 0, cells := 0, slots := 0, locals := 0 } : Room)) (fun az Uz => az = #[(.ref va), (.ref vb)] ∧ Z.Warmed39 Uz.vm ∧ Uz.heap = h0) (fun _ _ _ _ _ => True) (fun _ Uz oz Ut => ∃ vz Lz, oz = .returned vz ∧ Q_lat22 Z va vb ca cb p0 p1 q0 q1 h0 n0 vz Ut.heap Lz ∧ FrameEnd Uz oz Ut Lz (({ frames := 0, cells := 0, slots := 0, locals := 0 } : Room)).cells (({ frames := 0, cells := 0, slots := 0, locals := 0 } : Room)).slots) := by
  refine MetFree.of_bodySF (plainFor_of_name pn1) hisR ?_
  intro p e s m args below meth c s₁ Bd hml0 hP hK
  obtain ⟨rfl, hZ, hh⟩ := hP
  have hx := Bd.exec
  have hby := Bd.bytes
  have hml : c.maxLocals = 3 := hml0
  have hown : s.vm.findClass "java/lang/StringLatin1" = some m.cls := findClass_of_methodNamed Bd.named
  have hnm := (name_of_methodNamed Bd.named Bd.method).1
  have hlk : meth.locks = false := Bd.notSynchronized
  have X0 : Stand p l e ({ frames := 0, cells := 0, slots := 0, locals := 0 } : Room) s m #[(.ref va), (.ref vb)] below meth c s₁ [] 0 0 := Stand.of_body Bd
  have e0 : s₁.heap = h0 := by rw [← hh, Bd.state]; rfl
  have N0 := Fr.nil n0
  show EndsK p e below (OQ s (Q_lat22 Z va vb ca cb p0 p1 q0 q1 h0 n0) (({ frames := 0, cells := 0, slots := 0, locals := 0 } : Room)).cells (({ frames := 0, cells := 0, slots := 0, locals := 0 } : Room)).slots) (s₁.setTop (entryFrame m #[(.ref va), (.ref vb)] 3))
  refine EndsK.start (ef_lat22 m va vb ca cb p0 p1 q0 q1) ?_
  show EndsK p e below _ (s₁.setTop (mkF m 0 #[.val (.ref va), .val (.ref vb), .unset] []))
  refine EndsK.go (fun _ kz => XS.aloadN X0.here hx rfl (hb hby d8_0) rfl rfl kz) ?_
  show EndsK p e below _ (s₁.setTop (mkF m 1 #[.val (.ref va), .val (.ref vb), .unset] [(.ref va)]))
  refine EndsK.go (fun tz kz => X0.arraylength hx (by rw [e0]; exact Aa.1) (State.isArrayOf_alike hZ.alike Aa.2.1) (g := (mkF m 1 #[.val (.ref va), .val (.ref vb), .unset] [(.ref va)])) rfl rfl (hb hby d8_1) tz kz) ?_
  rw [za]
  show EndsK p e below _ (s₁.setTop (mkF m 2 #[.val (.ref va), .val (.ref vb), .unset] [(.int (2 : Int32))]))
  refine EndsK.go (fun _ kz => XS.aloadN X0.here hx rfl (hb hby d8_2) rfl rfl kz) ?_
  show EndsK p e below _ (s₁.setTop (mkF m 3 #[.val (.ref va), .val (.ref vb), .unset] [(.ref vb), (.int (2 : Int32))]))
  refine EndsK.go (fun tz kz => X0.arraylength hx (by rw [e0]; exact Ab.1) (State.isArrayOf_alike hZ.alike Ab.2.1) (g := (mkF m 3 #[.val (.ref va), .val (.ref vb), .unset] [(.ref vb), (.int (2 : Int32))])) rfl rfl (hb hby d8_3) tz kz) ?_
  rw [zb]
  show EndsK p e below _ (s₁.setTop (mkF m 4 #[.val (.ref va), .val (.ref vb), .unset] [(.int (2 : Int32)), (.int (2 : Int32))]))
  refine EndsK.go (fun _ kz => XS.icmpNo X0.here hx rfl (hb hby d8_4) rfl (teq (rfl : (2 : Int32) = (2 : Int32))).2 kz) ?_
  show EndsK p e below _ (s₁.setTop (mkF m 7 #[.val (.ref va), .val (.ref vb), .unset] []))
  refine EndsK.go (fun _ kz => XS.iconst X0.here hx rfl (hb hby d8_7) kz) ?_
  show EndsK p e below _ (s₁.setTop (mkF m 8 #[.val (.ref va), .val (.ref vb), .unset] [(.int (0 : Int32))]))
  refine EndsK.go (fun _ kz => XS.istoreN X0.here hx rfl (hb hby d8_8) rfl (l' := #[.val (.ref va), .val (.ref vb), .val (.int (0 : Int32))]) rfl kz) ?_
  show EndsK p e below _ (s₁.setTop (mkF m 9 #[.val (.ref va), .val (.ref vb), .val (.int (0 : Int32))] []))
  refine EndsK.go (fun _ kz => XS.iloadN X0.here hx rfl (hb hby d8_9) rfl kz) ?_
  show EndsK p e below _ (s₁.setTop (mkF m 10 #[.val (.ref va), .val (.ref vb), .val (.int (0 : Int32))] [(.int (0 : Int32))]))
  refine EndsK.go (fun _ kz => XS.aloadN X0.here hx rfl (hb hby d8_10) rfl rfl kz) ?_
  show EndsK p e below _ (s₁.setTop (mkF m 11 #[.val (.ref va), .val (.ref vb), .val (.int (0 : Int32))] [(.ref va), (.int (0 : Int32))]))
  refine EndsK.go (fun tz kz => X0.arraylength hx (by rw [e0]; exact Aa.1) (State.isArrayOf_alike hZ.alike Aa.2.1) (g := (mkF m 11 #[.val (.ref va), .val (.ref vb), .val (.int (0 : Int32))] [(.ref va), (.int (0 : Int32))])) rfl rfl (hb hby d8_11) tz kz) ?_
  rw [za]
  show EndsK p e below _ (s₁.setTop (mkF m 12 #[.val (.ref va), .val (.ref vb), .val (.int (0 : Int32))] [(.int (2 : Int32)), (.int (0 : Int32))]))
  refine EndsK.go (fun _ kz => XS.icmpNo X0.here hx rfl (hb hby d8_12) rfl (tlt (by decide : (0 : Int32) < (2 : Int32))).2.1 kz) ?_
  show EndsK p e below _ (s₁.setTop (mkF m 15 #[.val (.ref va), .val (.ref vb), .val (.int (0 : Int32))] []))
  refine EndsK.go (fun _ kz => XS.aloadN X0.here hx rfl (hb hby d8_15) rfl rfl kz) ?_
  show EndsK p e below _ (s₁.setTop (mkF m 16 #[.val (.ref va), .val (.ref vb), .val (.int (0 : Int32))] [(.ref va)]))
  refine EndsK.go (fun _ kz => XS.iloadN X0.here hx rfl (hb hby d8_16) rfl kz) ?_
  show EndsK p e below _ (s₁.setTop (mkF m 17 #[.val (.ref va), .val (.ref vb), .val (.int (0 : Int32))] [(.int (0 : Int32)), (.ref va)]))
  refine EndsK.go (fun tz kz => X0.baloadBytes hx (j := (0 : Int32)) (v := (.int p0)) (by rw [e0]; exact Aa.1) (State.isArrayOf_alike hZ.alike Aa.2.1) Aa.2.2 ua0.1 ua0.2 (g := (mkF m 17 #[.val (.ref va), .val (.ref vb), .val (.int (0 : Int32))] [(.int (0 : Int32)), (.ref va)])) rfl rfl (hb hby d8_17) tz kz) ?_
  show EndsK p e below _ (s₁.setTop (mkF m 18 #[.val (.ref va), .val (.ref vb), .val (.int (0 : Int32))] [(.int p0)]))
  refine EndsK.go (fun _ kz => XS.aloadN X0.here hx rfl (hb hby d8_18) rfl rfl kz) ?_
  show EndsK p e below _ (s₁.setTop (mkF m 19 #[.val (.ref va), .val (.ref vb), .val (.int (0 : Int32))] [(.ref vb), (.int p0)]))
  refine EndsK.go (fun _ kz => XS.iloadN X0.here hx rfl (hb hby d8_19) rfl kz) ?_
  show EndsK p e below _ (s₁.setTop (mkF m 20 #[.val (.ref va), .val (.ref vb), .val (.int (0 : Int32))] [(.int (0 : Int32)), (.ref vb), (.int p0)]))
  refine EndsK.go (fun tz kz => X0.baloadBytes hx (j := (0 : Int32)) (v := (.int q0)) (by rw [e0]; exact Ab.1) (State.isArrayOf_alike hZ.alike Ab.2.1) Ab.2.2 ub0.1 ub0.2 (g := (mkF m 20 #[.val (.ref va), .val (.ref vb), .val (.int (0 : Int32))] [(.int (0 : Int32)), (.ref vb), (.int p0)])) rfl rfl (hb hby d8_20) tz kz) ?_
  show EndsK p e below _ (s₁.setTop (mkF m 21 #[.val (.ref va), .val (.ref vb), .val (.int (0 : Int32))] [(.int q0), (.int p0)]))
  by_cases H21_1 : p0 = q0
  · refine EndsK.go (fun _ kz => XS.icmpYes X0.here hx rfl (pc0 := 21) (pc' := 26) rfl (hb hby d8_21) rfl (teq H21_1).1 (by decide) (by decide) kz) ?_
    show EndsK p e below _ (s₁.setTop (mkF m 26 #[.val (.ref va), .val (.ref vb), .val (.int (0 : Int32))] []))
    refine EndsK.go (fun _ kz => XS.iinc X0.here hx rfl (hb hby d8_26) rfl (l' := #[.val (.ref va), .val (.ref vb), .val (.int (1 : Int32))]) rfl kz) ?_
    show EndsK p e below _ (s₁.setTop (mkF m 29 #[.val (.ref va), .val (.ref vb), .val (.int (1 : Int32))] []))
    refine EndsK.go (fun _ kz => XS.goto X0.here hx rfl (pc0 := 29) (pc' := 9) rfl (hb hby d8_29) (by decide) (by decide) kz) ?_
    show EndsK p e below _ (s₁.setTop (mkF m 9 #[.val (.ref va), .val (.ref vb), .val (.int (1 : Int32))] []))
    refine EndsK.go (fun _ kz => XS.iloadN X0.here hx rfl (hb hby d8_9) rfl kz) ?_
    show EndsK p e below _ (s₁.setTop (mkF m 10 #[.val (.ref va), .val (.ref vb), .val (.int (1 : Int32))] [(.int (1 : Int32))]))
    refine EndsK.go (fun _ kz => XS.aloadN X0.here hx rfl (hb hby d8_10) rfl rfl kz) ?_
    show EndsK p e below _ (s₁.setTop (mkF m 11 #[.val (.ref va), .val (.ref vb), .val (.int (1 : Int32))] [(.ref va), (.int (1 : Int32))]))
    refine EndsK.go (fun tz kz => X0.arraylength hx (by rw [e0]; exact Aa.1) (State.isArrayOf_alike hZ.alike Aa.2.1) (g := (mkF m 11 #[.val (.ref va), .val (.ref vb), .val (.int (1 : Int32))] [(.ref va), (.int (1 : Int32))])) rfl rfl (hb hby d8_11) tz kz) ?_
    rw [za]
    show EndsK p e below _ (s₁.setTop (mkF m 12 #[.val (.ref va), .val (.ref vb), .val (.int (1 : Int32))] [(.int (2 : Int32)), (.int (1 : Int32))]))
    refine EndsK.go (fun _ kz => XS.icmpNo X0.here hx rfl (hb hby d8_12) rfl (tlt (by decide : (1 : Int32) < (2 : Int32))).2.1 kz) ?_
    show EndsK p e below _ (s₁.setTop (mkF m 15 #[.val (.ref va), .val (.ref vb), .val (.int (1 : Int32))] []))
    refine EndsK.go (fun _ kz => XS.aloadN X0.here hx rfl (hb hby d8_15) rfl rfl kz) ?_
    show EndsK p e below _ (s₁.setTop (mkF m 16 #[.val (.ref va), .val (.ref vb), .val (.int (1 : Int32))] [(.ref va)]))
    refine EndsK.go (fun _ kz => XS.iloadN X0.here hx rfl (hb hby d8_16) rfl kz) ?_
    show EndsK p e below _ (s₁.setTop (mkF m 17 #[.val (.ref va), .val (.ref vb), .val (.int (1 : Int32))] [(.int (1 : Int32)), (.ref va)]))
    refine EndsK.go (fun tz kz => X0.baloadBytes hx (j := (1 : Int32)) (v := (.int p1)) (by rw [e0]; exact Aa.1) (State.isArrayOf_alike hZ.alike Aa.2.1) Aa.2.2 ua1.1 ua1.2 (g := (mkF m 17 #[.val (.ref va), .val (.ref vb), .val (.int (1 : Int32))] [(.int (1 : Int32)), (.ref va)])) rfl rfl (hb hby d8_17) tz kz) ?_
    show EndsK p e below _ (s₁.setTop (mkF m 18 #[.val (.ref va), .val (.ref vb), .val (.int (1 : Int32))] [(.int p1)]))
    refine EndsK.go (fun _ kz => XS.aloadN X0.here hx rfl (hb hby d8_18) rfl rfl kz) ?_
    show EndsK p e below _ (s₁.setTop (mkF m 19 #[.val (.ref va), .val (.ref vb), .val (.int (1 : Int32))] [(.ref vb), (.int p1)]))
    refine EndsK.go (fun _ kz => XS.iloadN X0.here hx rfl (hb hby d8_19) rfl kz) ?_
    show EndsK p e below _ (s₁.setTop (mkF m 20 #[.val (.ref va), .val (.ref vb), .val (.int (1 : Int32))] [(.int (1 : Int32)), (.ref vb), (.int p1)]))
    refine EndsK.go (fun tz kz => X0.baloadBytes hx (j := (1 : Int32)) (v := (.int q1)) (by rw [e0]; exact Ab.1) (State.isArrayOf_alike hZ.alike Ab.2.1) Ab.2.2 ub1.1 ub1.2 (g := (mkF m 20 #[.val (.ref va), .val (.ref vb), .val (.int (1 : Int32))] [(.int (1 : Int32)), (.ref vb), (.int p1)])) rfl rfl (hb hby d8_20) tz kz) ?_
    show EndsK p e below _ (s₁.setTop (mkF m 21 #[.val (.ref va), .val (.ref vb), .val (.int (1 : Int32))] [(.int q1), (.int p1)]))
    by_cases H21_2 : p1 = q1
    · refine EndsK.go (fun _ kz => XS.icmpYes X0.here hx rfl (pc0 := 21) (pc' := 26) rfl (hb hby d8_21) rfl (teq H21_2).1 (by decide) (by decide) kz) ?_
      show EndsK p e below _ (s₁.setTop (mkF m 26 #[.val (.ref va), .val (.ref vb), .val (.int (1 : Int32))] []))
      refine EndsK.go (fun _ kz => XS.iinc X0.here hx rfl (hb hby d8_26) rfl (l' := #[.val (.ref va), .val (.ref vb), .val (.int (2 : Int32))]) rfl kz) ?_
      show EndsK p e below _ (s₁.setTop (mkF m 29 #[.val (.ref va), .val (.ref vb), .val (.int (2 : Int32))] []))
      refine EndsK.go (fun _ kz => XS.goto X0.here hx rfl (pc0 := 29) (pc' := 9) rfl (hb hby d8_29) (by decide) (by decide) kz) ?_
      show EndsK p e below _ (s₁.setTop (mkF m 9 #[.val (.ref va), .val (.ref vb), .val (.int (2 : Int32))] []))
      refine EndsK.go (fun _ kz => XS.iloadN X0.here hx rfl (hb hby d8_9) rfl kz) ?_
      show EndsK p e below _ (s₁.setTop (mkF m 10 #[.val (.ref va), .val (.ref vb), .val (.int (2 : Int32))] [(.int (2 : Int32))]))
      refine EndsK.go (fun _ kz => XS.aloadN X0.here hx rfl (hb hby d8_10) rfl rfl kz) ?_
      show EndsK p e below _ (s₁.setTop (mkF m 11 #[.val (.ref va), .val (.ref vb), .val (.int (2 : Int32))] [(.ref va), (.int (2 : Int32))]))
      refine EndsK.go (fun tz kz => X0.arraylength hx (by rw [e0]; exact Aa.1) (State.isArrayOf_alike hZ.alike Aa.2.1) (g := (mkF m 11 #[.val (.ref va), .val (.ref vb), .val (.int (2 : Int32))] [(.ref va), (.int (2 : Int32))])) rfl rfl (hb hby d8_11) tz kz) ?_
      rw [za]
      show EndsK p e below _ (s₁.setTop (mkF m 12 #[.val (.ref va), .val (.ref vb), .val (.int (2 : Int32))] [(.int (2 : Int32)), (.int (2 : Int32))]))
      refine EndsK.go (fun _ kz => XS.icmpYes X0.here hx rfl (pc0 := 12) (pc' := 32) rfl (hb hby d8_12) rfl (flt (by decide : ¬ ((2 : Int32) < (2 : Int32)))).2.1 (by decide) (by decide) kz) ?_
      show EndsK p e below _ (s₁.setTop (mkF m 32 #[.val (.ref va), .val (.ref vb), .val (.int (2 : Int32))] []))
      refine EndsK.go (fun _ kz => XS.iconst X0.here hx rfl (hb hby d8_32) kz) ?_
      show EndsK p e below _ (s₁.setTop (mkF m 33 #[.val (.ref va), .val (.ref vb), .val (.int (2 : Int32))] [(.int (1 : Int32))]))
      exact endN X0 hx (t := .boolean) Bd.returns (by simp) (hb hby d8_33) hlk ⟨(congrArg (fun z => some (Value.int z)) (by simp [lf1, lf2, H21_1, H21_2] : (lf2 p0 p1 q0 q1) = (1 : Int32))).symm, N0, e0⟩ (by decide) (by decide)
    · refine EndsK.go (fun _ kz => XS.icmpNo X0.here hx rfl (hb hby d8_21) rfl (feq H21_2).1 kz) ?_
      show EndsK p e below _ (s₁.setTop (mkF m 24 #[.val (.ref va), .val (.ref vb), .val (.int (1 : Int32))] []))
      refine EndsK.go (fun _ kz => XS.iconst X0.here hx rfl (hb hby d8_24) kz) ?_
      show EndsK p e below _ (s₁.setTop (mkF m 25 #[.val (.ref va), .val (.ref vb), .val (.int (1 : Int32))] [(.int (0 : Int32))]))
      exact endN X0 hx (t := .boolean) Bd.returns (by simp) (hb hby d8_25) hlk ⟨(congrArg (fun z => some (Value.int z)) (by simp [lf1, lf2, H21_1, H21_2] : (lf2 p0 p1 q0 q1) = (0 : Int32))).symm, N0, e0⟩ (by decide) (by decide)
  · refine EndsK.go (fun _ kz => XS.icmpNo X0.here hx rfl (hb hby d8_21) rfl (feq H21_1).1 kz) ?_
    show EndsK p e below _ (s₁.setTop (mkF m 24 #[.val (.ref va), .val (.ref vb), .val (.int (0 : Int32))] []))
    refine EndsK.go (fun _ kz => XS.iconst X0.here hx rfl (hb hby d8_24) kz) ?_
    show EndsK p e below _ (s₁.setTop (mkF m 25 #[.val (.ref va), .val (.ref vb), .val (.int (0 : Int32))] [(.int (0 : Int32))]))
    exact endN X0 hx (t := .boolean) Bd.returns (by simp) (hb hby d8_25) hlk ⟨(congrArg (fun z => some (Value.int z)) (by simp [lf1, lf2, H21_1] : (lf2 p0 p1 q0 q1) = (0 : Int32))).symm, N0, e0⟩ (by decide) (by decide)
theorem ef_lat23 (m : MethodId) (va : Addr) (vb : Addr) (ca : Cell) (cb : Cell) : entryFrame m #[(.ref va), (.ref vb)] 3 = mkF m 0 #[.val (.ref va), .val (.ref vb), .unset] [] := by first | (simp [entryFrame, mkF, argsToLocals, Value.category]; done) | rfl
def Q_lat23 (Z : State) (va : Addr) (vb : Addr) (ca : Cell) (cb : Cell) (h0 : Heap) (n0 : Nat) (vz : Option Value) (hz : Heap) (Lz : List Loc) : Prop := vz = some (.int (0 : Int32)) ∧ Fr n0 Lz ∧ hz = h0
set_option maxRecDepth 65536 in
set_option maxHeartbeats 40000000 in
theorem rm_lat23 (l : Launch) (Z : State) (a0 : Array Value) (hw : ∀ d ∈ tables_1, d.before a0 Z = true) (ws : List Jvm.Cond) (va : Addr) (vb : Addr) (ca : Cell) (cb : Cell) (h0 : Heap) (n0 : Nat) (Z0 : n0 ≤ h0.size) (Aa : Arr Z h0 va ca .byte) (Ab : Arr Z h0 vb cb .byte) (za : ca.slots.size.toInt32 = (2 : Int32)) (zb : cb.slots.size.toInt32 = (3 : Int32)) :
    MetFree l (⟨"java/lang/StringLatin1", "equals", "([B[B)Z"⟩ : MethodName) (head1 (Jvm.Cond.code (⟨"java/lang/StringLatin1", "equals", "([B[B)Z"⟩ : MethodName) jdk_43_method_13_code 3 (some .boolean) :: ws) ({ frames := 0, cells := 0, slots := 0, locals := 0 } : Room)) (fun az Uz => az = #[(.ref va), (.ref vb)] ∧ Z.Warmed39 Uz.vm ∧ Uz.heap = h0) (fun _ _ _ _ _ => True) (fun _ Uz oz Ut => ∃ vz Lz, oz = .returned vz ∧ Q_lat23 Z va vb ca cb h0 n0 vz Ut.heap Lz ∧ FrameEnd Uz oz Ut Lz (({ frames := 0, cells := 0, slots := 0, locals := 0 } : Room)).cells (({ frames := 0, cells := 0, slots := 0, locals := 0 } : Room)).slots) := by
  refine MetFree.of_bodySF (plainFor_of_name pn1) hisR ?_
  intro p e s m args below meth c s₁ Bd hml0 hP hK
  obtain ⟨rfl, hZ, hh⟩ := hP
  have hx := Bd.exec
  have hby := Bd.bytes
  have hml : c.maxLocals = 3 := hml0
  have hown : s.vm.findClass "java/lang/StringLatin1" = some m.cls := findClass_of_methodNamed Bd.named
  have hnm := (name_of_methodNamed Bd.named Bd.method).1
  have hlk : meth.locks = false := Bd.notSynchronized
  have X0 : Stand p l e ({ frames := 0, cells := 0, slots := 0, locals := 0 } : Room) s m #[(.ref va), (.ref vb)] below meth c s₁ [] 0 0 := Stand.of_body Bd
  have e0 : s₁.heap = h0 := by rw [← hh, Bd.state]; rfl
  have N0 := Fr.nil n0
  show EndsK p e below (OQ s (Q_lat23 Z va vb ca cb h0 n0) (({ frames := 0, cells := 0, slots := 0, locals := 0 } : Room)).cells (({ frames := 0, cells := 0, slots := 0, locals := 0 } : Room)).slots) (s₁.setTop (entryFrame m #[(.ref va), (.ref vb)] 3))
  refine EndsK.start (ef_lat23 m va vb ca cb) ?_
  show EndsK p e below _ (s₁.setTop (mkF m 0 #[.val (.ref va), .val (.ref vb), .unset] []))
  refine EndsK.go (fun _ kz => XS.aloadN X0.here hx rfl (hb hby d8_0) rfl rfl kz) ?_
  show EndsK p e below _ (s₁.setTop (mkF m 1 #[.val (.ref va), .val (.ref vb), .unset] [(.ref va)]))
  refine EndsK.go (fun tz kz => X0.arraylength hx (by rw [e0]; exact Aa.1) (State.isArrayOf_alike hZ.alike Aa.2.1) (g := (mkF m 1 #[.val (.ref va), .val (.ref vb), .unset] [(.ref va)])) rfl rfl (hb hby d8_1) tz kz) ?_
  rw [za]
  show EndsK p e below _ (s₁.setTop (mkF m 2 #[.val (.ref va), .val (.ref vb), .unset] [(.int (2 : Int32))]))
  refine EndsK.go (fun _ kz => XS.aloadN X0.here hx rfl (hb hby d8_2) rfl rfl kz) ?_
  show EndsK p e below _ (s₁.setTop (mkF m 3 #[.val (.ref va), .val (.ref vb), .unset] [(.ref vb), (.int (2 : Int32))]))
  refine EndsK.go (fun tz kz => X0.arraylength hx (by rw [e0]; exact Ab.1) (State.isArrayOf_alike hZ.alike Ab.2.1) (g := (mkF m 3 #[.val (.ref va), .val (.ref vb), .unset] [(.ref vb), (.int (2 : Int32))])) rfl rfl (hb hby d8_3) tz kz) ?_
  rw [zb]
  show EndsK p e below _ (s₁.setTop (mkF m 4 #[.val (.ref va), .val (.ref vb), .unset] [(.int (3 : Int32)), (.int (2 : Int32))]))
  refine EndsK.go (fun _ kz => XS.icmpYes X0.here hx rfl (pc0 := 4) (pc' := 34) rfl (hb hby d8_4) rfl (feq (by decide : ¬ ((2 : Int32) = (3 : Int32)))).2 (by decide) (by decide) kz) ?_
  show EndsK p e below _ (s₁.setTop (mkF m 34 #[.val (.ref va), .val (.ref vb), .unset] []))
  refine EndsK.go (fun _ kz => XS.iconst X0.here hx rfl (hb hby d8_34) kz) ?_
  show EndsK p e below _ (s₁.setTop (mkF m 35 #[.val (.ref va), .val (.ref vb), .unset] [(.int (0 : Int32))]))
  exact endN X0 hx (t := .boolean) Bd.returns (by simp) (hb hby d8_35) hlk ⟨rfl, N0, e0⟩ (by decide) (by decide)
theorem d7_0 : decode jdk_42_method_66_code 0 = .ok (.aload_n 0, 1) := by decide +kernel
theorem d7_1 : decode jdk_42_method_66_code 1 = .ok (.aload_n 1, 1) := by decide +kernel
theorem d7_2 : decode jdk_42_method_66_code 2 = .ok (.if_acmp .ne 5, 3) := by decide +kernel
theorem d7_5 : decode jdk_42_method_66_code 5 = .ok (.iconst 1, 1) := by decide +kernel
theorem d7_6 : decode jdk_42_method_66_code 6 = .ok (.ireturn, 1) := by decide +kernel
theorem d7_7 : decode jdk_42_method_66_code 7 = .ok (.aload_n 1, 1) := by decide +kernel
theorem d7_8 : decode jdk_42_method_66_code 8 = .ok (.instanceof 10, 3) := by decide +kernel
theorem d7_11 : decode jdk_42_method_66_code 11 = .ok (.ifCond .eq 43, 3) := by decide +kernel
theorem d7_14 : decode jdk_42_method_66_code 14 = .ok (.aload_n 1, 1) := by decide +kernel
theorem d7_15 : decode jdk_42_method_66_code 15 = .ok (.checkcast 10, 3) := by decide +kernel
theorem d7_18 : decode jdk_42_method_66_code 18 = .ok (.astore_n 2, 1) := by decide +kernel
theorem d7_19 : decode jdk_42_method_66_code 19 = .ok (.getstatic 38, 3) := by decide +kernel
theorem d7_22 : decode jdk_42_method_66_code 22 = .ok (.ifCond .eq 14, 3) := by decide +kernel
theorem d7_25 : decode jdk_42_method_66_code 25 = .ok (.aload_n 0, 1) := by decide +kernel
theorem d7_26 : decode jdk_42_method_66_code 26 = .ok (.getfield 15, 3) := by decide +kernel
theorem d7_29 : decode jdk_42_method_66_code 29 = .ok (.aload_n 2, 1) := by decide +kernel
theorem d7_30 : decode jdk_42_method_66_code 30 = .ok (.getfield 15, 3) := by decide +kernel
theorem d7_33 : decode jdk_42_method_66_code 33 = .ok (.if_icmp .ne 21, 3) := by decide +kernel
theorem d7_36 : decode jdk_42_method_66_code 36 = .ok (.aload_n 0, 1) := by decide +kernel
theorem d7_37 : decode jdk_42_method_66_code 37 = .ok (.getfield 9, 3) := by decide +kernel
theorem d7_40 : decode jdk_42_method_66_code 40 = .ok (.aload_n 2, 1) := by decide +kernel
theorem d7_41 : decode jdk_42_method_66_code 41 = .ok (.getfield 9, 3) := by decide +kernel
theorem d7_44 : decode jdk_42_method_66_code 44 = .ok (.invokestatic 541, 3) := by decide +kernel
theorem d7_47 : decode jdk_42_method_66_code 47 = .ok (.ifCond .eq 7, 3) := by decide +kernel
theorem d7_50 : decode jdk_42_method_66_code 50 = .ok (.iconst 1, 1) := by decide +kernel
theorem d7_51 : decode jdk_42_method_66_code 51 = .ok (.goto 4, 3) := by decide +kernel
theorem d7_54 : decode jdk_42_method_66_code 54 = .ok (.iconst 0, 1) := by decide +kernel
theorem d7_55 : decode jdk_42_method_66_code 55 = .ok (.ireturn, 1) := by decide +kernel
theorem pn2 : plainName "java/lang/String" = true := by first | (simp [plainName, overriddenIn]; done) | decide +kernel
theorem ef_seq10 (m : MethodId) (sa : Addr) (sb : Addr) (va : Addr) (vb : Addr) (ca : Cell) (cb : Cell) (zc : Int32) : entryFrame m #[(.ref sa), (.ref sb)] 3 = mkF m 0 #[.val (.ref sa), .val (.ref sb), .unset] [] := by first | (simp [entryFrame, mkF, argsToLocals, Value.category]; done) | rfl
def Q_seq10 (Z : State) (sa : Addr) (sb : Addr) (va : Addr) (vb : Addr) (ca : Cell) (cb : Cell) (zc : Int32) (h0 : Heap) (n0 : Nat) (vz : Option Value) (hz : Heap) (Lz : List Loc) : Prop := vz = some (.int (0 : Int32)) ∧ Fr n0 Lz ∧ hz = h0
theorem pd0 : parseMethodDescriptor "([B[B)Z" = some ⟨[(.array .byte), (.array .byte)], some .boolean⟩ := by decide +kernel
set_option maxRecDepth 65536 in
set_option maxHeartbeats 40000000 in
theorem rm_seq10 (l : Launch) (Z : State) (a0 : Array Value) (hw : ∀ d ∈ tables_1, d.before a0 Z = true) (ws : List Jvm.Cond) (sa : Addr) (sb : Addr) (va : Addr) (vb : Addr) (ca : Cell) (cb : Cell) (zc : Int32) (h0 : Heap) (n0 : Nat) (Z0 : n0 ≤ h0.size) (Es : Exa Z h0 sa "java/lang/String") (Fsc : Fld Z h0 sa "java/lang/String" "coder" "B" (.int (0 : Int32))) (Fsv : Fld Z h0 sa "java/lang/String" "value" "[B" (.ref va)) (hne : ¬ sa = sb) (Et : Exa Z h0 sb "java/lang/String") (Ftc : Fld Z h0 sb "java/lang/String" "coder" "B" (.int (0 : Int32))) (Ftv : Fld Z h0 sb "java/lang/String" "value" "[B" (.ref vb)) (SC : Sta Z h0 "java/lang/String" "COMPACT_STRINGS" "Z" (.int zc)) (hzc : ¬ (zc = (0 : Int32))) (Aa : Arr Z h0 va ca .byte) (Ab : Arr Z h0 vb cb .byte) (za : ca.slots.size.toInt32 = (1 : Int32)) (zb : cb.slots.size.toInt32 = (0 : Int32)) :
    MetFree l (⟨"java/lang/String", "equals", "(Ljava/lang/Object;)Z"⟩ : MethodName) (head1 (Jvm.Cond.code (⟨"java/lang/String", "equals", "(Ljava/lang/Object;)Z"⟩ : MethodName) jdk_42_method_66_code 3 (some .boolean) :: ws) ({ frames := 1, cells := 0, slots := 0, locals := 14 } : Room)) (fun az Uz => az = #[(.ref sa), (.ref sb)] ∧ Z.Warmed39 Uz.vm ∧ Uz.heap = h0) (fun _ _ _ _ _ => True) (fun _ Uz oz Ut => ∃ vz Lz, oz = .returned vz ∧ Q_seq10 Z sa sb va vb ca cb zc h0 n0 vz Ut.heap Lz ∧ FrameEnd Uz oz Ut Lz (({ frames := 1, cells := 0, slots := 0, locals := 14 } : Room)).cells (({ frames := 1, cells := 0, slots := 0, locals := 14 } : Room)).slots) := by
  refine MetFree.of_bodySF (plainFor_of_name pn2) hisR ?_
  intro p e s m args below meth c s₁ Bd hml0 hP hK
  obtain ⟨rfl, hZ, hh⟩ := hP
  have hx := Bd.exec
  have hby := Bd.bytes
  have hml : c.maxLocals = 3 := hml0
  have hown : s.vm.findClass "java/lang/String" = some m.cls := findClass_of_methodNamed Bd.named
  have hnm := (name_of_methodNamed Bd.named Bd.method).1
  have hlk : meth.locks = false := Bd.notSynchronized
  have X0 : Stand p l e ({ frames := 1, cells := 0, slots := 0, locals := 14 } : Room) s m #[(.ref sa), (.ref sb)] below meth c s₁ [] 0 0 := Stand.of_body Bd
  have e0 : s₁.heap = h0 := by rw [← hh, Bd.state]; rfl
  have N0 := Fr.nil n0
  show EndsK p e below (OQ s (Q_seq10 Z sa sb va vb ca cb zc h0 n0) (({ frames := 1, cells := 0, slots := 0, locals := 14 } : Room)).cells (({ frames := 1, cells := 0, slots := 0, locals := 14 } : Room)).slots) (s₁.setTop (entryFrame m #[(.ref sa), (.ref sb)] 3))
  refine EndsK.start (ef_seq10 m sa sb va vb ca cb zc) ?_
  show EndsK p e below _ (s₁.setTop (mkF m 0 #[.val (.ref sa), .val (.ref sb), .unset] []))
  refine EndsK.go (fun _ kz => XS.aloadN X0.here hx rfl (hb hby d7_0) rfl rfl kz) ?_
  show EndsK p e below _ (s₁.setTop (mkF m 1 #[.val (.ref sa), .val (.ref sb), .unset] [(.ref sa)]))
  refine EndsK.go (fun _ kz => XS.aloadN X0.here hx rfl (hb hby d7_1) rfl rfl kz) ?_
  show EndsK p e below _ (s₁.setTop (mkF m 2 #[.val (.ref sa), .val (.ref sb), .unset] [(.ref sb), (.ref sa)]))
  refine EndsK.go (fun _ kz => Jvm.RoadKit.acmp (g := (mkF m 2 #[.val (.ref sa), .val (.ref sb), .unset] [(.ref sb), (.ref sa)])) X0 hx rfl rfl rfl (pc0 := 2) (pc' := 7) (same := false) rfl (hb hby d7_2) rfl (decide_eq_false fun q => hne (Value.ref.inj q)) (by decide) (by decide) kz) ?_
  show EndsK p e below _ (s₁.setTop (mkF m 7 #[.val (.ref sa), .val (.ref sb), .unset] []))
  refine EndsK.go (fun _ kz => XS.aloadN X0.here hx rfl (hb hby d7_7) rfl rfl kz) ?_
  show EndsK p e below _ (s₁.setTop (mkF m 8 #[.val (.ref sa), .val (.ref sb), .unset] [(.ref sb)]))
  obtain ⟨T1, X1, e1, st1⟩ := instY X0 hx hZ hown (hw _ (List.mem_of_getElem? (i := 58) rfl)) e0 (Ins.self Et) (g := (mkF m 8 #[.val (.ref sa), .val (.ref sb), .unset] [(.ref sb)])) rfl rfl (hb hby d7_8)
  refine EndsK.go st1 ?_
  show EndsK p e below _ (T1.setTop (mkF m 11 #[.val (.ref sa), .val (.ref sb), .unset] [(.int (1 : Int32))]))
  refine EndsK.go (fun _ kz => XS.ifNo X1.here hx rfl (hb hby d7_11) rfl ((if0 _ _).trans (feq (by decide : ¬ ((1 : Int32) = (0 : Int32)))).1) kz) ?_
  show EndsK p e below _ (T1.setTop (mkF m 14 #[.val (.ref sa), .val (.ref sb), .unset] []))
  refine EndsK.go (fun _ kz => XS.aloadN X1.here hx rfl (hb hby d7_14) rfl rfl kz) ?_
  show EndsK p e below _ (T1.setTop (mkF m 15 #[.val (.ref sa), .val (.ref sb), .unset] [(.ref sb)]))
  obtain ⟨T2, X2, e2, st2⟩ := castY X1 hx hZ hown (hw _ (List.mem_of_getElem? (i := 58) rfl)) e1 (Ins.self Et) (g := (mkF m 15 #[.val (.ref sa), .val (.ref sb), .unset] [(.ref sb)])) rfl rfl (hb hby d7_15)
  refine EndsK.go st2 ?_
  show EndsK p e below _ (T2.setTop (mkF m 18 #[.val (.ref sa), .val (.ref sb), .unset] [(.ref sb)]))
  refine EndsK.go (fun _ kz => XS.astoreN X2.here hx rfl (hb hby d7_18) rfl rfl (l' := #[.val (.ref sa), .val (.ref sb), .val (.ref sb)]) rfl kz) ?_
  show EndsK p e below _ (T2.setTop (mkF m 19 #[.val (.ref sa), .val (.ref sb), .val (.ref sb)] []))
  obtain ⟨T3, X3, e3, st3⟩ := getS2 X2 hx hZ hown (host := "") (Or.inl (hw _ (List.mem_of_getElem? (i := 59) rfl))) Via.refl e2 SC (g := (mkF m 19 #[.val (.ref sa), .val (.ref sb), .val (.ref sb)] [])) rfl (hb hby d7_19)
  refine EndsK.go st3 ?_
  show EndsK p e below _ (T3.setTop (mkF m 22 #[.val (.ref sa), .val (.ref sb), .val (.ref sb)] [(.int zc)]))
  refine EndsK.go (fun _ kz => XS.ifNo X3.here hx rfl (hb hby d7_22) rfl ((if0 _ _).trans (feq hzc).1) kz) ?_
  show EndsK p e below _ (T3.setTop (mkF m 25 #[.val (.ref sa), .val (.ref sb), .val (.ref sb)] []))
  refine EndsK.go (fun _ kz => XS.aloadN X3.here hx rfl (hb hby d7_25) rfl rfl kz) ?_
  show EndsK p e below _ (T3.setTop (mkF m 26 #[.val (.ref sa), .val (.ref sb), .val (.ref sb)] [(.ref sa)]))
  obtain ⟨T4, X4, e4, st4⟩ := getF X3 hx hZ hown (host := "") (Or.inl (hw _ (List.mem_of_getElem? (i := 25) rfl))) Via.refl e3 Fsc (g := (mkF m 26 #[.val (.ref sa), .val (.ref sb), .val (.ref sb)] [(.ref sa)])) rfl rfl (hb hby d7_26)
  refine EndsK.go st4 ?_
  show EndsK p e below _ (T4.setTop (mkF m 29 #[.val (.ref sa), .val (.ref sb), .val (.ref sb)] [(.int (0 : Int32))]))
  refine EndsK.go (fun _ kz => XS.aloadN X4.here hx rfl (hb hby d7_29) rfl rfl kz) ?_
  show EndsK p e below _ (T4.setTop (mkF m 30 #[.val (.ref sa), .val (.ref sb), .val (.ref sb)] [(.ref sb), (.int (0 : Int32))]))
  obtain ⟨T5, X5, e5, st5⟩ := getF X4 hx hZ hown (host := "") (Or.inl (hw _ (List.mem_of_getElem? (i := 25) rfl))) Via.refl e4 Ftc (g := (mkF m 30 #[.val (.ref sa), .val (.ref sb), .val (.ref sb)] [(.ref sb), (.int (0 : Int32))])) rfl rfl (hb hby d7_30)
  refine EndsK.go st5 ?_
  show EndsK p e below _ (T5.setTop (mkF m 33 #[.val (.ref sa), .val (.ref sb), .val (.ref sb)] [(.int (0 : Int32)), (.int (0 : Int32))]))
  refine EndsK.go (fun _ kz => XS.icmpNo X5.here hx rfl (hb hby d7_33) rfl (teq (rfl : (0 : Int32) = (0 : Int32))).2 kz) ?_
  show EndsK p e below _ (T5.setTop (mkF m 36 #[.val (.ref sa), .val (.ref sb), .val (.ref sb)] []))
  refine EndsK.go (fun _ kz => XS.aloadN X5.here hx rfl (hb hby d7_36) rfl rfl kz) ?_
  show EndsK p e below _ (T5.setTop (mkF m 37 #[.val (.ref sa), .val (.ref sb), .val (.ref sb)] [(.ref sa)]))
  obtain ⟨T6, X6, e6, st6⟩ := getF X5 hx hZ hown (host := "") (Or.inl (hw _ (List.mem_of_getElem? (i := 24) rfl))) Via.refl e5 Fsv (g := (mkF m 37 #[.val (.ref sa), .val (.ref sb), .val (.ref sb)] [(.ref sa)])) rfl rfl (hb hby d7_37)
  refine EndsK.go st6 ?_
  show EndsK p e below _ (T6.setTop (mkF m 40 #[.val (.ref sa), .val (.ref sb), .val (.ref sb)] [(.ref va)]))
  refine EndsK.go (fun _ kz => XS.aloadN X6.here hx rfl (hb hby d7_40) rfl rfl kz) ?_
  show EndsK p e below _ (T6.setTop (mkF m 41 #[.val (.ref sa), .val (.ref sb), .val (.ref sb)] [(.ref sb), (.ref va)]))
  obtain ⟨T7, X7, e7, st7⟩ := getF X6 hx hZ hown (host := "") (Or.inl (hw _ (List.mem_of_getElem? (i := 24) rfl))) Via.refl e6 Ftv (g := (mkF m 41 #[.val (.ref sa), .val (.ref sb), .val (.ref sb)] [(.ref sb), (.ref va)])) rfl rfl (hb hby d7_41)
  refine EndsK.go st7 ?_
  show EndsK p e below _ (T7.setTop (mkF m 44 #[.val (.ref sa), .val (.ref sb), .val (.ref sb)] [(.ref vb), (.ref va)]))
  obtain ⟨_, _, ⟨T8, L8, k8, n8⟩, -, X8, ⟨Lc8, hQ8, l8, y8, z8⟩, st8⟩ := Jvm.LawKit.callS X7 hx (y := (⟨"java/lang/StringLatin1", "equals", "([B[B)Z"⟩ : MethodName)) hown (mvT hZ (hw _ (List.mem_of_getElem? (i := 60) rfl))) (mvT hZ (hw _ (List.mem_of_getElem? (i := 61) rfl))) (mvT hZ (hw _ (List.mem_of_getElem? (i := 62) rfl))) (mvT hZ (hw _ (List.mem_of_getElem? (i := 63) rfl))) (by decide) (backOf (W := 0) (rm_lat10 l Z a0 hw [] va vb ca cb  h0 n0 Z0 Aa Ab za zb) hZ (hw _ (List.mem_of_getElem? (i := 63) rfl)) (hw _ (List.mem_of_getElem? (i := 62) rfl)) (by decide) (by decide)) (g := (mkF m 44 #[.val (.ref sa), .val (.ref sb), .val (.ref sb)] [(.ref vb), (.ref va)])) rfl (by rw [hml]; rfl) (argsL := [(.ref va), (.ref vb)]) (rest := []) (lenOf pd0 rfl) rfl (by show 2 * 0 + _ ≤ _; exact Nat.le_of_eq rfl) (hb hby d7_44) (fun _ _ => ⟨rfl, e7, (by decide : 0 + 0 ≤ _), (by decide : 0 + 0 ≤ _)⟩)
  dsimp only [Pt.U, Pt.locs, Pt.cells, Pt.slots] at X8 l8 y8 z8 st8 hQ8
  subst l8 y8 z8
  obtain ⟨rfl, N8, e8⟩ := hQ8
  have M8 := Fr.app N0 N8
  refine EndsK.go st8 ?_
  show EndsK p e below _ (T8.setTop (mkF m 47 #[.val (.ref sa), .val (.ref sb), .val (.ref sb)] [(.int (0 : Int32))]))
  refine EndsK.go (fun _ kz => XS.ifYes X8.here hx rfl (pc0 := 47) (pc' := 54) rfl (hb hby d7_47) rfl ((if0 _ _).trans (teq (rfl : (0 : Int32) = (0 : Int32))).1) (by decide) (by decide) kz) ?_
  show EndsK p e below _ (T8.setTop (mkF m 54 #[.val (.ref sa), .val (.ref sb), .val (.ref sb)] []))
  refine EndsK.go (fun _ kz => XS.iconst X8.here hx rfl (hb hby d7_54) kz) ?_
  show EndsK p e below _ (T8.setTop (mkF m 55 #[.val (.ref sa), .val (.ref sb), .val (.ref sb)] [(.int (0 : Int32))]))
  exact endN X8 hx (t := .boolean) Bd.returns (by simp) (hb hby d7_55) hlk ⟨rfl, M8, e8⟩ (by decide) (by decide)
theorem ef_seq11 (m : MethodId) (sa : Addr) (sb : Addr) (va : Addr) (vb : Addr) (ca : Cell) (cb : Cell) (zc : Int32) (p0 : Int32) (q0 : Int32) : entryFrame m #[(.ref sa), (.ref sb)] 3 = mkF m 0 #[.val (.ref sa), .val (.ref sb), .unset] [] := by first | (simp [entryFrame, mkF, argsToLocals, Value.category]; done) | rfl
def Q_seq11 (Z : State) (sa : Addr) (sb : Addr) (va : Addr) (vb : Addr) (ca : Cell) (cb : Cell) (zc : Int32) (p0 : Int32) (q0 : Int32) (h0 : Heap) (n0 : Nat) (vz : Option Value) (hz : Heap) (Lz : List Loc) : Prop := vz = some (.int (lf1 p0 q0)) ∧ Fr n0 Lz ∧ hz = h0
set_option maxRecDepth 65536 in
set_option maxHeartbeats 40000000 in
theorem rm_seq11 (l : Launch) (Z : State) (a0 : Array Value) (hw : ∀ d ∈ tables_1, d.before a0 Z = true) (ws : List Jvm.Cond) (sa : Addr) (sb : Addr) (va : Addr) (vb : Addr) (ca : Cell) (cb : Cell) (zc : Int32) (p0 : Int32) (q0 : Int32) (h0 : Heap) (n0 : Nat) (Z0 : n0 ≤ h0.size) (Es : Exa Z h0 sa "java/lang/String") (Fsc : Fld Z h0 sa "java/lang/String" "coder" "B" (.int (0 : Int32))) (Fsv : Fld Z h0 sa "java/lang/String" "value" "[B" (.ref va)) (hne : ¬ sa = sb) (Et : Exa Z h0 sb "java/lang/String") (Ftc : Fld Z h0 sb "java/lang/String" "coder" "B" (.int (0 : Int32))) (Ftv : Fld Z h0 sb "java/lang/String" "value" "[B" (.ref vb)) (SC : Sta Z h0 "java/lang/String" "COMPACT_STRINGS" "Z" (.int zc)) (hzc : ¬ (zc = (0 : Int32))) (Aa : Arr Z h0 va ca .byte) (Ab : Arr Z h0 vb cb .byte) (za : ca.slots.size.toInt32 = (1 : Int32)) (zb : cb.slots.size.toInt32 = (1 : Int32)) (ua0 : ¬ ((0 : Int32) < 0 ∨ ca.slots.size ≤ (0 : Int32).toNatClampNeg) ∧ ca.slots[(0 : Int32).toNatClampNeg]? = some (.int p0)) (ub0 : ¬ ((0 : Int32) < 0 ∨ cb.slots.size ≤ (0 : Int32).toNatClampNeg) ∧ cb.slots[(0 : Int32).toNatClampNeg]? = some (.int q0)) :
    MetFree l (⟨"java/lang/String", "equals", "(Ljava/lang/Object;)Z"⟩ : MethodName) (head1 (Jvm.Cond.code (⟨"java/lang/String", "equals", "(Ljava/lang/Object;)Z"⟩ : MethodName) jdk_42_method_66_code 3 (some .boolean) :: ws) ({ frames := 1, cells := 0, slots := 0, locals := 14 } : Room)) (fun az Uz => az = #[(.ref sa), (.ref sb)] ∧ Z.Warmed39 Uz.vm ∧ Uz.heap = h0) (fun _ _ _ _ _ => True) (fun _ Uz oz Ut => ∃ vz Lz, oz = .returned vz ∧ Q_seq11 Z sa sb va vb ca cb zc p0 q0 h0 n0 vz Ut.heap Lz ∧ FrameEnd Uz oz Ut Lz (({ frames := 1, cells := 0, slots := 0, locals := 14 } : Room)).cells (({ frames := 1, cells := 0, slots := 0, locals := 14 } : Room)).slots) := by
  refine MetFree.of_bodySF (plainFor_of_name pn2) hisR ?_
  intro p e s m args below meth c s₁ Bd hml0 hP hK
  obtain ⟨rfl, hZ, hh⟩ := hP
  have hx := Bd.exec
  have hby := Bd.bytes
  have hml : c.maxLocals = 3 := hml0
  have hown : s.vm.findClass "java/lang/String" = some m.cls := findClass_of_methodNamed Bd.named
  have hnm := (name_of_methodNamed Bd.named Bd.method).1
  have hlk : meth.locks = false := Bd.notSynchronized
  have X0 : Stand p l e ({ frames := 1, cells := 0, slots := 0, locals := 14 } : Room) s m #[(.ref sa), (.ref sb)] below meth c s₁ [] 0 0 := Stand.of_body Bd
  have e0 : s₁.heap = h0 := by rw [← hh, Bd.state]; rfl
  have N0 := Fr.nil n0
  show EndsK p e below (OQ s (Q_seq11 Z sa sb va vb ca cb zc p0 q0 h0 n0) (({ frames := 1, cells := 0, slots := 0, locals := 14 } : Room)).cells (({ frames := 1, cells := 0, slots := 0, locals := 14 } : Room)).slots) (s₁.setTop (entryFrame m #[(.ref sa), (.ref sb)] 3))
  refine EndsK.start (ef_seq11 m sa sb va vb ca cb zc p0 q0) ?_
  show EndsK p e below _ (s₁.setTop (mkF m 0 #[.val (.ref sa), .val (.ref sb), .unset] []))
  refine EndsK.go (fun _ kz => XS.aloadN X0.here hx rfl (hb hby d7_0) rfl rfl kz) ?_
  show EndsK p e below _ (s₁.setTop (mkF m 1 #[.val (.ref sa), .val (.ref sb), .unset] [(.ref sa)]))
  refine EndsK.go (fun _ kz => XS.aloadN X0.here hx rfl (hb hby d7_1) rfl rfl kz) ?_
  show EndsK p e below _ (s₁.setTop (mkF m 2 #[.val (.ref sa), .val (.ref sb), .unset] [(.ref sb), (.ref sa)]))
  refine EndsK.go (fun _ kz => Jvm.RoadKit.acmp (g := (mkF m 2 #[.val (.ref sa), .val (.ref sb), .unset] [(.ref sb), (.ref sa)])) X0 hx rfl rfl rfl (pc0 := 2) (pc' := 7) (same := false) rfl (hb hby d7_2) rfl (decide_eq_false fun q => hne (Value.ref.inj q)) (by decide) (by decide) kz) ?_
  show EndsK p e below _ (s₁.setTop (mkF m 7 #[.val (.ref sa), .val (.ref sb), .unset] []))
  refine EndsK.go (fun _ kz => XS.aloadN X0.here hx rfl (hb hby d7_7) rfl rfl kz) ?_
  show EndsK p e below _ (s₁.setTop (mkF m 8 #[.val (.ref sa), .val (.ref sb), .unset] [(.ref sb)]))
  obtain ⟨T1, X1, e1, st1⟩ := instY X0 hx hZ hown (hw _ (List.mem_of_getElem? (i := 58) rfl)) e0 (Ins.self Et) (g := (mkF m 8 #[.val (.ref sa), .val (.ref sb), .unset] [(.ref sb)])) rfl rfl (hb hby d7_8)
  refine EndsK.go st1 ?_
  show EndsK p e below _ (T1.setTop (mkF m 11 #[.val (.ref sa), .val (.ref sb), .unset] [(.int (1 : Int32))]))
  refine EndsK.go (fun _ kz => XS.ifNo X1.here hx rfl (hb hby d7_11) rfl ((if0 _ _).trans (feq (by decide : ¬ ((1 : Int32) = (0 : Int32)))).1) kz) ?_
  show EndsK p e below _ (T1.setTop (mkF m 14 #[.val (.ref sa), .val (.ref sb), .unset] []))
  refine EndsK.go (fun _ kz => XS.aloadN X1.here hx rfl (hb hby d7_14) rfl rfl kz) ?_
  show EndsK p e below _ (T1.setTop (mkF m 15 #[.val (.ref sa), .val (.ref sb), .unset] [(.ref sb)]))
  obtain ⟨T2, X2, e2, st2⟩ := castY X1 hx hZ hown (hw _ (List.mem_of_getElem? (i := 58) rfl)) e1 (Ins.self Et) (g := (mkF m 15 #[.val (.ref sa), .val (.ref sb), .unset] [(.ref sb)])) rfl rfl (hb hby d7_15)
  refine EndsK.go st2 ?_
  show EndsK p e below _ (T2.setTop (mkF m 18 #[.val (.ref sa), .val (.ref sb), .unset] [(.ref sb)]))
  refine EndsK.go (fun _ kz => XS.astoreN X2.here hx rfl (hb hby d7_18) rfl rfl (l' := #[.val (.ref sa), .val (.ref sb), .val (.ref sb)]) rfl kz) ?_
  show EndsK p e below _ (T2.setTop (mkF m 19 #[.val (.ref sa), .val (.ref sb), .val (.ref sb)] []))
  obtain ⟨T3, X3, e3, st3⟩ := getS2 X2 hx hZ hown (host := "") (Or.inl (hw _ (List.mem_of_getElem? (i := 59) rfl))) Via.refl e2 SC (g := (mkF m 19 #[.val (.ref sa), .val (.ref sb), .val (.ref sb)] [])) rfl (hb hby d7_19)
  refine EndsK.go st3 ?_
  show EndsK p e below _ (T3.setTop (mkF m 22 #[.val (.ref sa), .val (.ref sb), .val (.ref sb)] [(.int zc)]))
  refine EndsK.go (fun _ kz => XS.ifNo X3.here hx rfl (hb hby d7_22) rfl ((if0 _ _).trans (feq hzc).1) kz) ?_
  show EndsK p e below _ (T3.setTop (mkF m 25 #[.val (.ref sa), .val (.ref sb), .val (.ref sb)] []))
  refine EndsK.go (fun _ kz => XS.aloadN X3.here hx rfl (hb hby d7_25) rfl rfl kz) ?_
  show EndsK p e below _ (T3.setTop (mkF m 26 #[.val (.ref sa), .val (.ref sb), .val (.ref sb)] [(.ref sa)]))
  obtain ⟨T4, X4, e4, st4⟩ := getF X3 hx hZ hown (host := "") (Or.inl (hw _ (List.mem_of_getElem? (i := 25) rfl))) Via.refl e3 Fsc (g := (mkF m 26 #[.val (.ref sa), .val (.ref sb), .val (.ref sb)] [(.ref sa)])) rfl rfl (hb hby d7_26)
  refine EndsK.go st4 ?_
  show EndsK p e below _ (T4.setTop (mkF m 29 #[.val (.ref sa), .val (.ref sb), .val (.ref sb)] [(.int (0 : Int32))]))
  refine EndsK.go (fun _ kz => XS.aloadN X4.here hx rfl (hb hby d7_29) rfl rfl kz) ?_
  show EndsK p e below _ (T4.setTop (mkF m 30 #[.val (.ref sa), .val (.ref sb), .val (.ref sb)] [(.ref sb), (.int (0 : Int32))]))
  obtain ⟨T5, X5, e5, st5⟩ := getF X4 hx hZ hown (host := "") (Or.inl (hw _ (List.mem_of_getElem? (i := 25) rfl))) Via.refl e4 Ftc (g := (mkF m 30 #[.val (.ref sa), .val (.ref sb), .val (.ref sb)] [(.ref sb), (.int (0 : Int32))])) rfl rfl (hb hby d7_30)
  refine EndsK.go st5 ?_
  show EndsK p e below _ (T5.setTop (mkF m 33 #[.val (.ref sa), .val (.ref sb), .val (.ref sb)] [(.int (0 : Int32)), (.int (0 : Int32))]))
  refine EndsK.go (fun _ kz => XS.icmpNo X5.here hx rfl (hb hby d7_33) rfl (teq (rfl : (0 : Int32) = (0 : Int32))).2 kz) ?_
  show EndsK p e below _ (T5.setTop (mkF m 36 #[.val (.ref sa), .val (.ref sb), .val (.ref sb)] []))
  refine EndsK.go (fun _ kz => XS.aloadN X5.here hx rfl (hb hby d7_36) rfl rfl kz) ?_
  show EndsK p e below _ (T5.setTop (mkF m 37 #[.val (.ref sa), .val (.ref sb), .val (.ref sb)] [(.ref sa)]))
  obtain ⟨T6, X6, e6, st6⟩ := getF X5 hx hZ hown (host := "") (Or.inl (hw _ (List.mem_of_getElem? (i := 24) rfl))) Via.refl e5 Fsv (g := (mkF m 37 #[.val (.ref sa), .val (.ref sb), .val (.ref sb)] [(.ref sa)])) rfl rfl (hb hby d7_37)
  refine EndsK.go st6 ?_
  show EndsK p e below _ (T6.setTop (mkF m 40 #[.val (.ref sa), .val (.ref sb), .val (.ref sb)] [(.ref va)]))
  refine EndsK.go (fun _ kz => XS.aloadN X6.here hx rfl (hb hby d7_40) rfl rfl kz) ?_
  show EndsK p e below _ (T6.setTop (mkF m 41 #[.val (.ref sa), .val (.ref sb), .val (.ref sb)] [(.ref sb), (.ref va)]))
  obtain ⟨T7, X7, e7, st7⟩ := getF X6 hx hZ hown (host := "") (Or.inl (hw _ (List.mem_of_getElem? (i := 24) rfl))) Via.refl e6 Ftv (g := (mkF m 41 #[.val (.ref sa), .val (.ref sb), .val (.ref sb)] [(.ref sb), (.ref va)])) rfl rfl (hb hby d7_41)
  refine EndsK.go st7 ?_
  show EndsK p e below _ (T7.setTop (mkF m 44 #[.val (.ref sa), .val (.ref sb), .val (.ref sb)] [(.ref vb), (.ref va)]))
  obtain ⟨_, _, ⟨T8, L8, k8, n8⟩, -, X8, ⟨Lc8, hQ8, l8, y8, z8⟩, st8⟩ := Jvm.LawKit.callS X7 hx (y := (⟨"java/lang/StringLatin1", "equals", "([B[B)Z"⟩ : MethodName)) hown (mvT hZ (hw _ (List.mem_of_getElem? (i := 60) rfl))) (mvT hZ (hw _ (List.mem_of_getElem? (i := 61) rfl))) (mvT hZ (hw _ (List.mem_of_getElem? (i := 62) rfl))) (mvT hZ (hw _ (List.mem_of_getElem? (i := 63) rfl))) (by decide) (backOf (W := 0) (rm_lat11 l Z a0 hw [] va vb ca cb p0 q0 h0 n0 Z0 Aa Ab za zb ua0 ub0) hZ (hw _ (List.mem_of_getElem? (i := 63) rfl)) (hw _ (List.mem_of_getElem? (i := 62) rfl)) (by decide) (by decide)) (g := (mkF m 44 #[.val (.ref sa), .val (.ref sb), .val (.ref sb)] [(.ref vb), (.ref va)])) rfl (by rw [hml]; rfl) (argsL := [(.ref va), (.ref vb)]) (rest := []) (lenOf pd0 rfl) rfl (by show 2 * 0 + _ ≤ _; exact Nat.le_of_eq rfl) (hb hby d7_44) (fun _ _ => ⟨rfl, e7, (by decide : 0 + 0 ≤ _), (by decide : 0 + 0 ≤ _)⟩)
  dsimp only [Pt.U, Pt.locs, Pt.cells, Pt.slots] at X8 l8 y8 z8 st8 hQ8
  subst l8 y8 z8
  obtain ⟨rfl, N8, e8⟩ := hQ8
  have M8 := Fr.app N0 N8
  refine EndsK.go st8 ?_
  show EndsK p e below _ (T8.setTop (mkF m 47 #[.val (.ref sa), .val (.ref sb), .val (.ref sb)] [(.int (lf1 p0 q0))]))
  by_cases H47_9 : (lf1 p0 q0) = (0 : Int32)
  · refine EndsK.go (fun _ kz => XS.ifYes X8.here hx rfl (pc0 := 47) (pc' := 54) rfl (hb hby d7_47) rfl ((if0 _ _).trans (teq H47_9).1) (by decide) (by decide) kz) ?_
    show EndsK p e below _ (T8.setTop (mkF m 54 #[.val (.ref sa), .val (.ref sb), .val (.ref sb)] []))
    refine EndsK.go (fun _ kz => XS.iconst X8.here hx rfl (hb hby d7_54) kz) ?_
    show EndsK p e below _ (T8.setTop (mkF m 55 #[.val (.ref sa), .val (.ref sb), .val (.ref sb)] [(.int (0 : Int32))]))
    exact endN X8 hx (t := .boolean) Bd.returns (by simp) (hb hby d7_55) hlk ⟨(congrArg (fun z => some (Value.int z)) (H47_9 : (lf1 p0 q0) = (0 : Int32))).symm, M8, e8⟩ (by decide) (by decide)
  · refine EndsK.go (fun _ kz => XS.ifNo X8.here hx rfl (hb hby d7_47) rfl ((if0 _ _).trans (feq H47_9).1) kz) ?_
    show EndsK p e below _ (T8.setTop (mkF m 50 #[.val (.ref sa), .val (.ref sb), .val (.ref sb)] []))
    refine EndsK.go (fun _ kz => XS.iconst X8.here hx rfl (hb hby d7_50) kz) ?_
    show EndsK p e below _ (T8.setTop (mkF m 51 #[.val (.ref sa), .val (.ref sb), .val (.ref sb)] [(.int (1 : Int32))]))
    refine EndsK.go (fun _ kz => XS.goto X8.here hx rfl (pc0 := 51) (pc' := 55) rfl (hb hby d7_51) (by decide) (by decide) kz) ?_
    show EndsK p e below _ (T8.setTop (mkF m 55 #[.val (.ref sa), .val (.ref sb), .val (.ref sb)] [(.int (1 : Int32))]))
    exact endN X8 hx (t := .boolean) Bd.returns (by simp) (hb hby d7_55) hlk ⟨(congrArg (fun z => some (Value.int z)) ((lf1_01 p0 q0).resolve_left H47_9 : (lf1 p0 q0) = (1 : Int32))).symm, M8, e8⟩ (by decide) (by decide)
theorem ef_seq12 (m : MethodId) (sa : Addr) (sb : Addr) (va : Addr) (vb : Addr) (ca : Cell) (cb : Cell) (zc : Int32) : entryFrame m #[(.ref sa), (.ref sb)] 3 = mkF m 0 #[.val (.ref sa), .val (.ref sb), .unset] [] := by first | (simp [entryFrame, mkF, argsToLocals, Value.category]; done) | rfl
def Q_seq12 (Z : State) (sa : Addr) (sb : Addr) (va : Addr) (vb : Addr) (ca : Cell) (cb : Cell) (zc : Int32) (h0 : Heap) (n0 : Nat) (vz : Option Value) (hz : Heap) (Lz : List Loc) : Prop := vz = some (.int (0 : Int32)) ∧ Fr n0 Lz ∧ hz = h0
set_option maxRecDepth 65536 in
set_option maxHeartbeats 40000000 in
theorem rm_seq12 (l : Launch) (Z : State) (a0 : Array Value) (hw : ∀ d ∈ tables_1, d.before a0 Z = true) (ws : List Jvm.Cond) (sa : Addr) (sb : Addr) (va : Addr) (vb : Addr) (ca : Cell) (cb : Cell) (zc : Int32) (h0 : Heap) (n0 : Nat) (Z0 : n0 ≤ h0.size) (Es : Exa Z h0 sa "java/lang/String") (Fsc : Fld Z h0 sa "java/lang/String" "coder" "B" (.int (0 : Int32))) (Fsv : Fld Z h0 sa "java/lang/String" "value" "[B" (.ref va)) (hne : ¬ sa = sb) (Et : Exa Z h0 sb "java/lang/String") (Ftc : Fld Z h0 sb "java/lang/String" "coder" "B" (.int (0 : Int32))) (Ftv : Fld Z h0 sb "java/lang/String" "value" "[B" (.ref vb)) (SC : Sta Z h0 "java/lang/String" "COMPACT_STRINGS" "Z" (.int zc)) (hzc : ¬ (zc = (0 : Int32))) (Aa : Arr Z h0 va ca .byte) (Ab : Arr Z h0 vb cb .byte) (za : ca.slots.size.toInt32 = (1 : Int32)) (zb : cb.slots.size.toInt32 = (2 : Int32)) :
    MetFree l (⟨"java/lang/String", "equals", "(Ljava/lang/Object;)Z"⟩ : MethodName) (head1 (Jvm.Cond.code (⟨"java/lang/String", "equals", "(Ljava/lang/Object;)Z"⟩ : MethodName) jdk_42_method_66_code 3 (some .boolean) :: ws) ({ frames := 1, cells := 0, slots := 0, locals := 14 } : Room)) (fun az Uz => az = #[(.ref sa), (.ref sb)] ∧ Z.Warmed39 Uz.vm ∧ Uz.heap = h0) (fun _ _ _ _ _ => True) (fun _ Uz oz Ut => ∃ vz Lz, oz = .returned vz ∧ Q_seq12 Z sa sb va vb ca cb zc h0 n0 vz Ut.heap Lz ∧ FrameEnd Uz oz Ut Lz (({ frames := 1, cells := 0, slots := 0, locals := 14 } : Room)).cells (({ frames := 1, cells := 0, slots := 0, locals := 14 } : Room)).slots) := by
  refine MetFree.of_bodySF (plainFor_of_name pn2) hisR ?_
  intro p e s m args below meth c s₁ Bd hml0 hP hK
  obtain ⟨rfl, hZ, hh⟩ := hP
  have hx := Bd.exec
  have hby := Bd.bytes
  have hml : c.maxLocals = 3 := hml0
  have hown : s.vm.findClass "java/lang/String" = some m.cls := findClass_of_methodNamed Bd.named
  have hnm := (name_of_methodNamed Bd.named Bd.method).1
  have hlk : meth.locks = false := Bd.notSynchronized
  have X0 : Stand p l e ({ frames := 1, cells := 0, slots := 0, locals := 14 } : Room) s m #[(.ref sa), (.ref sb)] below meth c s₁ [] 0 0 := Stand.of_body Bd
  have e0 : s₁.heap = h0 := by rw [← hh, Bd.state]; rfl
  have N0 := Fr.nil n0
  show EndsK p e below (OQ s (Q_seq12 Z sa sb va vb ca cb zc h0 n0) (({ frames := 1, cells := 0, slots := 0, locals := 14 } : Room)).cells (({ frames := 1, cells := 0, slots := 0, locals := 14 } : Room)).slots) (s₁.setTop (entryFrame m #[(.ref sa), (.ref sb)] 3))
  refine EndsK.start (ef_seq12 m sa sb va vb ca cb zc) ?_
  show EndsK p e below _ (s₁.setTop (mkF m 0 #[.val (.ref sa), .val (.ref sb), .unset] []))
  refine EndsK.go (fun _ kz => XS.aloadN X0.here hx rfl (hb hby d7_0) rfl rfl kz) ?_
  show EndsK p e below _ (s₁.setTop (mkF m 1 #[.val (.ref sa), .val (.ref sb), .unset] [(.ref sa)]))
  refine EndsK.go (fun _ kz => XS.aloadN X0.here hx rfl (hb hby d7_1) rfl rfl kz) ?_
  show EndsK p e below _ (s₁.setTop (mkF m 2 #[.val (.ref sa), .val (.ref sb), .unset] [(.ref sb), (.ref sa)]))
  refine EndsK.go (fun _ kz => Jvm.RoadKit.acmp (g := (mkF m 2 #[.val (.ref sa), .val (.ref sb), .unset] [(.ref sb), (.ref sa)])) X0 hx rfl rfl rfl (pc0 := 2) (pc' := 7) (same := false) rfl (hb hby d7_2) rfl (decide_eq_false fun q => hne (Value.ref.inj q)) (by decide) (by decide) kz) ?_
  show EndsK p e below _ (s₁.setTop (mkF m 7 #[.val (.ref sa), .val (.ref sb), .unset] []))
  refine EndsK.go (fun _ kz => XS.aloadN X0.here hx rfl (hb hby d7_7) rfl rfl kz) ?_
  show EndsK p e below _ (s₁.setTop (mkF m 8 #[.val (.ref sa), .val (.ref sb), .unset] [(.ref sb)]))
  obtain ⟨T1, X1, e1, st1⟩ := instY X0 hx hZ hown (hw _ (List.mem_of_getElem? (i := 58) rfl)) e0 (Ins.self Et) (g := (mkF m 8 #[.val (.ref sa), .val (.ref sb), .unset] [(.ref sb)])) rfl rfl (hb hby d7_8)
  refine EndsK.go st1 ?_
  show EndsK p e below _ (T1.setTop (mkF m 11 #[.val (.ref sa), .val (.ref sb), .unset] [(.int (1 : Int32))]))
  refine EndsK.go (fun _ kz => XS.ifNo X1.here hx rfl (hb hby d7_11) rfl ((if0 _ _).trans (feq (by decide : ¬ ((1 : Int32) = (0 : Int32)))).1) kz) ?_
  show EndsK p e below _ (T1.setTop (mkF m 14 #[.val (.ref sa), .val (.ref sb), .unset] []))
  refine EndsK.go (fun _ kz => XS.aloadN X1.here hx rfl (hb hby d7_14) rfl rfl kz) ?_
  show EndsK p e below _ (T1.setTop (mkF m 15 #[.val (.ref sa), .val (.ref sb), .unset] [(.ref sb)]))
  obtain ⟨T2, X2, e2, st2⟩ := castY X1 hx hZ hown (hw _ (List.mem_of_getElem? (i := 58) rfl)) e1 (Ins.self Et) (g := (mkF m 15 #[.val (.ref sa), .val (.ref sb), .unset] [(.ref sb)])) rfl rfl (hb hby d7_15)
  refine EndsK.go st2 ?_
  show EndsK p e below _ (T2.setTop (mkF m 18 #[.val (.ref sa), .val (.ref sb), .unset] [(.ref sb)]))
  refine EndsK.go (fun _ kz => XS.astoreN X2.here hx rfl (hb hby d7_18) rfl rfl (l' := #[.val (.ref sa), .val (.ref sb), .val (.ref sb)]) rfl kz) ?_
  show EndsK p e below _ (T2.setTop (mkF m 19 #[.val (.ref sa), .val (.ref sb), .val (.ref sb)] []))
  obtain ⟨T3, X3, e3, st3⟩ := getS2 X2 hx hZ hown (host := "") (Or.inl (hw _ (List.mem_of_getElem? (i := 59) rfl))) Via.refl e2 SC (g := (mkF m 19 #[.val (.ref sa), .val (.ref sb), .val (.ref sb)] [])) rfl (hb hby d7_19)
  refine EndsK.go st3 ?_
  show EndsK p e below _ (T3.setTop (mkF m 22 #[.val (.ref sa), .val (.ref sb), .val (.ref sb)] [(.int zc)]))
  refine EndsK.go (fun _ kz => XS.ifNo X3.here hx rfl (hb hby d7_22) rfl ((if0 _ _).trans (feq hzc).1) kz) ?_
  show EndsK p e below _ (T3.setTop (mkF m 25 #[.val (.ref sa), .val (.ref sb), .val (.ref sb)] []))
  refine EndsK.go (fun _ kz => XS.aloadN X3.here hx rfl (hb hby d7_25) rfl rfl kz) ?_
  show EndsK p e below _ (T3.setTop (mkF m 26 #[.val (.ref sa), .val (.ref sb), .val (.ref sb)] [(.ref sa)]))
  obtain ⟨T4, X4, e4, st4⟩ := getF X3 hx hZ hown (host := "") (Or.inl (hw _ (List.mem_of_getElem? (i := 25) rfl))) Via.refl e3 Fsc (g := (mkF m 26 #[.val (.ref sa), .val (.ref sb), .val (.ref sb)] [(.ref sa)])) rfl rfl (hb hby d7_26)
  refine EndsK.go st4 ?_
  show EndsK p e below _ (T4.setTop (mkF m 29 #[.val (.ref sa), .val (.ref sb), .val (.ref sb)] [(.int (0 : Int32))]))
  refine EndsK.go (fun _ kz => XS.aloadN X4.here hx rfl (hb hby d7_29) rfl rfl kz) ?_
  show EndsK p e below _ (T4.setTop (mkF m 30 #[.val (.ref sa), .val (.ref sb), .val (.ref sb)] [(.ref sb), (.int (0 : Int32))]))
  obtain ⟨T5, X5, e5, st5⟩ := getF X4 hx hZ hown (host := "") (Or.inl (hw _ (List.mem_of_getElem? (i := 25) rfl))) Via.refl e4 Ftc (g := (mkF m 30 #[.val (.ref sa), .val (.ref sb), .val (.ref sb)] [(.ref sb), (.int (0 : Int32))])) rfl rfl (hb hby d7_30)
  refine EndsK.go st5 ?_
  show EndsK p e below _ (T5.setTop (mkF m 33 #[.val (.ref sa), .val (.ref sb), .val (.ref sb)] [(.int (0 : Int32)), (.int (0 : Int32))]))
  refine EndsK.go (fun _ kz => XS.icmpNo X5.here hx rfl (hb hby d7_33) rfl (teq (rfl : (0 : Int32) = (0 : Int32))).2 kz) ?_
  show EndsK p e below _ (T5.setTop (mkF m 36 #[.val (.ref sa), .val (.ref sb), .val (.ref sb)] []))
  refine EndsK.go (fun _ kz => XS.aloadN X5.here hx rfl (hb hby d7_36) rfl rfl kz) ?_
  show EndsK p e below _ (T5.setTop (mkF m 37 #[.val (.ref sa), .val (.ref sb), .val (.ref sb)] [(.ref sa)]))
  obtain ⟨T6, X6, e6, st6⟩ := getF X5 hx hZ hown (host := "") (Or.inl (hw _ (List.mem_of_getElem? (i := 24) rfl))) Via.refl e5 Fsv (g := (mkF m 37 #[.val (.ref sa), .val (.ref sb), .val (.ref sb)] [(.ref sa)])) rfl rfl (hb hby d7_37)
  refine EndsK.go st6 ?_
  show EndsK p e below _ (T6.setTop (mkF m 40 #[.val (.ref sa), .val (.ref sb), .val (.ref sb)] [(.ref va)]))
  refine EndsK.go (fun _ kz => XS.aloadN X6.here hx rfl (hb hby d7_40) rfl rfl kz) ?_
  show EndsK p e below _ (T6.setTop (mkF m 41 #[.val (.ref sa), .val (.ref sb), .val (.ref sb)] [(.ref sb), (.ref va)]))
  obtain ⟨T7, X7, e7, st7⟩ := getF X6 hx hZ hown (host := "") (Or.inl (hw _ (List.mem_of_getElem? (i := 24) rfl))) Via.refl e6 Ftv (g := (mkF m 41 #[.val (.ref sa), .val (.ref sb), .val (.ref sb)] [(.ref sb), (.ref va)])) rfl rfl (hb hby d7_41)
  refine EndsK.go st7 ?_
  show EndsK p e below _ (T7.setTop (mkF m 44 #[.val (.ref sa), .val (.ref sb), .val (.ref sb)] [(.ref vb), (.ref va)]))
  obtain ⟨_, _, ⟨T8, L8, k8, n8⟩, -, X8, ⟨Lc8, hQ8, l8, y8, z8⟩, st8⟩ := Jvm.LawKit.callS X7 hx (y := (⟨"java/lang/StringLatin1", "equals", "([B[B)Z"⟩ : MethodName)) hown (mvT hZ (hw _ (List.mem_of_getElem? (i := 60) rfl))) (mvT hZ (hw _ (List.mem_of_getElem? (i := 61) rfl))) (mvT hZ (hw _ (List.mem_of_getElem? (i := 62) rfl))) (mvT hZ (hw _ (List.mem_of_getElem? (i := 63) rfl))) (by decide) (backOf (W := 0) (rm_lat12 l Z a0 hw [] va vb ca cb  h0 n0 Z0 Aa Ab za zb) hZ (hw _ (List.mem_of_getElem? (i := 63) rfl)) (hw _ (List.mem_of_getElem? (i := 62) rfl)) (by decide) (by decide)) (g := (mkF m 44 #[.val (.ref sa), .val (.ref sb), .val (.ref sb)] [(.ref vb), (.ref va)])) rfl (by rw [hml]; rfl) (argsL := [(.ref va), (.ref vb)]) (rest := []) (lenOf pd0 rfl) rfl (by show 2 * 0 + _ ≤ _; exact Nat.le_of_eq rfl) (hb hby d7_44) (fun _ _ => ⟨rfl, e7, (by decide : 0 + 0 ≤ _), (by decide : 0 + 0 ≤ _)⟩)
  dsimp only [Pt.U, Pt.locs, Pt.cells, Pt.slots] at X8 l8 y8 z8 st8 hQ8
  subst l8 y8 z8
  obtain ⟨rfl, N8, e8⟩ := hQ8
  have M8 := Fr.app N0 N8
  refine EndsK.go st8 ?_
  show EndsK p e below _ (T8.setTop (mkF m 47 #[.val (.ref sa), .val (.ref sb), .val (.ref sb)] [(.int (0 : Int32))]))
  refine EndsK.go (fun _ kz => XS.ifYes X8.here hx rfl (pc0 := 47) (pc' := 54) rfl (hb hby d7_47) rfl ((if0 _ _).trans (teq (rfl : (0 : Int32) = (0 : Int32))).1) (by decide) (by decide) kz) ?_
  show EndsK p e below _ (T8.setTop (mkF m 54 #[.val (.ref sa), .val (.ref sb), .val (.ref sb)] []))
  refine EndsK.go (fun _ kz => XS.iconst X8.here hx rfl (hb hby d7_54) kz) ?_
  show EndsK p e below _ (T8.setTop (mkF m 55 #[.val (.ref sa), .val (.ref sb), .val (.ref sb)] [(.int (0 : Int32))]))
  exact endN X8 hx (t := .boolean) Bd.returns (by simp) (hb hby d7_55) hlk ⟨rfl, M8, e8⟩ (by decide) (by decide)
theorem ef_seq13 (m : MethodId) (sa : Addr) (sb : Addr) (va : Addr) (vb : Addr) (ca : Cell) (cb : Cell) (zc : Int32) : entryFrame m #[(.ref sa), (.ref sb)] 3 = mkF m 0 #[.val (.ref sa), .val (.ref sb), .unset] [] := by first | (simp [entryFrame, mkF, argsToLocals, Value.category]; done) | rfl
def Q_seq13 (Z : State) (sa : Addr) (sb : Addr) (va : Addr) (vb : Addr) (ca : Cell) (cb : Cell) (zc : Int32) (h0 : Heap) (n0 : Nat) (vz : Option Value) (hz : Heap) (Lz : List Loc) : Prop := vz = some (.int (0 : Int32)) ∧ Fr n0 Lz ∧ hz = h0
set_option maxRecDepth 65536 in
set_option maxHeartbeats 40000000 in
theorem rm_seq13 (l : Launch) (Z : State) (a0 : Array Value) (hw : ∀ d ∈ tables_1, d.before a0 Z = true) (ws : List Jvm.Cond) (sa : Addr) (sb : Addr) (va : Addr) (vb : Addr) (ca : Cell) (cb : Cell) (zc : Int32) (h0 : Heap) (n0 : Nat) (Z0 : n0 ≤ h0.size) (Es : Exa Z h0 sa "java/lang/String") (Fsc : Fld Z h0 sa "java/lang/String" "coder" "B" (.int (0 : Int32))) (Fsv : Fld Z h0 sa "java/lang/String" "value" "[B" (.ref va)) (hne : ¬ sa = sb) (Et : Exa Z h0 sb "java/lang/String") (Ftc : Fld Z h0 sb "java/lang/String" "coder" "B" (.int (0 : Int32))) (Ftv : Fld Z h0 sb "java/lang/String" "value" "[B" (.ref vb)) (SC : Sta Z h0 "java/lang/String" "COMPACT_STRINGS" "Z" (.int zc)) (hzc : ¬ (zc = (0 : Int32))) (Aa : Arr Z h0 va ca .byte) (Ab : Arr Z h0 vb cb .byte) (za : ca.slots.size.toInt32 = (1 : Int32)) (zb : cb.slots.size.toInt32 = (3 : Int32)) :
    MetFree l (⟨"java/lang/String", "equals", "(Ljava/lang/Object;)Z"⟩ : MethodName) (head1 (Jvm.Cond.code (⟨"java/lang/String", "equals", "(Ljava/lang/Object;)Z"⟩ : MethodName) jdk_42_method_66_code 3 (some .boolean) :: ws) ({ frames := 1, cells := 0, slots := 0, locals := 14 } : Room)) (fun az Uz => az = #[(.ref sa), (.ref sb)] ∧ Z.Warmed39 Uz.vm ∧ Uz.heap = h0) (fun _ _ _ _ _ => True) (fun _ Uz oz Ut => ∃ vz Lz, oz = .returned vz ∧ Q_seq13 Z sa sb va vb ca cb zc h0 n0 vz Ut.heap Lz ∧ FrameEnd Uz oz Ut Lz (({ frames := 1, cells := 0, slots := 0, locals := 14 } : Room)).cells (({ frames := 1, cells := 0, slots := 0, locals := 14 } : Room)).slots) := by
  refine MetFree.of_bodySF (plainFor_of_name pn2) hisR ?_
  intro p e s m args below meth c s₁ Bd hml0 hP hK
  obtain ⟨rfl, hZ, hh⟩ := hP
  have hx := Bd.exec
  have hby := Bd.bytes
  have hml : c.maxLocals = 3 := hml0
  have hown : s.vm.findClass "java/lang/String" = some m.cls := findClass_of_methodNamed Bd.named
  have hnm := (name_of_methodNamed Bd.named Bd.method).1
  have hlk : meth.locks = false := Bd.notSynchronized
  have X0 : Stand p l e ({ frames := 1, cells := 0, slots := 0, locals := 14 } : Room) s m #[(.ref sa), (.ref sb)] below meth c s₁ [] 0 0 := Stand.of_body Bd
  have e0 : s₁.heap = h0 := by rw [← hh, Bd.state]; rfl
  have N0 := Fr.nil n0
  show EndsK p e below (OQ s (Q_seq13 Z sa sb va vb ca cb zc h0 n0) (({ frames := 1, cells := 0, slots := 0, locals := 14 } : Room)).cells (({ frames := 1, cells := 0, slots := 0, locals := 14 } : Room)).slots) (s₁.setTop (entryFrame m #[(.ref sa), (.ref sb)] 3))
  refine EndsK.start (ef_seq13 m sa sb va vb ca cb zc) ?_
  show EndsK p e below _ (s₁.setTop (mkF m 0 #[.val (.ref sa), .val (.ref sb), .unset] []))
  refine EndsK.go (fun _ kz => XS.aloadN X0.here hx rfl (hb hby d7_0) rfl rfl kz) ?_
  show EndsK p e below _ (s₁.setTop (mkF m 1 #[.val (.ref sa), .val (.ref sb), .unset] [(.ref sa)]))
  refine EndsK.go (fun _ kz => XS.aloadN X0.here hx rfl (hb hby d7_1) rfl rfl kz) ?_
  show EndsK p e below _ (s₁.setTop (mkF m 2 #[.val (.ref sa), .val (.ref sb), .unset] [(.ref sb), (.ref sa)]))
  refine EndsK.go (fun _ kz => Jvm.RoadKit.acmp (g := (mkF m 2 #[.val (.ref sa), .val (.ref sb), .unset] [(.ref sb), (.ref sa)])) X0 hx rfl rfl rfl (pc0 := 2) (pc' := 7) (same := false) rfl (hb hby d7_2) rfl (decide_eq_false fun q => hne (Value.ref.inj q)) (by decide) (by decide) kz) ?_
  show EndsK p e below _ (s₁.setTop (mkF m 7 #[.val (.ref sa), .val (.ref sb), .unset] []))
  refine EndsK.go (fun _ kz => XS.aloadN X0.here hx rfl (hb hby d7_7) rfl rfl kz) ?_
  show EndsK p e below _ (s₁.setTop (mkF m 8 #[.val (.ref sa), .val (.ref sb), .unset] [(.ref sb)]))
  obtain ⟨T1, X1, e1, st1⟩ := instY X0 hx hZ hown (hw _ (List.mem_of_getElem? (i := 58) rfl)) e0 (Ins.self Et) (g := (mkF m 8 #[.val (.ref sa), .val (.ref sb), .unset] [(.ref sb)])) rfl rfl (hb hby d7_8)
  refine EndsK.go st1 ?_
  show EndsK p e below _ (T1.setTop (mkF m 11 #[.val (.ref sa), .val (.ref sb), .unset] [(.int (1 : Int32))]))
  refine EndsK.go (fun _ kz => XS.ifNo X1.here hx rfl (hb hby d7_11) rfl ((if0 _ _).trans (feq (by decide : ¬ ((1 : Int32) = (0 : Int32)))).1) kz) ?_
  show EndsK p e below _ (T1.setTop (mkF m 14 #[.val (.ref sa), .val (.ref sb), .unset] []))
  refine EndsK.go (fun _ kz => XS.aloadN X1.here hx rfl (hb hby d7_14) rfl rfl kz) ?_
  show EndsK p e below _ (T1.setTop (mkF m 15 #[.val (.ref sa), .val (.ref sb), .unset] [(.ref sb)]))
  obtain ⟨T2, X2, e2, st2⟩ := castY X1 hx hZ hown (hw _ (List.mem_of_getElem? (i := 58) rfl)) e1 (Ins.self Et) (g := (mkF m 15 #[.val (.ref sa), .val (.ref sb), .unset] [(.ref sb)])) rfl rfl (hb hby d7_15)
  refine EndsK.go st2 ?_
  show EndsK p e below _ (T2.setTop (mkF m 18 #[.val (.ref sa), .val (.ref sb), .unset] [(.ref sb)]))
  refine EndsK.go (fun _ kz => XS.astoreN X2.here hx rfl (hb hby d7_18) rfl rfl (l' := #[.val (.ref sa), .val (.ref sb), .val (.ref sb)]) rfl kz) ?_
  show EndsK p e below _ (T2.setTop (mkF m 19 #[.val (.ref sa), .val (.ref sb), .val (.ref sb)] []))
  obtain ⟨T3, X3, e3, st3⟩ := getS2 X2 hx hZ hown (host := "") (Or.inl (hw _ (List.mem_of_getElem? (i := 59) rfl))) Via.refl e2 SC (g := (mkF m 19 #[.val (.ref sa), .val (.ref sb), .val (.ref sb)] [])) rfl (hb hby d7_19)
  refine EndsK.go st3 ?_
  show EndsK p e below _ (T3.setTop (mkF m 22 #[.val (.ref sa), .val (.ref sb), .val (.ref sb)] [(.int zc)]))
  refine EndsK.go (fun _ kz => XS.ifNo X3.here hx rfl (hb hby d7_22) rfl ((if0 _ _).trans (feq hzc).1) kz) ?_
  show EndsK p e below _ (T3.setTop (mkF m 25 #[.val (.ref sa), .val (.ref sb), .val (.ref sb)] []))
  refine EndsK.go (fun _ kz => XS.aloadN X3.here hx rfl (hb hby d7_25) rfl rfl kz) ?_
  show EndsK p e below _ (T3.setTop (mkF m 26 #[.val (.ref sa), .val (.ref sb), .val (.ref sb)] [(.ref sa)]))
  obtain ⟨T4, X4, e4, st4⟩ := getF X3 hx hZ hown (host := "") (Or.inl (hw _ (List.mem_of_getElem? (i := 25) rfl))) Via.refl e3 Fsc (g := (mkF m 26 #[.val (.ref sa), .val (.ref sb), .val (.ref sb)] [(.ref sa)])) rfl rfl (hb hby d7_26)
  refine EndsK.go st4 ?_
  show EndsK p e below _ (T4.setTop (mkF m 29 #[.val (.ref sa), .val (.ref sb), .val (.ref sb)] [(.int (0 : Int32))]))
  refine EndsK.go (fun _ kz => XS.aloadN X4.here hx rfl (hb hby d7_29) rfl rfl kz) ?_
  show EndsK p e below _ (T4.setTop (mkF m 30 #[.val (.ref sa), .val (.ref sb), .val (.ref sb)] [(.ref sb), (.int (0 : Int32))]))
  obtain ⟨T5, X5, e5, st5⟩ := getF X4 hx hZ hown (host := "") (Or.inl (hw _ (List.mem_of_getElem? (i := 25) rfl))) Via.refl e4 Ftc (g := (mkF m 30 #[.val (.ref sa), .val (.ref sb), .val (.ref sb)] [(.ref sb), (.int (0 : Int32))])) rfl rfl (hb hby d7_30)
  refine EndsK.go st5 ?_
  show EndsK p e below _ (T5.setTop (mkF m 33 #[.val (.ref sa), .val (.ref sb), .val (.ref sb)] [(.int (0 : Int32)), (.int (0 : Int32))]))
  refine EndsK.go (fun _ kz => XS.icmpNo X5.here hx rfl (hb hby d7_33) rfl (teq (rfl : (0 : Int32) = (0 : Int32))).2 kz) ?_
  show EndsK p e below _ (T5.setTop (mkF m 36 #[.val (.ref sa), .val (.ref sb), .val (.ref sb)] []))
  refine EndsK.go (fun _ kz => XS.aloadN X5.here hx rfl (hb hby d7_36) rfl rfl kz) ?_
  show EndsK p e below _ (T5.setTop (mkF m 37 #[.val (.ref sa), .val (.ref sb), .val (.ref sb)] [(.ref sa)]))
  obtain ⟨T6, X6, e6, st6⟩ := getF X5 hx hZ hown (host := "") (Or.inl (hw _ (List.mem_of_getElem? (i := 24) rfl))) Via.refl e5 Fsv (g := (mkF m 37 #[.val (.ref sa), .val (.ref sb), .val (.ref sb)] [(.ref sa)])) rfl rfl (hb hby d7_37)
  refine EndsK.go st6 ?_
  show EndsK p e below _ (T6.setTop (mkF m 40 #[.val (.ref sa), .val (.ref sb), .val (.ref sb)] [(.ref va)]))
  refine EndsK.go (fun _ kz => XS.aloadN X6.here hx rfl (hb hby d7_40) rfl rfl kz) ?_
  show EndsK p e below _ (T6.setTop (mkF m 41 #[.val (.ref sa), .val (.ref sb), .val (.ref sb)] [(.ref sb), (.ref va)]))
  obtain ⟨T7, X7, e7, st7⟩ := getF X6 hx hZ hown (host := "") (Or.inl (hw _ (List.mem_of_getElem? (i := 24) rfl))) Via.refl e6 Ftv (g := (mkF m 41 #[.val (.ref sa), .val (.ref sb), .val (.ref sb)] [(.ref sb), (.ref va)])) rfl rfl (hb hby d7_41)
  refine EndsK.go st7 ?_
  show EndsK p e below _ (T7.setTop (mkF m 44 #[.val (.ref sa), .val (.ref sb), .val (.ref sb)] [(.ref vb), (.ref va)]))
  obtain ⟨_, _, ⟨T8, L8, k8, n8⟩, -, X8, ⟨Lc8, hQ8, l8, y8, z8⟩, st8⟩ := Jvm.LawKit.callS X7 hx (y := (⟨"java/lang/StringLatin1", "equals", "([B[B)Z"⟩ : MethodName)) hown (mvT hZ (hw _ (List.mem_of_getElem? (i := 60) rfl))) (mvT hZ (hw _ (List.mem_of_getElem? (i := 61) rfl))) (mvT hZ (hw _ (List.mem_of_getElem? (i := 62) rfl))) (mvT hZ (hw _ (List.mem_of_getElem? (i := 63) rfl))) (by decide) (backOf (W := 0) (rm_lat13 l Z a0 hw [] va vb ca cb  h0 n0 Z0 Aa Ab za zb) hZ (hw _ (List.mem_of_getElem? (i := 63) rfl)) (hw _ (List.mem_of_getElem? (i := 62) rfl)) (by decide) (by decide)) (g := (mkF m 44 #[.val (.ref sa), .val (.ref sb), .val (.ref sb)] [(.ref vb), (.ref va)])) rfl (by rw [hml]; rfl) (argsL := [(.ref va), (.ref vb)]) (rest := []) (lenOf pd0 rfl) rfl (by show 2 * 0 + _ ≤ _; exact Nat.le_of_eq rfl) (hb hby d7_44) (fun _ _ => ⟨rfl, e7, (by decide : 0 + 0 ≤ _), (by decide : 0 + 0 ≤ _)⟩)
  dsimp only [Pt.U, Pt.locs, Pt.cells, Pt.slots] at X8 l8 y8 z8 st8 hQ8
  subst l8 y8 z8
  obtain ⟨rfl, N8, e8⟩ := hQ8
  have M8 := Fr.app N0 N8
  refine EndsK.go st8 ?_
  show EndsK p e below _ (T8.setTop (mkF m 47 #[.val (.ref sa), .val (.ref sb), .val (.ref sb)] [(.int (0 : Int32))]))
  refine EndsK.go (fun _ kz => XS.ifYes X8.here hx rfl (pc0 := 47) (pc' := 54) rfl (hb hby d7_47) rfl ((if0 _ _).trans (teq (rfl : (0 : Int32) = (0 : Int32))).1) (by decide) (by decide) kz) ?_
  show EndsK p e below _ (T8.setTop (mkF m 54 #[.val (.ref sa), .val (.ref sb), .val (.ref sb)] []))
  refine EndsK.go (fun _ kz => XS.iconst X8.here hx rfl (hb hby d7_54) kz) ?_
  show EndsK p e below _ (T8.setTop (mkF m 55 #[.val (.ref sa), .val (.ref sb), .val (.ref sb)] [(.int (0 : Int32))]))
  exact endN X8 hx (t := .boolean) Bd.returns (by simp) (hb hby d7_55) hlk ⟨rfl, M8, e8⟩ (by decide) (by decide)
theorem ef_seq20 (m : MethodId) (sa : Addr) (sb : Addr) (va : Addr) (vb : Addr) (ca : Cell) (cb : Cell) (zc : Int32) : entryFrame m #[(.ref sa), (.ref sb)] 3 = mkF m 0 #[.val (.ref sa), .val (.ref sb), .unset] [] := by first | (simp [entryFrame, mkF, argsToLocals, Value.category]; done) | rfl
def Q_seq20 (Z : State) (sa : Addr) (sb : Addr) (va : Addr) (vb : Addr) (ca : Cell) (cb : Cell) (zc : Int32) (h0 : Heap) (n0 : Nat) (vz : Option Value) (hz : Heap) (Lz : List Loc) : Prop := vz = some (.int (0 : Int32)) ∧ Fr n0 Lz ∧ hz = h0
set_option maxRecDepth 65536 in
set_option maxHeartbeats 40000000 in
theorem rm_seq20 (l : Launch) (Z : State) (a0 : Array Value) (hw : ∀ d ∈ tables_1, d.before a0 Z = true) (ws : List Jvm.Cond) (sa : Addr) (sb : Addr) (va : Addr) (vb : Addr) (ca : Cell) (cb : Cell) (zc : Int32) (h0 : Heap) (n0 : Nat) (Z0 : n0 ≤ h0.size) (Es : Exa Z h0 sa "java/lang/String") (Fsc : Fld Z h0 sa "java/lang/String" "coder" "B" (.int (0 : Int32))) (Fsv : Fld Z h0 sa "java/lang/String" "value" "[B" (.ref va)) (hne : ¬ sa = sb) (Et : Exa Z h0 sb "java/lang/String") (Ftc : Fld Z h0 sb "java/lang/String" "coder" "B" (.int (0 : Int32))) (Ftv : Fld Z h0 sb "java/lang/String" "value" "[B" (.ref vb)) (SC : Sta Z h0 "java/lang/String" "COMPACT_STRINGS" "Z" (.int zc)) (hzc : ¬ (zc = (0 : Int32))) (Aa : Arr Z h0 va ca .byte) (Ab : Arr Z h0 vb cb .byte) (za : ca.slots.size.toInt32 = (2 : Int32)) (zb : cb.slots.size.toInt32 = (0 : Int32)) :
    MetFree l (⟨"java/lang/String", "equals", "(Ljava/lang/Object;)Z"⟩ : MethodName) (head1 (Jvm.Cond.code (⟨"java/lang/String", "equals", "(Ljava/lang/Object;)Z"⟩ : MethodName) jdk_42_method_66_code 3 (some .boolean) :: ws) ({ frames := 1, cells := 0, slots := 0, locals := 14 } : Room)) (fun az Uz => az = #[(.ref sa), (.ref sb)] ∧ Z.Warmed39 Uz.vm ∧ Uz.heap = h0) (fun _ _ _ _ _ => True) (fun _ Uz oz Ut => ∃ vz Lz, oz = .returned vz ∧ Q_seq20 Z sa sb va vb ca cb zc h0 n0 vz Ut.heap Lz ∧ FrameEnd Uz oz Ut Lz (({ frames := 1, cells := 0, slots := 0, locals := 14 } : Room)).cells (({ frames := 1, cells := 0, slots := 0, locals := 14 } : Room)).slots) := by
  refine MetFree.of_bodySF (plainFor_of_name pn2) hisR ?_
  intro p e s m args below meth c s₁ Bd hml0 hP hK
  obtain ⟨rfl, hZ, hh⟩ := hP
  have hx := Bd.exec
  have hby := Bd.bytes
  have hml : c.maxLocals = 3 := hml0
  have hown : s.vm.findClass "java/lang/String" = some m.cls := findClass_of_methodNamed Bd.named
  have hnm := (name_of_methodNamed Bd.named Bd.method).1
  have hlk : meth.locks = false := Bd.notSynchronized
  have X0 : Stand p l e ({ frames := 1, cells := 0, slots := 0, locals := 14 } : Room) s m #[(.ref sa), (.ref sb)] below meth c s₁ [] 0 0 := Stand.of_body Bd
  have e0 : s₁.heap = h0 := by rw [← hh, Bd.state]; rfl
  have N0 := Fr.nil n0
  show EndsK p e below (OQ s (Q_seq20 Z sa sb va vb ca cb zc h0 n0) (({ frames := 1, cells := 0, slots := 0, locals := 14 } : Room)).cells (({ frames := 1, cells := 0, slots := 0, locals := 14 } : Room)).slots) (s₁.setTop (entryFrame m #[(.ref sa), (.ref sb)] 3))
  refine EndsK.start (ef_seq20 m sa sb va vb ca cb zc) ?_
  show EndsK p e below _ (s₁.setTop (mkF m 0 #[.val (.ref sa), .val (.ref sb), .unset] []))
  refine EndsK.go (fun _ kz => XS.aloadN X0.here hx rfl (hb hby d7_0) rfl rfl kz) ?_
  show EndsK p e below _ (s₁.setTop (mkF m 1 #[.val (.ref sa), .val (.ref sb), .unset] [(.ref sa)]))
  refine EndsK.go (fun _ kz => XS.aloadN X0.here hx rfl (hb hby d7_1) rfl rfl kz) ?_
  show EndsK p e below _ (s₁.setTop (mkF m 2 #[.val (.ref sa), .val (.ref sb), .unset] [(.ref sb), (.ref sa)]))
  refine EndsK.go (fun _ kz => Jvm.RoadKit.acmp (g := (mkF m 2 #[.val (.ref sa), .val (.ref sb), .unset] [(.ref sb), (.ref sa)])) X0 hx rfl rfl rfl (pc0 := 2) (pc' := 7) (same := false) rfl (hb hby d7_2) rfl (decide_eq_false fun q => hne (Value.ref.inj q)) (by decide) (by decide) kz) ?_
  show EndsK p e below _ (s₁.setTop (mkF m 7 #[.val (.ref sa), .val (.ref sb), .unset] []))
  refine EndsK.go (fun _ kz => XS.aloadN X0.here hx rfl (hb hby d7_7) rfl rfl kz) ?_
  show EndsK p e below _ (s₁.setTop (mkF m 8 #[.val (.ref sa), .val (.ref sb), .unset] [(.ref sb)]))
  obtain ⟨T1, X1, e1, st1⟩ := instY X0 hx hZ hown (hw _ (List.mem_of_getElem? (i := 58) rfl)) e0 (Ins.self Et) (g := (mkF m 8 #[.val (.ref sa), .val (.ref sb), .unset] [(.ref sb)])) rfl rfl (hb hby d7_8)
  refine EndsK.go st1 ?_
  show EndsK p e below _ (T1.setTop (mkF m 11 #[.val (.ref sa), .val (.ref sb), .unset] [(.int (1 : Int32))]))
  refine EndsK.go (fun _ kz => XS.ifNo X1.here hx rfl (hb hby d7_11) rfl ((if0 _ _).trans (feq (by decide : ¬ ((1 : Int32) = (0 : Int32)))).1) kz) ?_
  show EndsK p e below _ (T1.setTop (mkF m 14 #[.val (.ref sa), .val (.ref sb), .unset] []))
  refine EndsK.go (fun _ kz => XS.aloadN X1.here hx rfl (hb hby d7_14) rfl rfl kz) ?_
  show EndsK p e below _ (T1.setTop (mkF m 15 #[.val (.ref sa), .val (.ref sb), .unset] [(.ref sb)]))
  obtain ⟨T2, X2, e2, st2⟩ := castY X1 hx hZ hown (hw _ (List.mem_of_getElem? (i := 58) rfl)) e1 (Ins.self Et) (g := (mkF m 15 #[.val (.ref sa), .val (.ref sb), .unset] [(.ref sb)])) rfl rfl (hb hby d7_15)
  refine EndsK.go st2 ?_
  show EndsK p e below _ (T2.setTop (mkF m 18 #[.val (.ref sa), .val (.ref sb), .unset] [(.ref sb)]))
  refine EndsK.go (fun _ kz => XS.astoreN X2.here hx rfl (hb hby d7_18) rfl rfl (l' := #[.val (.ref sa), .val (.ref sb), .val (.ref sb)]) rfl kz) ?_
  show EndsK p e below _ (T2.setTop (mkF m 19 #[.val (.ref sa), .val (.ref sb), .val (.ref sb)] []))
  obtain ⟨T3, X3, e3, st3⟩ := getS2 X2 hx hZ hown (host := "") (Or.inl (hw _ (List.mem_of_getElem? (i := 59) rfl))) Via.refl e2 SC (g := (mkF m 19 #[.val (.ref sa), .val (.ref sb), .val (.ref sb)] [])) rfl (hb hby d7_19)
  refine EndsK.go st3 ?_
  show EndsK p e below _ (T3.setTop (mkF m 22 #[.val (.ref sa), .val (.ref sb), .val (.ref sb)] [(.int zc)]))
  refine EndsK.go (fun _ kz => XS.ifNo X3.here hx rfl (hb hby d7_22) rfl ((if0 _ _).trans (feq hzc).1) kz) ?_
  show EndsK p e below _ (T3.setTop (mkF m 25 #[.val (.ref sa), .val (.ref sb), .val (.ref sb)] []))
  refine EndsK.go (fun _ kz => XS.aloadN X3.here hx rfl (hb hby d7_25) rfl rfl kz) ?_
  show EndsK p e below _ (T3.setTop (mkF m 26 #[.val (.ref sa), .val (.ref sb), .val (.ref sb)] [(.ref sa)]))
  obtain ⟨T4, X4, e4, st4⟩ := getF X3 hx hZ hown (host := "") (Or.inl (hw _ (List.mem_of_getElem? (i := 25) rfl))) Via.refl e3 Fsc (g := (mkF m 26 #[.val (.ref sa), .val (.ref sb), .val (.ref sb)] [(.ref sa)])) rfl rfl (hb hby d7_26)
  refine EndsK.go st4 ?_
  show EndsK p e below _ (T4.setTop (mkF m 29 #[.val (.ref sa), .val (.ref sb), .val (.ref sb)] [(.int (0 : Int32))]))
  refine EndsK.go (fun _ kz => XS.aloadN X4.here hx rfl (hb hby d7_29) rfl rfl kz) ?_
  show EndsK p e below _ (T4.setTop (mkF m 30 #[.val (.ref sa), .val (.ref sb), .val (.ref sb)] [(.ref sb), (.int (0 : Int32))]))
  obtain ⟨T5, X5, e5, st5⟩ := getF X4 hx hZ hown (host := "") (Or.inl (hw _ (List.mem_of_getElem? (i := 25) rfl))) Via.refl e4 Ftc (g := (mkF m 30 #[.val (.ref sa), .val (.ref sb), .val (.ref sb)] [(.ref sb), (.int (0 : Int32))])) rfl rfl (hb hby d7_30)
  refine EndsK.go st5 ?_
  show EndsK p e below _ (T5.setTop (mkF m 33 #[.val (.ref sa), .val (.ref sb), .val (.ref sb)] [(.int (0 : Int32)), (.int (0 : Int32))]))
  refine EndsK.go (fun _ kz => XS.icmpNo X5.here hx rfl (hb hby d7_33) rfl (teq (rfl : (0 : Int32) = (0 : Int32))).2 kz) ?_
  show EndsK p e below _ (T5.setTop (mkF m 36 #[.val (.ref sa), .val (.ref sb), .val (.ref sb)] []))
  refine EndsK.go (fun _ kz => XS.aloadN X5.here hx rfl (hb hby d7_36) rfl rfl kz) ?_
  show EndsK p e below _ (T5.setTop (mkF m 37 #[.val (.ref sa), .val (.ref sb), .val (.ref sb)] [(.ref sa)]))
  obtain ⟨T6, X6, e6, st6⟩ := getF X5 hx hZ hown (host := "") (Or.inl (hw _ (List.mem_of_getElem? (i := 24) rfl))) Via.refl e5 Fsv (g := (mkF m 37 #[.val (.ref sa), .val (.ref sb), .val (.ref sb)] [(.ref sa)])) rfl rfl (hb hby d7_37)
  refine EndsK.go st6 ?_
  show EndsK p e below _ (T6.setTop (mkF m 40 #[.val (.ref sa), .val (.ref sb), .val (.ref sb)] [(.ref va)]))
  refine EndsK.go (fun _ kz => XS.aloadN X6.here hx rfl (hb hby d7_40) rfl rfl kz) ?_
  show EndsK p e below _ (T6.setTop (mkF m 41 #[.val (.ref sa), .val (.ref sb), .val (.ref sb)] [(.ref sb), (.ref va)]))
  obtain ⟨T7, X7, e7, st7⟩ := getF X6 hx hZ hown (host := "") (Or.inl (hw _ (List.mem_of_getElem? (i := 24) rfl))) Via.refl e6 Ftv (g := (mkF m 41 #[.val (.ref sa), .val (.ref sb), .val (.ref sb)] [(.ref sb), (.ref va)])) rfl rfl (hb hby d7_41)
  refine EndsK.go st7 ?_
  show EndsK p e below _ (T7.setTop (mkF m 44 #[.val (.ref sa), .val (.ref sb), .val (.ref sb)] [(.ref vb), (.ref va)]))
  obtain ⟨_, _, ⟨T8, L8, k8, n8⟩, -, X8, ⟨Lc8, hQ8, l8, y8, z8⟩, st8⟩ := Jvm.LawKit.callS X7 hx (y := (⟨"java/lang/StringLatin1", "equals", "([B[B)Z"⟩ : MethodName)) hown (mvT hZ (hw _ (List.mem_of_getElem? (i := 60) rfl))) (mvT hZ (hw _ (List.mem_of_getElem? (i := 61) rfl))) (mvT hZ (hw _ (List.mem_of_getElem? (i := 62) rfl))) (mvT hZ (hw _ (List.mem_of_getElem? (i := 63) rfl))) (by decide) (backOf (W := 0) (rm_lat20 l Z a0 hw [] va vb ca cb  h0 n0 Z0 Aa Ab za zb) hZ (hw _ (List.mem_of_getElem? (i := 63) rfl)) (hw _ (List.mem_of_getElem? (i := 62) rfl)) (by decide) (by decide)) (g := (mkF m 44 #[.val (.ref sa), .val (.ref sb), .val (.ref sb)] [(.ref vb), (.ref va)])) rfl (by rw [hml]; rfl) (argsL := [(.ref va), (.ref vb)]) (rest := []) (lenOf pd0 rfl) rfl (by show 2 * 0 + _ ≤ _; exact Nat.le_of_eq rfl) (hb hby d7_44) (fun _ _ => ⟨rfl, e7, (by decide : 0 + 0 ≤ _), (by decide : 0 + 0 ≤ _)⟩)
  dsimp only [Pt.U, Pt.locs, Pt.cells, Pt.slots] at X8 l8 y8 z8 st8 hQ8
  subst l8 y8 z8
  obtain ⟨rfl, N8, e8⟩ := hQ8
  have M8 := Fr.app N0 N8
  refine EndsK.go st8 ?_
  show EndsK p e below _ (T8.setTop (mkF m 47 #[.val (.ref sa), .val (.ref sb), .val (.ref sb)] [(.int (0 : Int32))]))
  refine EndsK.go (fun _ kz => XS.ifYes X8.here hx rfl (pc0 := 47) (pc' := 54) rfl (hb hby d7_47) rfl ((if0 _ _).trans (teq (rfl : (0 : Int32) = (0 : Int32))).1) (by decide) (by decide) kz) ?_
  show EndsK p e below _ (T8.setTop (mkF m 54 #[.val (.ref sa), .val (.ref sb), .val (.ref sb)] []))
  refine EndsK.go (fun _ kz => XS.iconst X8.here hx rfl (hb hby d7_54) kz) ?_
  show EndsK p e below _ (T8.setTop (mkF m 55 #[.val (.ref sa), .val (.ref sb), .val (.ref sb)] [(.int (0 : Int32))]))
  exact endN X8 hx (t := .boolean) Bd.returns (by simp) (hb hby d7_55) hlk ⟨rfl, M8, e8⟩ (by decide) (by decide)
theorem ef_seq21 (m : MethodId) (sa : Addr) (sb : Addr) (va : Addr) (vb : Addr) (ca : Cell) (cb : Cell) (zc : Int32) : entryFrame m #[(.ref sa), (.ref sb)] 3 = mkF m 0 #[.val (.ref sa), .val (.ref sb), .unset] [] := by first | (simp [entryFrame, mkF, argsToLocals, Value.category]; done) | rfl
def Q_seq21 (Z : State) (sa : Addr) (sb : Addr) (va : Addr) (vb : Addr) (ca : Cell) (cb : Cell) (zc : Int32) (h0 : Heap) (n0 : Nat) (vz : Option Value) (hz : Heap) (Lz : List Loc) : Prop := vz = some (.int (0 : Int32)) ∧ Fr n0 Lz ∧ hz = h0
set_option maxRecDepth 65536 in
set_option maxHeartbeats 40000000 in
theorem rm_seq21 (l : Launch) (Z : State) (a0 : Array Value) (hw : ∀ d ∈ tables_1, d.before a0 Z = true) (ws : List Jvm.Cond) (sa : Addr) (sb : Addr) (va : Addr) (vb : Addr) (ca : Cell) (cb : Cell) (zc : Int32) (h0 : Heap) (n0 : Nat) (Z0 : n0 ≤ h0.size) (Es : Exa Z h0 sa "java/lang/String") (Fsc : Fld Z h0 sa "java/lang/String" "coder" "B" (.int (0 : Int32))) (Fsv : Fld Z h0 sa "java/lang/String" "value" "[B" (.ref va)) (hne : ¬ sa = sb) (Et : Exa Z h0 sb "java/lang/String") (Ftc : Fld Z h0 sb "java/lang/String" "coder" "B" (.int (0 : Int32))) (Ftv : Fld Z h0 sb "java/lang/String" "value" "[B" (.ref vb)) (SC : Sta Z h0 "java/lang/String" "COMPACT_STRINGS" "Z" (.int zc)) (hzc : ¬ (zc = (0 : Int32))) (Aa : Arr Z h0 va ca .byte) (Ab : Arr Z h0 vb cb .byte) (za : ca.slots.size.toInt32 = (2 : Int32)) (zb : cb.slots.size.toInt32 = (1 : Int32)) :
    MetFree l (⟨"java/lang/String", "equals", "(Ljava/lang/Object;)Z"⟩ : MethodName) (head1 (Jvm.Cond.code (⟨"java/lang/String", "equals", "(Ljava/lang/Object;)Z"⟩ : MethodName) jdk_42_method_66_code 3 (some .boolean) :: ws) ({ frames := 1, cells := 0, slots := 0, locals := 14 } : Room)) (fun az Uz => az = #[(.ref sa), (.ref sb)] ∧ Z.Warmed39 Uz.vm ∧ Uz.heap = h0) (fun _ _ _ _ _ => True) (fun _ Uz oz Ut => ∃ vz Lz, oz = .returned vz ∧ Q_seq21 Z sa sb va vb ca cb zc h0 n0 vz Ut.heap Lz ∧ FrameEnd Uz oz Ut Lz (({ frames := 1, cells := 0, slots := 0, locals := 14 } : Room)).cells (({ frames := 1, cells := 0, slots := 0, locals := 14 } : Room)).slots) := by
  refine MetFree.of_bodySF (plainFor_of_name pn2) hisR ?_
  intro p e s m args below meth c s₁ Bd hml0 hP hK
  obtain ⟨rfl, hZ, hh⟩ := hP
  have hx := Bd.exec
  have hby := Bd.bytes
  have hml : c.maxLocals = 3 := hml0
  have hown : s.vm.findClass "java/lang/String" = some m.cls := findClass_of_methodNamed Bd.named
  have hnm := (name_of_methodNamed Bd.named Bd.method).1
  have hlk : meth.locks = false := Bd.notSynchronized
  have X0 : Stand p l e ({ frames := 1, cells := 0, slots := 0, locals := 14 } : Room) s m #[(.ref sa), (.ref sb)] below meth c s₁ [] 0 0 := Stand.of_body Bd
  have e0 : s₁.heap = h0 := by rw [← hh, Bd.state]; rfl
  have N0 := Fr.nil n0
  show EndsK p e below (OQ s (Q_seq21 Z sa sb va vb ca cb zc h0 n0) (({ frames := 1, cells := 0, slots := 0, locals := 14 } : Room)).cells (({ frames := 1, cells := 0, slots := 0, locals := 14 } : Room)).slots) (s₁.setTop (entryFrame m #[(.ref sa), (.ref sb)] 3))
  refine EndsK.start (ef_seq21 m sa sb va vb ca cb zc) ?_
  show EndsK p e below _ (s₁.setTop (mkF m 0 #[.val (.ref sa), .val (.ref sb), .unset] []))
  refine EndsK.go (fun _ kz => XS.aloadN X0.here hx rfl (hb hby d7_0) rfl rfl kz) ?_
  show EndsK p e below _ (s₁.setTop (mkF m 1 #[.val (.ref sa), .val (.ref sb), .unset] [(.ref sa)]))
  refine EndsK.go (fun _ kz => XS.aloadN X0.here hx rfl (hb hby d7_1) rfl rfl kz) ?_
  show EndsK p e below _ (s₁.setTop (mkF m 2 #[.val (.ref sa), .val (.ref sb), .unset] [(.ref sb), (.ref sa)]))
  refine EndsK.go (fun _ kz => Jvm.RoadKit.acmp (g := (mkF m 2 #[.val (.ref sa), .val (.ref sb), .unset] [(.ref sb), (.ref sa)])) X0 hx rfl rfl rfl (pc0 := 2) (pc' := 7) (same := false) rfl (hb hby d7_2) rfl (decide_eq_false fun q => hne (Value.ref.inj q)) (by decide) (by decide) kz) ?_
  show EndsK p e below _ (s₁.setTop (mkF m 7 #[.val (.ref sa), .val (.ref sb), .unset] []))
  refine EndsK.go (fun _ kz => XS.aloadN X0.here hx rfl (hb hby d7_7) rfl rfl kz) ?_
  show EndsK p e below _ (s₁.setTop (mkF m 8 #[.val (.ref sa), .val (.ref sb), .unset] [(.ref sb)]))
  obtain ⟨T1, X1, e1, st1⟩ := instY X0 hx hZ hown (hw _ (List.mem_of_getElem? (i := 58) rfl)) e0 (Ins.self Et) (g := (mkF m 8 #[.val (.ref sa), .val (.ref sb), .unset] [(.ref sb)])) rfl rfl (hb hby d7_8)
  refine EndsK.go st1 ?_
  show EndsK p e below _ (T1.setTop (mkF m 11 #[.val (.ref sa), .val (.ref sb), .unset] [(.int (1 : Int32))]))
  refine EndsK.go (fun _ kz => XS.ifNo X1.here hx rfl (hb hby d7_11) rfl ((if0 _ _).trans (feq (by decide : ¬ ((1 : Int32) = (0 : Int32)))).1) kz) ?_
  show EndsK p e below _ (T1.setTop (mkF m 14 #[.val (.ref sa), .val (.ref sb), .unset] []))
  refine EndsK.go (fun _ kz => XS.aloadN X1.here hx rfl (hb hby d7_14) rfl rfl kz) ?_
  show EndsK p e below _ (T1.setTop (mkF m 15 #[.val (.ref sa), .val (.ref sb), .unset] [(.ref sb)]))
  obtain ⟨T2, X2, e2, st2⟩ := castY X1 hx hZ hown (hw _ (List.mem_of_getElem? (i := 58) rfl)) e1 (Ins.self Et) (g := (mkF m 15 #[.val (.ref sa), .val (.ref sb), .unset] [(.ref sb)])) rfl rfl (hb hby d7_15)
  refine EndsK.go st2 ?_
  show EndsK p e below _ (T2.setTop (mkF m 18 #[.val (.ref sa), .val (.ref sb), .unset] [(.ref sb)]))
  refine EndsK.go (fun _ kz => XS.astoreN X2.here hx rfl (hb hby d7_18) rfl rfl (l' := #[.val (.ref sa), .val (.ref sb), .val (.ref sb)]) rfl kz) ?_
  show EndsK p e below _ (T2.setTop (mkF m 19 #[.val (.ref sa), .val (.ref sb), .val (.ref sb)] []))
  obtain ⟨T3, X3, e3, st3⟩ := getS2 X2 hx hZ hown (host := "") (Or.inl (hw _ (List.mem_of_getElem? (i := 59) rfl))) Via.refl e2 SC (g := (mkF m 19 #[.val (.ref sa), .val (.ref sb), .val (.ref sb)] [])) rfl (hb hby d7_19)
  refine EndsK.go st3 ?_
  show EndsK p e below _ (T3.setTop (mkF m 22 #[.val (.ref sa), .val (.ref sb), .val (.ref sb)] [(.int zc)]))
  refine EndsK.go (fun _ kz => XS.ifNo X3.here hx rfl (hb hby d7_22) rfl ((if0 _ _).trans (feq hzc).1) kz) ?_
  show EndsK p e below _ (T3.setTop (mkF m 25 #[.val (.ref sa), .val (.ref sb), .val (.ref sb)] []))
  refine EndsK.go (fun _ kz => XS.aloadN X3.here hx rfl (hb hby d7_25) rfl rfl kz) ?_
  show EndsK p e below _ (T3.setTop (mkF m 26 #[.val (.ref sa), .val (.ref sb), .val (.ref sb)] [(.ref sa)]))
  obtain ⟨T4, X4, e4, st4⟩ := getF X3 hx hZ hown (host := "") (Or.inl (hw _ (List.mem_of_getElem? (i := 25) rfl))) Via.refl e3 Fsc (g := (mkF m 26 #[.val (.ref sa), .val (.ref sb), .val (.ref sb)] [(.ref sa)])) rfl rfl (hb hby d7_26)
  refine EndsK.go st4 ?_
  show EndsK p e below _ (T4.setTop (mkF m 29 #[.val (.ref sa), .val (.ref sb), .val (.ref sb)] [(.int (0 : Int32))]))
  refine EndsK.go (fun _ kz => XS.aloadN X4.here hx rfl (hb hby d7_29) rfl rfl kz) ?_
  show EndsK p e below _ (T4.setTop (mkF m 30 #[.val (.ref sa), .val (.ref sb), .val (.ref sb)] [(.ref sb), (.int (0 : Int32))]))
  obtain ⟨T5, X5, e5, st5⟩ := getF X4 hx hZ hown (host := "") (Or.inl (hw _ (List.mem_of_getElem? (i := 25) rfl))) Via.refl e4 Ftc (g := (mkF m 30 #[.val (.ref sa), .val (.ref sb), .val (.ref sb)] [(.ref sb), (.int (0 : Int32))])) rfl rfl (hb hby d7_30)
  refine EndsK.go st5 ?_
  show EndsK p e below _ (T5.setTop (mkF m 33 #[.val (.ref sa), .val (.ref sb), .val (.ref sb)] [(.int (0 : Int32)), (.int (0 : Int32))]))
  refine EndsK.go (fun _ kz => XS.icmpNo X5.here hx rfl (hb hby d7_33) rfl (teq (rfl : (0 : Int32) = (0 : Int32))).2 kz) ?_
  show EndsK p e below _ (T5.setTop (mkF m 36 #[.val (.ref sa), .val (.ref sb), .val (.ref sb)] []))
  refine EndsK.go (fun _ kz => XS.aloadN X5.here hx rfl (hb hby d7_36) rfl rfl kz) ?_
  show EndsK p e below _ (T5.setTop (mkF m 37 #[.val (.ref sa), .val (.ref sb), .val (.ref sb)] [(.ref sa)]))
  obtain ⟨T6, X6, e6, st6⟩ := getF X5 hx hZ hown (host := "") (Or.inl (hw _ (List.mem_of_getElem? (i := 24) rfl))) Via.refl e5 Fsv (g := (mkF m 37 #[.val (.ref sa), .val (.ref sb), .val (.ref sb)] [(.ref sa)])) rfl rfl (hb hby d7_37)
  refine EndsK.go st6 ?_
  show EndsK p e below _ (T6.setTop (mkF m 40 #[.val (.ref sa), .val (.ref sb), .val (.ref sb)] [(.ref va)]))
  refine EndsK.go (fun _ kz => XS.aloadN X6.here hx rfl (hb hby d7_40) rfl rfl kz) ?_
  show EndsK p e below _ (T6.setTop (mkF m 41 #[.val (.ref sa), .val (.ref sb), .val (.ref sb)] [(.ref sb), (.ref va)]))
  obtain ⟨T7, X7, e7, st7⟩ := getF X6 hx hZ hown (host := "") (Or.inl (hw _ (List.mem_of_getElem? (i := 24) rfl))) Via.refl e6 Ftv (g := (mkF m 41 #[.val (.ref sa), .val (.ref sb), .val (.ref sb)] [(.ref sb), (.ref va)])) rfl rfl (hb hby d7_41)
  refine EndsK.go st7 ?_
  show EndsK p e below _ (T7.setTop (mkF m 44 #[.val (.ref sa), .val (.ref sb), .val (.ref sb)] [(.ref vb), (.ref va)]))
  obtain ⟨_, _, ⟨T8, L8, k8, n8⟩, -, X8, ⟨Lc8, hQ8, l8, y8, z8⟩, st8⟩ := Jvm.LawKit.callS X7 hx (y := (⟨"java/lang/StringLatin1", "equals", "([B[B)Z"⟩ : MethodName)) hown (mvT hZ (hw _ (List.mem_of_getElem? (i := 60) rfl))) (mvT hZ (hw _ (List.mem_of_getElem? (i := 61) rfl))) (mvT hZ (hw _ (List.mem_of_getElem? (i := 62) rfl))) (mvT hZ (hw _ (List.mem_of_getElem? (i := 63) rfl))) (by decide) (backOf (W := 0) (rm_lat21 l Z a0 hw [] va vb ca cb  h0 n0 Z0 Aa Ab za zb) hZ (hw _ (List.mem_of_getElem? (i := 63) rfl)) (hw _ (List.mem_of_getElem? (i := 62) rfl)) (by decide) (by decide)) (g := (mkF m 44 #[.val (.ref sa), .val (.ref sb), .val (.ref sb)] [(.ref vb), (.ref va)])) rfl (by rw [hml]; rfl) (argsL := [(.ref va), (.ref vb)]) (rest := []) (lenOf pd0 rfl) rfl (by show 2 * 0 + _ ≤ _; exact Nat.le_of_eq rfl) (hb hby d7_44) (fun _ _ => ⟨rfl, e7, (by decide : 0 + 0 ≤ _), (by decide : 0 + 0 ≤ _)⟩)
  dsimp only [Pt.U, Pt.locs, Pt.cells, Pt.slots] at X8 l8 y8 z8 st8 hQ8
  subst l8 y8 z8
  obtain ⟨rfl, N8, e8⟩ := hQ8
  have M8 := Fr.app N0 N8
  refine EndsK.go st8 ?_
  show EndsK p e below _ (T8.setTop (mkF m 47 #[.val (.ref sa), .val (.ref sb), .val (.ref sb)] [(.int (0 : Int32))]))
  refine EndsK.go (fun _ kz => XS.ifYes X8.here hx rfl (pc0 := 47) (pc' := 54) rfl (hb hby d7_47) rfl ((if0 _ _).trans (teq (rfl : (0 : Int32) = (0 : Int32))).1) (by decide) (by decide) kz) ?_
  show EndsK p e below _ (T8.setTop (mkF m 54 #[.val (.ref sa), .val (.ref sb), .val (.ref sb)] []))
  refine EndsK.go (fun _ kz => XS.iconst X8.here hx rfl (hb hby d7_54) kz) ?_
  show EndsK p e below _ (T8.setTop (mkF m 55 #[.val (.ref sa), .val (.ref sb), .val (.ref sb)] [(.int (0 : Int32))]))
  exact endN X8 hx (t := .boolean) Bd.returns (by simp) (hb hby d7_55) hlk ⟨rfl, M8, e8⟩ (by decide) (by decide)
theorem ef_seq22 (m : MethodId) (sa : Addr) (sb : Addr) (va : Addr) (vb : Addr) (ca : Cell) (cb : Cell) (zc : Int32) (p0 : Int32) (p1 : Int32) (q0 : Int32) (q1 : Int32) : entryFrame m #[(.ref sa), (.ref sb)] 3 = mkF m 0 #[.val (.ref sa), .val (.ref sb), .unset] [] := by first | (simp [entryFrame, mkF, argsToLocals, Value.category]; done) | rfl
def Q_seq22 (Z : State) (sa : Addr) (sb : Addr) (va : Addr) (vb : Addr) (ca : Cell) (cb : Cell) (zc : Int32) (p0 : Int32) (p1 : Int32) (q0 : Int32) (q1 : Int32) (h0 : Heap) (n0 : Nat) (vz : Option Value) (hz : Heap) (Lz : List Loc) : Prop := vz = some (.int (lf2 p0 p1 q0 q1)) ∧ Fr n0 Lz ∧ hz = h0
set_option maxRecDepth 65536 in
set_option maxHeartbeats 40000000 in
theorem rm_seq22 (l : Launch) (Z : State) (a0 : Array Value) (hw : ∀ d ∈ tables_1, d.before a0 Z = true) (ws : List Jvm.Cond) (sa : Addr) (sb : Addr) (va : Addr) (vb : Addr) (ca : Cell) (cb : Cell) (zc : Int32) (p0 : Int32) (p1 : Int32) (q0 : Int32) (q1 : Int32) (h0 : Heap) (n0 : Nat) (Z0 : n0 ≤ h0.size) (Es : Exa Z h0 sa "java/lang/String") (Fsc : Fld Z h0 sa "java/lang/String" "coder" "B" (.int (0 : Int32))) (Fsv : Fld Z h0 sa "java/lang/String" "value" "[B" (.ref va)) (hne : ¬ sa = sb) (Et : Exa Z h0 sb "java/lang/String") (Ftc : Fld Z h0 sb "java/lang/String" "coder" "B" (.int (0 : Int32))) (Ftv : Fld Z h0 sb "java/lang/String" "value" "[B" (.ref vb)) (SC : Sta Z h0 "java/lang/String" "COMPACT_STRINGS" "Z" (.int zc)) (hzc : ¬ (zc = (0 : Int32))) (Aa : Arr Z h0 va ca .byte) (Ab : Arr Z h0 vb cb .byte) (za : ca.slots.size.toInt32 = (2 : Int32)) (zb : cb.slots.size.toInt32 = (2 : Int32)) (ua0 : ¬ ((0 : Int32) < 0 ∨ ca.slots.size ≤ (0 : Int32).toNatClampNeg) ∧ ca.slots[(0 : Int32).toNatClampNeg]? = some (.int p0)) (ub0 : ¬ ((0 : Int32) < 0 ∨ cb.slots.size ≤ (0 : Int32).toNatClampNeg) ∧ cb.slots[(0 : Int32).toNatClampNeg]? = some (.int q0)) (ua1 : ¬ ((1 : Int32) < 0 ∨ ca.slots.size ≤ (1 : Int32).toNatClampNeg) ∧ ca.slots[(1 : Int32).toNatClampNeg]? = some (.int p1)) (ub1 : ¬ ((1 : Int32) < 0 ∨ cb.slots.size ≤ (1 : Int32).toNatClampNeg) ∧ cb.slots[(1 : Int32).toNatClampNeg]? = some (.int q1)) :
    MetFree l (⟨"java/lang/String", "equals", "(Ljava/lang/Object;)Z"⟩ : MethodName) (head1 (Jvm.Cond.code (⟨"java/lang/String", "equals", "(Ljava/lang/Object;)Z"⟩ : MethodName) jdk_42_method_66_code 3 (some .boolean) :: ws) ({ frames := 1, cells := 0, slots := 0, locals := 14 } : Room)) (fun az Uz => az = #[(.ref sa), (.ref sb)] ∧ Z.Warmed39 Uz.vm ∧ Uz.heap = h0) (fun _ _ _ _ _ => True) (fun _ Uz oz Ut => ∃ vz Lz, oz = .returned vz ∧ Q_seq22 Z sa sb va vb ca cb zc p0 p1 q0 q1 h0 n0 vz Ut.heap Lz ∧ FrameEnd Uz oz Ut Lz (({ frames := 1, cells := 0, slots := 0, locals := 14 } : Room)).cells (({ frames := 1, cells := 0, slots := 0, locals := 14 } : Room)).slots) := by
  refine MetFree.of_bodySF (plainFor_of_name pn2) hisR ?_
  intro p e s m args below meth c s₁ Bd hml0 hP hK
  obtain ⟨rfl, hZ, hh⟩ := hP
  have hx := Bd.exec
  have hby := Bd.bytes
  have hml : c.maxLocals = 3 := hml0
  have hown : s.vm.findClass "java/lang/String" = some m.cls := findClass_of_methodNamed Bd.named
  have hnm := (name_of_methodNamed Bd.named Bd.method).1
  have hlk : meth.locks = false := Bd.notSynchronized
  have X0 : Stand p l e ({ frames := 1, cells := 0, slots := 0, locals := 14 } : Room) s m #[(.ref sa), (.ref sb)] below meth c s₁ [] 0 0 := Stand.of_body Bd
  have e0 : s₁.heap = h0 := by rw [← hh, Bd.state]; rfl
  have N0 := Fr.nil n0
  show EndsK p e below (OQ s (Q_seq22 Z sa sb va vb ca cb zc p0 p1 q0 q1 h0 n0) (({ frames := 1, cells := 0, slots := 0, locals := 14 } : Room)).cells (({ frames := 1, cells := 0, slots := 0, locals := 14 } : Room)).slots) (s₁.setTop (entryFrame m #[(.ref sa), (.ref sb)] 3))
  refine EndsK.start (ef_seq22 m sa sb va vb ca cb zc p0 p1 q0 q1) ?_
  show EndsK p e below _ (s₁.setTop (mkF m 0 #[.val (.ref sa), .val (.ref sb), .unset] []))
  refine EndsK.go (fun _ kz => XS.aloadN X0.here hx rfl (hb hby d7_0) rfl rfl kz) ?_
  show EndsK p e below _ (s₁.setTop (mkF m 1 #[.val (.ref sa), .val (.ref sb), .unset] [(.ref sa)]))
  refine EndsK.go (fun _ kz => XS.aloadN X0.here hx rfl (hb hby d7_1) rfl rfl kz) ?_
  show EndsK p e below _ (s₁.setTop (mkF m 2 #[.val (.ref sa), .val (.ref sb), .unset] [(.ref sb), (.ref sa)]))
  refine EndsK.go (fun _ kz => Jvm.RoadKit.acmp (g := (mkF m 2 #[.val (.ref sa), .val (.ref sb), .unset] [(.ref sb), (.ref sa)])) X0 hx rfl rfl rfl (pc0 := 2) (pc' := 7) (same := false) rfl (hb hby d7_2) rfl (decide_eq_false fun q => hne (Value.ref.inj q)) (by decide) (by decide) kz) ?_
  show EndsK p e below _ (s₁.setTop (mkF m 7 #[.val (.ref sa), .val (.ref sb), .unset] []))
  refine EndsK.go (fun _ kz => XS.aloadN X0.here hx rfl (hb hby d7_7) rfl rfl kz) ?_
  show EndsK p e below _ (s₁.setTop (mkF m 8 #[.val (.ref sa), .val (.ref sb), .unset] [(.ref sb)]))
  obtain ⟨T1, X1, e1, st1⟩ := instY X0 hx hZ hown (hw _ (List.mem_of_getElem? (i := 58) rfl)) e0 (Ins.self Et) (g := (mkF m 8 #[.val (.ref sa), .val (.ref sb), .unset] [(.ref sb)])) rfl rfl (hb hby d7_8)
  refine EndsK.go st1 ?_
  show EndsK p e below _ (T1.setTop (mkF m 11 #[.val (.ref sa), .val (.ref sb), .unset] [(.int (1 : Int32))]))
  refine EndsK.go (fun _ kz => XS.ifNo X1.here hx rfl (hb hby d7_11) rfl ((if0 _ _).trans (feq (by decide : ¬ ((1 : Int32) = (0 : Int32)))).1) kz) ?_
  show EndsK p e below _ (T1.setTop (mkF m 14 #[.val (.ref sa), .val (.ref sb), .unset] []))
  refine EndsK.go (fun _ kz => XS.aloadN X1.here hx rfl (hb hby d7_14) rfl rfl kz) ?_
  show EndsK p e below _ (T1.setTop (mkF m 15 #[.val (.ref sa), .val (.ref sb), .unset] [(.ref sb)]))
  obtain ⟨T2, X2, e2, st2⟩ := castY X1 hx hZ hown (hw _ (List.mem_of_getElem? (i := 58) rfl)) e1 (Ins.self Et) (g := (mkF m 15 #[.val (.ref sa), .val (.ref sb), .unset] [(.ref sb)])) rfl rfl (hb hby d7_15)
  refine EndsK.go st2 ?_
  show EndsK p e below _ (T2.setTop (mkF m 18 #[.val (.ref sa), .val (.ref sb), .unset] [(.ref sb)]))
  refine EndsK.go (fun _ kz => XS.astoreN X2.here hx rfl (hb hby d7_18) rfl rfl (l' := #[.val (.ref sa), .val (.ref sb), .val (.ref sb)]) rfl kz) ?_
  show EndsK p e below _ (T2.setTop (mkF m 19 #[.val (.ref sa), .val (.ref sb), .val (.ref sb)] []))
  obtain ⟨T3, X3, e3, st3⟩ := getS2 X2 hx hZ hown (host := "") (Or.inl (hw _ (List.mem_of_getElem? (i := 59) rfl))) Via.refl e2 SC (g := (mkF m 19 #[.val (.ref sa), .val (.ref sb), .val (.ref sb)] [])) rfl (hb hby d7_19)
  refine EndsK.go st3 ?_
  show EndsK p e below _ (T3.setTop (mkF m 22 #[.val (.ref sa), .val (.ref sb), .val (.ref sb)] [(.int zc)]))
  refine EndsK.go (fun _ kz => XS.ifNo X3.here hx rfl (hb hby d7_22) rfl ((if0 _ _).trans (feq hzc).1) kz) ?_
  show EndsK p e below _ (T3.setTop (mkF m 25 #[.val (.ref sa), .val (.ref sb), .val (.ref sb)] []))
  refine EndsK.go (fun _ kz => XS.aloadN X3.here hx rfl (hb hby d7_25) rfl rfl kz) ?_
  show EndsK p e below _ (T3.setTop (mkF m 26 #[.val (.ref sa), .val (.ref sb), .val (.ref sb)] [(.ref sa)]))
  obtain ⟨T4, X4, e4, st4⟩ := getF X3 hx hZ hown (host := "") (Or.inl (hw _ (List.mem_of_getElem? (i := 25) rfl))) Via.refl e3 Fsc (g := (mkF m 26 #[.val (.ref sa), .val (.ref sb), .val (.ref sb)] [(.ref sa)])) rfl rfl (hb hby d7_26)
  refine EndsK.go st4 ?_
  show EndsK p e below _ (T4.setTop (mkF m 29 #[.val (.ref sa), .val (.ref sb), .val (.ref sb)] [(.int (0 : Int32))]))
  refine EndsK.go (fun _ kz => XS.aloadN X4.here hx rfl (hb hby d7_29) rfl rfl kz) ?_
  show EndsK p e below _ (T4.setTop (mkF m 30 #[.val (.ref sa), .val (.ref sb), .val (.ref sb)] [(.ref sb), (.int (0 : Int32))]))
  obtain ⟨T5, X5, e5, st5⟩ := getF X4 hx hZ hown (host := "") (Or.inl (hw _ (List.mem_of_getElem? (i := 25) rfl))) Via.refl e4 Ftc (g := (mkF m 30 #[.val (.ref sa), .val (.ref sb), .val (.ref sb)] [(.ref sb), (.int (0 : Int32))])) rfl rfl (hb hby d7_30)
  refine EndsK.go st5 ?_
  show EndsK p e below _ (T5.setTop (mkF m 33 #[.val (.ref sa), .val (.ref sb), .val (.ref sb)] [(.int (0 : Int32)), (.int (0 : Int32))]))
  refine EndsK.go (fun _ kz => XS.icmpNo X5.here hx rfl (hb hby d7_33) rfl (teq (rfl : (0 : Int32) = (0 : Int32))).2 kz) ?_
  show EndsK p e below _ (T5.setTop (mkF m 36 #[.val (.ref sa), .val (.ref sb), .val (.ref sb)] []))
  refine EndsK.go (fun _ kz => XS.aloadN X5.here hx rfl (hb hby d7_36) rfl rfl kz) ?_
  show EndsK p e below _ (T5.setTop (mkF m 37 #[.val (.ref sa), .val (.ref sb), .val (.ref sb)] [(.ref sa)]))
  obtain ⟨T6, X6, e6, st6⟩ := getF X5 hx hZ hown (host := "") (Or.inl (hw _ (List.mem_of_getElem? (i := 24) rfl))) Via.refl e5 Fsv (g := (mkF m 37 #[.val (.ref sa), .val (.ref sb), .val (.ref sb)] [(.ref sa)])) rfl rfl (hb hby d7_37)
  refine EndsK.go st6 ?_
  show EndsK p e below _ (T6.setTop (mkF m 40 #[.val (.ref sa), .val (.ref sb), .val (.ref sb)] [(.ref va)]))
  refine EndsK.go (fun _ kz => XS.aloadN X6.here hx rfl (hb hby d7_40) rfl rfl kz) ?_
  show EndsK p e below _ (T6.setTop (mkF m 41 #[.val (.ref sa), .val (.ref sb), .val (.ref sb)] [(.ref sb), (.ref va)]))
  obtain ⟨T7, X7, e7, st7⟩ := getF X6 hx hZ hown (host := "") (Or.inl (hw _ (List.mem_of_getElem? (i := 24) rfl))) Via.refl e6 Ftv (g := (mkF m 41 #[.val (.ref sa), .val (.ref sb), .val (.ref sb)] [(.ref sb), (.ref va)])) rfl rfl (hb hby d7_41)
  refine EndsK.go st7 ?_
  show EndsK p e below _ (T7.setTop (mkF m 44 #[.val (.ref sa), .val (.ref sb), .val (.ref sb)] [(.ref vb), (.ref va)]))
  obtain ⟨_, _, ⟨T8, L8, k8, n8⟩, -, X8, ⟨Lc8, hQ8, l8, y8, z8⟩, st8⟩ := Jvm.LawKit.callS X7 hx (y := (⟨"java/lang/StringLatin1", "equals", "([B[B)Z"⟩ : MethodName)) hown (mvT hZ (hw _ (List.mem_of_getElem? (i := 60) rfl))) (mvT hZ (hw _ (List.mem_of_getElem? (i := 61) rfl))) (mvT hZ (hw _ (List.mem_of_getElem? (i := 62) rfl))) (mvT hZ (hw _ (List.mem_of_getElem? (i := 63) rfl))) (by decide) (backOf (W := 0) (rm_lat22 l Z a0 hw [] va vb ca cb p0 p1 q0 q1 h0 n0 Z0 Aa Ab za zb ua0 ub0 ua1 ub1) hZ (hw _ (List.mem_of_getElem? (i := 63) rfl)) (hw _ (List.mem_of_getElem? (i := 62) rfl)) (by decide) (by decide)) (g := (mkF m 44 #[.val (.ref sa), .val (.ref sb), .val (.ref sb)] [(.ref vb), (.ref va)])) rfl (by rw [hml]; rfl) (argsL := [(.ref va), (.ref vb)]) (rest := []) (lenOf pd0 rfl) rfl (by show 2 * 0 + _ ≤ _; exact Nat.le_of_eq rfl) (hb hby d7_44) (fun _ _ => ⟨rfl, e7, (by decide : 0 + 0 ≤ _), (by decide : 0 + 0 ≤ _)⟩)
  dsimp only [Pt.U, Pt.locs, Pt.cells, Pt.slots] at X8 l8 y8 z8 st8 hQ8
  subst l8 y8 z8
  obtain ⟨rfl, N8, e8⟩ := hQ8
  have M8 := Fr.app N0 N8
  refine EndsK.go st8 ?_
  show EndsK p e below _ (T8.setTop (mkF m 47 #[.val (.ref sa), .val (.ref sb), .val (.ref sb)] [(.int (lf2 p0 p1 q0 q1))]))
  by_cases H47_9 : (lf2 p0 p1 q0 q1) = (0 : Int32)
  · refine EndsK.go (fun _ kz => XS.ifYes X8.here hx rfl (pc0 := 47) (pc' := 54) rfl (hb hby d7_47) rfl ((if0 _ _).trans (teq H47_9).1) (by decide) (by decide) kz) ?_
    show EndsK p e below _ (T8.setTop (mkF m 54 #[.val (.ref sa), .val (.ref sb), .val (.ref sb)] []))
    refine EndsK.go (fun _ kz => XS.iconst X8.here hx rfl (hb hby d7_54) kz) ?_
    show EndsK p e below _ (T8.setTop (mkF m 55 #[.val (.ref sa), .val (.ref sb), .val (.ref sb)] [(.int (0 : Int32))]))
    exact endN X8 hx (t := .boolean) Bd.returns (by simp) (hb hby d7_55) hlk ⟨(congrArg (fun z => some (Value.int z)) (H47_9 : (lf2 p0 p1 q0 q1) = (0 : Int32))).symm, M8, e8⟩ (by decide) (by decide)
  · refine EndsK.go (fun _ kz => XS.ifNo X8.here hx rfl (hb hby d7_47) rfl ((if0 _ _).trans (feq H47_9).1) kz) ?_
    show EndsK p e below _ (T8.setTop (mkF m 50 #[.val (.ref sa), .val (.ref sb), .val (.ref sb)] []))
    refine EndsK.go (fun _ kz => XS.iconst X8.here hx rfl (hb hby d7_50) kz) ?_
    show EndsK p e below _ (T8.setTop (mkF m 51 #[.val (.ref sa), .val (.ref sb), .val (.ref sb)] [(.int (1 : Int32))]))
    refine EndsK.go (fun _ kz => XS.goto X8.here hx rfl (pc0 := 51) (pc' := 55) rfl (hb hby d7_51) (by decide) (by decide) kz) ?_
    show EndsK p e below _ (T8.setTop (mkF m 55 #[.val (.ref sa), .val (.ref sb), .val (.ref sb)] [(.int (1 : Int32))]))
    exact endN X8 hx (t := .boolean) Bd.returns (by simp) (hb hby d7_55) hlk ⟨(congrArg (fun z => some (Value.int z)) ((lf2_01 p0 p1 q0 q1).resolve_left H47_9 : (lf2 p0 p1 q0 q1) = (1 : Int32))).symm, M8, e8⟩ (by decide) (by decide)
theorem ef_seq23 (m : MethodId) (sa : Addr) (sb : Addr) (va : Addr) (vb : Addr) (ca : Cell) (cb : Cell) (zc : Int32) : entryFrame m #[(.ref sa), (.ref sb)] 3 = mkF m 0 #[.val (.ref sa), .val (.ref sb), .unset] [] := by first | (simp [entryFrame, mkF, argsToLocals, Value.category]; done) | rfl
def Q_seq23 (Z : State) (sa : Addr) (sb : Addr) (va : Addr) (vb : Addr) (ca : Cell) (cb : Cell) (zc : Int32) (h0 : Heap) (n0 : Nat) (vz : Option Value) (hz : Heap) (Lz : List Loc) : Prop := vz = some (.int (0 : Int32)) ∧ Fr n0 Lz ∧ hz = h0
set_option maxRecDepth 65536 in
set_option maxHeartbeats 40000000 in
theorem rm_seq23 (l : Launch) (Z : State) (a0 : Array Value) (hw : ∀ d ∈ tables_1, d.before a0 Z = true) (ws : List Jvm.Cond) (sa : Addr) (sb : Addr) (va : Addr) (vb : Addr) (ca : Cell) (cb : Cell) (zc : Int32) (h0 : Heap) (n0 : Nat) (Z0 : n0 ≤ h0.size) (Es : Exa Z h0 sa "java/lang/String") (Fsc : Fld Z h0 sa "java/lang/String" "coder" "B" (.int (0 : Int32))) (Fsv : Fld Z h0 sa "java/lang/String" "value" "[B" (.ref va)) (hne : ¬ sa = sb) (Et : Exa Z h0 sb "java/lang/String") (Ftc : Fld Z h0 sb "java/lang/String" "coder" "B" (.int (0 : Int32))) (Ftv : Fld Z h0 sb "java/lang/String" "value" "[B" (.ref vb)) (SC : Sta Z h0 "java/lang/String" "COMPACT_STRINGS" "Z" (.int zc)) (hzc : ¬ (zc = (0 : Int32))) (Aa : Arr Z h0 va ca .byte) (Ab : Arr Z h0 vb cb .byte) (za : ca.slots.size.toInt32 = (2 : Int32)) (zb : cb.slots.size.toInt32 = (3 : Int32)) :
    MetFree l (⟨"java/lang/String", "equals", "(Ljava/lang/Object;)Z"⟩ : MethodName) (head1 (Jvm.Cond.code (⟨"java/lang/String", "equals", "(Ljava/lang/Object;)Z"⟩ : MethodName) jdk_42_method_66_code 3 (some .boolean) :: ws) ({ frames := 1, cells := 0, slots := 0, locals := 14 } : Room)) (fun az Uz => az = #[(.ref sa), (.ref sb)] ∧ Z.Warmed39 Uz.vm ∧ Uz.heap = h0) (fun _ _ _ _ _ => True) (fun _ Uz oz Ut => ∃ vz Lz, oz = .returned vz ∧ Q_seq23 Z sa sb va vb ca cb zc h0 n0 vz Ut.heap Lz ∧ FrameEnd Uz oz Ut Lz (({ frames := 1, cells := 0, slots := 0, locals := 14 } : Room)).cells (({ frames := 1, cells := 0, slots := 0, locals := 14 } : Room)).slots) := by
  refine MetFree.of_bodySF (plainFor_of_name pn2) hisR ?_
  intro p e s m args below meth c s₁ Bd hml0 hP hK
  obtain ⟨rfl, hZ, hh⟩ := hP
  have hx := Bd.exec
  have hby := Bd.bytes
  have hml : c.maxLocals = 3 := hml0
  have hown : s.vm.findClass "java/lang/String" = some m.cls := findClass_of_methodNamed Bd.named
  have hnm := (name_of_methodNamed Bd.named Bd.method).1
  have hlk : meth.locks = false := Bd.notSynchronized
  have X0 : Stand p l e ({ frames := 1, cells := 0, slots := 0, locals := 14 } : Room) s m #[(.ref sa), (.ref sb)] below meth c s₁ [] 0 0 := Stand.of_body Bd
  have e0 : s₁.heap = h0 := by rw [← hh, Bd.state]; rfl
  have N0 := Fr.nil n0
  show EndsK p e below (OQ s (Q_seq23 Z sa sb va vb ca cb zc h0 n0) (({ frames := 1, cells := 0, slots := 0, locals := 14 } : Room)).cells (({ frames := 1, cells := 0, slots := 0, locals := 14 } : Room)).slots) (s₁.setTop (entryFrame m #[(.ref sa), (.ref sb)] 3))
  refine EndsK.start (ef_seq23 m sa sb va vb ca cb zc) ?_
  show EndsK p e below _ (s₁.setTop (mkF m 0 #[.val (.ref sa), .val (.ref sb), .unset] []))
  refine EndsK.go (fun _ kz => XS.aloadN X0.here hx rfl (hb hby d7_0) rfl rfl kz) ?_
  show EndsK p e below _ (s₁.setTop (mkF m 1 #[.val (.ref sa), .val (.ref sb), .unset] [(.ref sa)]))
  refine EndsK.go (fun _ kz => XS.aloadN X0.here hx rfl (hb hby d7_1) rfl rfl kz) ?_
  show EndsK p e below _ (s₁.setTop (mkF m 2 #[.val (.ref sa), .val (.ref sb), .unset] [(.ref sb), (.ref sa)]))
  refine EndsK.go (fun _ kz => Jvm.RoadKit.acmp (g := (mkF m 2 #[.val (.ref sa), .val (.ref sb), .unset] [(.ref sb), (.ref sa)])) X0 hx rfl rfl rfl (pc0 := 2) (pc' := 7) (same := false) rfl (hb hby d7_2) rfl (decide_eq_false fun q => hne (Value.ref.inj q)) (by decide) (by decide) kz) ?_
  show EndsK p e below _ (s₁.setTop (mkF m 7 #[.val (.ref sa), .val (.ref sb), .unset] []))
  refine EndsK.go (fun _ kz => XS.aloadN X0.here hx rfl (hb hby d7_7) rfl rfl kz) ?_
  show EndsK p e below _ (s₁.setTop (mkF m 8 #[.val (.ref sa), .val (.ref sb), .unset] [(.ref sb)]))
  obtain ⟨T1, X1, e1, st1⟩ := instY X0 hx hZ hown (hw _ (List.mem_of_getElem? (i := 58) rfl)) e0 (Ins.self Et) (g := (mkF m 8 #[.val (.ref sa), .val (.ref sb), .unset] [(.ref sb)])) rfl rfl (hb hby d7_8)
  refine EndsK.go st1 ?_
  show EndsK p e below _ (T1.setTop (mkF m 11 #[.val (.ref sa), .val (.ref sb), .unset] [(.int (1 : Int32))]))
  refine EndsK.go (fun _ kz => XS.ifNo X1.here hx rfl (hb hby d7_11) rfl ((if0 _ _).trans (feq (by decide : ¬ ((1 : Int32) = (0 : Int32)))).1) kz) ?_
  show EndsK p e below _ (T1.setTop (mkF m 14 #[.val (.ref sa), .val (.ref sb), .unset] []))
  refine EndsK.go (fun _ kz => XS.aloadN X1.here hx rfl (hb hby d7_14) rfl rfl kz) ?_
  show EndsK p e below _ (T1.setTop (mkF m 15 #[.val (.ref sa), .val (.ref sb), .unset] [(.ref sb)]))
  obtain ⟨T2, X2, e2, st2⟩ := castY X1 hx hZ hown (hw _ (List.mem_of_getElem? (i := 58) rfl)) e1 (Ins.self Et) (g := (mkF m 15 #[.val (.ref sa), .val (.ref sb), .unset] [(.ref sb)])) rfl rfl (hb hby d7_15)
  refine EndsK.go st2 ?_
  show EndsK p e below _ (T2.setTop (mkF m 18 #[.val (.ref sa), .val (.ref sb), .unset] [(.ref sb)]))
  refine EndsK.go (fun _ kz => XS.astoreN X2.here hx rfl (hb hby d7_18) rfl rfl (l' := #[.val (.ref sa), .val (.ref sb), .val (.ref sb)]) rfl kz) ?_
  show EndsK p e below _ (T2.setTop (mkF m 19 #[.val (.ref sa), .val (.ref sb), .val (.ref sb)] []))
  obtain ⟨T3, X3, e3, st3⟩ := getS2 X2 hx hZ hown (host := "") (Or.inl (hw _ (List.mem_of_getElem? (i := 59) rfl))) Via.refl e2 SC (g := (mkF m 19 #[.val (.ref sa), .val (.ref sb), .val (.ref sb)] [])) rfl (hb hby d7_19)
  refine EndsK.go st3 ?_
  show EndsK p e below _ (T3.setTop (mkF m 22 #[.val (.ref sa), .val (.ref sb), .val (.ref sb)] [(.int zc)]))
  refine EndsK.go (fun _ kz => XS.ifNo X3.here hx rfl (hb hby d7_22) rfl ((if0 _ _).trans (feq hzc).1) kz) ?_
  show EndsK p e below _ (T3.setTop (mkF m 25 #[.val (.ref sa), .val (.ref sb), .val (.ref sb)] []))
  refine EndsK.go (fun _ kz => XS.aloadN X3.here hx rfl (hb hby d7_25) rfl rfl kz) ?_
  show EndsK p e below _ (T3.setTop (mkF m 26 #[.val (.ref sa), .val (.ref sb), .val (.ref sb)] [(.ref sa)]))
  obtain ⟨T4, X4, e4, st4⟩ := getF X3 hx hZ hown (host := "") (Or.inl (hw _ (List.mem_of_getElem? (i := 25) rfl))) Via.refl e3 Fsc (g := (mkF m 26 #[.val (.ref sa), .val (.ref sb), .val (.ref sb)] [(.ref sa)])) rfl rfl (hb hby d7_26)
  refine EndsK.go st4 ?_
  show EndsK p e below _ (T4.setTop (mkF m 29 #[.val (.ref sa), .val (.ref sb), .val (.ref sb)] [(.int (0 : Int32))]))
  refine EndsK.go (fun _ kz => XS.aloadN X4.here hx rfl (hb hby d7_29) rfl rfl kz) ?_
  show EndsK p e below _ (T4.setTop (mkF m 30 #[.val (.ref sa), .val (.ref sb), .val (.ref sb)] [(.ref sb), (.int (0 : Int32))]))
  obtain ⟨T5, X5, e5, st5⟩ := getF X4 hx hZ hown (host := "") (Or.inl (hw _ (List.mem_of_getElem? (i := 25) rfl))) Via.refl e4 Ftc (g := (mkF m 30 #[.val (.ref sa), .val (.ref sb), .val (.ref sb)] [(.ref sb), (.int (0 : Int32))])) rfl rfl (hb hby d7_30)
  refine EndsK.go st5 ?_
  show EndsK p e below _ (T5.setTop (mkF m 33 #[.val (.ref sa), .val (.ref sb), .val (.ref sb)] [(.int (0 : Int32)), (.int (0 : Int32))]))
  refine EndsK.go (fun _ kz => XS.icmpNo X5.here hx rfl (hb hby d7_33) rfl (teq (rfl : (0 : Int32) = (0 : Int32))).2 kz) ?_
  show EndsK p e below _ (T5.setTop (mkF m 36 #[.val (.ref sa), .val (.ref sb), .val (.ref sb)] []))
  refine EndsK.go (fun _ kz => XS.aloadN X5.here hx rfl (hb hby d7_36) rfl rfl kz) ?_
  show EndsK p e below _ (T5.setTop (mkF m 37 #[.val (.ref sa), .val (.ref sb), .val (.ref sb)] [(.ref sa)]))
  obtain ⟨T6, X6, e6, st6⟩ := getF X5 hx hZ hown (host := "") (Or.inl (hw _ (List.mem_of_getElem? (i := 24) rfl))) Via.refl e5 Fsv (g := (mkF m 37 #[.val (.ref sa), .val (.ref sb), .val (.ref sb)] [(.ref sa)])) rfl rfl (hb hby d7_37)
  refine EndsK.go st6 ?_
  show EndsK p e below _ (T6.setTop (mkF m 40 #[.val (.ref sa), .val (.ref sb), .val (.ref sb)] [(.ref va)]))
  refine EndsK.go (fun _ kz => XS.aloadN X6.here hx rfl (hb hby d7_40) rfl rfl kz) ?_
  show EndsK p e below _ (T6.setTop (mkF m 41 #[.val (.ref sa), .val (.ref sb), .val (.ref sb)] [(.ref sb), (.ref va)]))
  obtain ⟨T7, X7, e7, st7⟩ := getF X6 hx hZ hown (host := "") (Or.inl (hw _ (List.mem_of_getElem? (i := 24) rfl))) Via.refl e6 Ftv (g := (mkF m 41 #[.val (.ref sa), .val (.ref sb), .val (.ref sb)] [(.ref sb), (.ref va)])) rfl rfl (hb hby d7_41)
  refine EndsK.go st7 ?_
  show EndsK p e below _ (T7.setTop (mkF m 44 #[.val (.ref sa), .val (.ref sb), .val (.ref sb)] [(.ref vb), (.ref va)]))
  obtain ⟨_, _, ⟨T8, L8, k8, n8⟩, -, X8, ⟨Lc8, hQ8, l8, y8, z8⟩, st8⟩ := Jvm.LawKit.callS X7 hx (y := (⟨"java/lang/StringLatin1", "equals", "([B[B)Z"⟩ : MethodName)) hown (mvT hZ (hw _ (List.mem_of_getElem? (i := 60) rfl))) (mvT hZ (hw _ (List.mem_of_getElem? (i := 61) rfl))) (mvT hZ (hw _ (List.mem_of_getElem? (i := 62) rfl))) (mvT hZ (hw _ (List.mem_of_getElem? (i := 63) rfl))) (by decide) (backOf (W := 0) (rm_lat23 l Z a0 hw [] va vb ca cb  h0 n0 Z0 Aa Ab za zb) hZ (hw _ (List.mem_of_getElem? (i := 63) rfl)) (hw _ (List.mem_of_getElem? (i := 62) rfl)) (by decide) (by decide)) (g := (mkF m 44 #[.val (.ref sa), .val (.ref sb), .val (.ref sb)] [(.ref vb), (.ref va)])) rfl (by rw [hml]; rfl) (argsL := [(.ref va), (.ref vb)]) (rest := []) (lenOf pd0 rfl) rfl (by show 2 * 0 + _ ≤ _; exact Nat.le_of_eq rfl) (hb hby d7_44) (fun _ _ => ⟨rfl, e7, (by decide : 0 + 0 ≤ _), (by decide : 0 + 0 ≤ _)⟩)
  dsimp only [Pt.U, Pt.locs, Pt.cells, Pt.slots] at X8 l8 y8 z8 st8 hQ8
  subst l8 y8 z8
  obtain ⟨rfl, N8, e8⟩ := hQ8
  have M8 := Fr.app N0 N8
  refine EndsK.go st8 ?_
  show EndsK p e below _ (T8.setTop (mkF m 47 #[.val (.ref sa), .val (.ref sb), .val (.ref sb)] [(.int (0 : Int32))]))
  refine EndsK.go (fun _ kz => XS.ifYes X8.here hx rfl (pc0 := 47) (pc' := 54) rfl (hb hby d7_47) rfl ((if0 _ _).trans (teq (rfl : (0 : Int32) = (0 : Int32))).1) (by decide) (by decide) kz) ?_
  show EndsK p e below _ (T8.setTop (mkF m 54 #[.val (.ref sa), .val (.ref sb), .val (.ref sb)] []))
  refine EndsK.go (fun _ kz => XS.iconst X8.here hx rfl (hb hby d7_54) kz) ?_
  show EndsK p e below _ (T8.setTop (mkF m 55 #[.val (.ref sa), .val (.ref sb), .val (.ref sb)] [(.int (0 : Int32))]))
  exact endN X8 hx (t := .boolean) Bd.returns (by simp) (hb hby d7_55) hlk ⟨rfl, M8, e8⟩ (by decide) (by decide)
theorem ef_seqN (m : MethodId) (sa : Addr) : entryFrame m #[(.ref sa), .null] 3 = mkF m 0 #[.val (.ref sa), .val .null, .unset] [] := by first | (simp [entryFrame, mkF, argsToLocals, Value.category]; done) | rfl
def Q_seqN (Z : State) (sa : Addr) (h0 : Heap) (n0 : Nat) (vz : Option Value) (hz : Heap) (Lz : List Loc) : Prop := vz = some (.int 0) ∧ Fr n0 Lz ∧ hz = h0
set_option maxRecDepth 65536 in
set_option maxHeartbeats 40000000 in
theorem rm_seqN (l : Launch) (Z : State) (a0 : Array Value) (hw : ∀ d ∈ tables_1, d.before a0 Z = true) (ws : List Jvm.Cond) (sa : Addr) (h0 : Heap) (n0 : Nat) (Z0 : n0 ≤ h0.size)  :
    MetFree l (⟨"java/lang/String", "equals", "(Ljava/lang/Object;)Z"⟩ : MethodName) (head1 (Jvm.Cond.code (⟨"java/lang/String", "equals", "(Ljava/lang/Object;)Z"⟩ : MethodName) jdk_42_method_66_code 3 (some .boolean) :: ws) ({ frames := 0, cells := 0, slots := 0, locals := 0 } : Room)) (fun az Uz => az = #[(.ref sa), .null] ∧ Z.Warmed39 Uz.vm ∧ Uz.heap = h0) (fun _ _ _ _ _ => True) (fun _ Uz oz Ut => ∃ vz Lz, oz = .returned vz ∧ Q_seqN Z sa h0 n0 vz Ut.heap Lz ∧ FrameEnd Uz oz Ut Lz (({ frames := 0, cells := 0, slots := 0, locals := 0 } : Room)).cells (({ frames := 0, cells := 0, slots := 0, locals := 0 } : Room)).slots) := by
  refine MetFree.of_bodySF (plainFor_of_name pn2) hisR ?_
  intro p e s m args below meth c s₁ Bd hml0 hP hK
  obtain ⟨rfl, hZ, hh⟩ := hP
  have hx := Bd.exec
  have hby := Bd.bytes
  have hml : c.maxLocals = 3 := hml0
  have hown : s.vm.findClass "java/lang/String" = some m.cls := findClass_of_methodNamed Bd.named
  have hnm := (name_of_methodNamed Bd.named Bd.method).1
  have hlk : meth.locks = false := Bd.notSynchronized
  have X0 : Stand p l e ({ frames := 0, cells := 0, slots := 0, locals := 0 } : Room) s m #[(.ref sa), .null] below meth c s₁ [] 0 0 := Stand.of_body Bd
  have e0 : s₁.heap = h0 := by rw [← hh, Bd.state]; rfl
  have N0 := Fr.nil n0
  show EndsK p e below (OQ s (Q_seqN Z sa h0 n0) (({ frames := 0, cells := 0, slots := 0, locals := 0 } : Room)).cells (({ frames := 0, cells := 0, slots := 0, locals := 0 } : Room)).slots) (s₁.setTop (entryFrame m #[(.ref sa), .null] 3))
  refine EndsK.start (ef_seqN m sa) ?_
  show EndsK p e below _ (s₁.setTop (mkF m 0 #[.val (.ref sa), .val .null, .unset] []))
  refine EndsK.go (fun _ kz => XS.aloadN X0.here hx rfl (hb hby d7_0) rfl rfl kz) ?_
  show EndsK p e below _ (s₁.setTop (mkF m 1 #[.val (.ref sa), .val .null, .unset] [(.ref sa)]))
  refine EndsK.go (fun _ kz => XS.aloadN X0.here hx rfl (hb hby d7_1) rfl rfl kz) ?_
  show EndsK p e below _ (s₁.setTop (mkF m 2 #[.val (.ref sa), .val .null, .unset] [.null, (.ref sa)]))
  refine EndsK.go (fun _ kz => Jvm.RoadKit.acmp (g := (mkF m 2 #[.val (.ref sa), .val .null, .unset] [.null, (.ref sa)])) X0 hx rfl rfl rfl (pc0 := 2) (pc' := 7) (same := false) rfl (hb hby d7_2) rfl (decide_eq_false nofun) (by decide) (by decide) kz) ?_
  show EndsK p e below _ (s₁.setTop (mkF m 7 #[.val (.ref sa), .val .null, .unset] []))
  refine EndsK.go (fun _ kz => XS.aloadN X0.here hx rfl (hb hby d7_7) rfl rfl kz) ?_
  show EndsK p e below _ (s₁.setTop (mkF m 8 #[.val (.ref sa), .val .null, .unset] [.null]))
  refine EndsK.go (X0.instanceofNull hx (g := (mkF m 8 #[.val (.ref sa), .val .null, .unset] [.null])) rfl rfl (hb hby d7_8)) ?_
  show EndsK p e below _ (s₁.setTop (mkF m 11 #[.val (.ref sa), .val .null, .unset] [(.int (0 : Int32))]))
  refine EndsK.go (fun _ kz => XS.ifYes X0.here hx rfl (pc0 := 11) (pc' := 54) rfl (hb hby d7_11) rfl ((if0 _ _).trans (teq (rfl : (0 : Int32) = (0 : Int32))).1) (by decide) (by decide) kz) ?_
  show EndsK p e below _ (s₁.setTop (mkF m 54 #[.val (.ref sa), .val .null, .unset] []))
  refine EndsK.go (fun _ kz => XS.iconst X0.here hx rfl (hb hby d7_54) kz) ?_
  show EndsK p e below _ (s₁.setTop (mkF m 55 #[.val (.ref sa), .val .null, .unset] [(.int (0 : Int32))]))
  exact endN X0 hx (t := .boolean) Bd.returns (by simp) (hb hby d7_55) hlk ⟨rfl, N0, e0⟩ (by decide) (by decide)
theorem d6_0 : decode prog_20_method_1_code 0 = .ok (.getstatic 22, 3) := by decide +kernel
theorem d6_3 : decode prog_20_method_1_code 3 = .ok (.invokevirtual 26, 3) := by decide +kernel
theorem d6_6 : decode prog_20_method_1_code 6 = .ok (.checkcast 27, 3) := by decide +kernel
theorem d6_9 : decode prog_20_method_1_code 9 = .ok (.areturn, 1) := by decide +kernel
theorem pn3 : plainName "com/example/windrow/windrow/Condition$Comparison" = true := by first | (simp [plainName, overriddenIn]; done) | decide +kernel
theorem ef_vals (m : MethodId) (av : Addr) (cv : Cell) : entryFrame m #[] 0 = mkF m 0 #[] [] := by first | (simp [entryFrame, mkF, argsToLocals, Value.category]; done) | rfl
def Q_vals (Z : State) (av : Addr) (cv : Cell) (h0 : Heap) (n0 : Nat) (vz : Option Value) (hz : Heap) (Lz : List Loc) : Prop := ∃ b : Addr, vz = some (.ref b) ∧ Fr n0 Lz ∧ Ext h0 hz ∧ Arr Z hz b (cloneOf cv) (.object "com/example/windrow/windrow/Condition$Comparison")
set_option maxRecDepth 65536 in
set_option maxHeartbeats 40000000 in
theorem rm_vals (l : Launch) (Z : State) (a0 : Array Value) (hw : ∀ d ∈ tables_1, d.before a0 Z = true) (ws : List Jvm.Cond) (av : Addr) (cv : Cell) (h0 : Heap) (n0 : Nat) (Z0 : n0 ≤ h0.size) (SV : Sta Z h0 "com/example/windrow/windrow/Condition$Comparison" "$VALUES" "[Lcom/example/windrow/windrow/Condition$Comparison;" (.ref av)) (AV : Arr Z h0 av cv (.object "com/example/windrow/windrow/Condition$Comparison")) (EV : Exa Z h0 av "[Lcom/example/windrow/windrow/Condition$Comparison;") (FV : FitC Z cv) (hsz : cv.slots.size = 6) :
    MetFree l (⟨"com/example/windrow/windrow/Condition$Comparison", "values", "()[Lcom/example/windrow/windrow/Condition$Comparison;"⟩ : MethodName) (head1 (Jvm.Cond.code (⟨"com/example/windrow/windrow/Condition$Comparison", "values", "()[Lcom/example/windrow/windrow/Condition$Comparison;"⟩ : MethodName) prog_20_method_1_code 0 (some (.array (.object "com/example/windrow/windrow/Condition$Comparison"))) :: ws) ({ frames := 1, cells := 1, slots := 6, locals := 14 } : Room)) (fun az Uz => az = #[] ∧ Z.Warmed39 Uz.vm ∧ Uz.heap = h0) (fun _ _ _ _ _ => True) (fun _ Uz oz Ut => ∃ vz Lz, oz = .returned vz ∧ Q_vals Z av cv h0 n0 vz Ut.heap Lz ∧ FrameEnd Uz oz Ut Lz (({ frames := 1, cells := 1, slots := 6, locals := 14 } : Room)).cells (({ frames := 1, cells := 1, slots := 6, locals := 14 } : Room)).slots) := by
  refine MetFree.of_bodySF (plainFor_of_name pn3) hisR ?_
  intro p e s m args below meth c s₁ Bd hml0 hP hK
  obtain ⟨rfl, hZ, hh⟩ := hP
  have hx := Bd.exec
  have hby := Bd.bytes
  have hml : c.maxLocals = 0 := hml0
  have hown : s.vm.findClass "com/example/windrow/windrow/Condition$Comparison" = some m.cls := findClass_of_methodNamed Bd.named
  have hnm := (name_of_methodNamed Bd.named Bd.method).1
  have hlk : meth.locks = false := Bd.notSynchronized
  have X0 : Stand p l e ({ frames := 1, cells := 1, slots := 6, locals := 14 } : Room) s m #[] below meth c s₁ [] 0 0 := Stand.of_body Bd
  have e0 : s₁.heap = h0 := by rw [← hh, Bd.state]; rfl
  have N0 := Fr.nil n0
  show EndsK p e below (OQ s (Q_vals Z av cv h0 n0) (({ frames := 1, cells := 1, slots := 6, locals := 14 } : Room)).cells (({ frames := 1, cells := 1, slots := 6, locals := 14 } : Room)).slots) (s₁.setTop (entryFrame m #[] 0))
  refine EndsK.start (ef_vals m av cv) ?_
  show EndsK p e below _ (s₁.setTop (mkF m 0 #[] []))
  obtain ⟨T1, X1, e1, st1⟩ := getS2 X0 hx hZ hown (host := "") (Or.inl (hw _ (List.mem_of_getElem? (i := 33) rfl))) Via.refl e0 SV (g := (mkF m 0 #[] [])) rfl (hb hby d6_0)
  refine EndsK.go st1 ?_
  show EndsK p e below _ (T1.setTop (mkF m 3 #[] [(.ref av)]))
  obtain ⟨T2, h2, X2, e2, E2, A2, B2, st2⟩ := cloneA X1 hx hZ hown (hw _ (List.mem_of_getElem? (i := 35) rfl)) (hw _ (List.mem_of_getElem? (i := 36) rfl)) (hw _ (List.mem_of_getElem? (i := 40) rfl)) (hw _ (List.mem_of_getElem? (i := 38) rfl)) (hw _ (List.mem_of_getElem? (i := 39) rfl)) (hw _ (List.mem_of_getElem? (i := 41) rfl)) e1 AV EV FV (g := (mkF m 3 #[] [(.ref av)])) rfl (by rw [hml]; rfl) rfl (hb hby d6_3) (by decide) (W := 0) (cap := 6) (by show 2 * 0 + _ ≤ _; exact Nat.le_of_eq rfl) (by decide) (Nat.le_of_eq hsz) (by decide) (by decide)
  obtain ⟨b, gb⟩ : ∃ z, z = h0.size := ⟨_, rfl⟩
  rw [← gb] at A2 B2 st2
  refine EndsK.go st2 ?_
  show EndsK p e below _ (T2.setTop (mkF m 6 #[] [(.ref b)]))
  obtain ⟨T3, X3, e3, st3⟩ := castY X2 hx hZ hown (hw _ (List.mem_of_getElem? (i := 49) rfl)) e2 (Ins.self B2) (g := (mkF m 6 #[] [(.ref b)])) rfl rfl (hb hby d6_6)
  refine EndsK.go st3 ?_
  show EndsK p e below _ (T3.setTop (mkF m 9 #[] [(.ref b)]))
  exact endR X3 hx Bd.returns rfl rfl (hb hby d6_9) hlk ⟨b, rfl, N0, by rw [e3]; exact E2, by rw [e3]; exact A2⟩ (by decide) (by decide)
theorem d5_0 : decode prog_20_method_4_code 0 = .ok (.invokestatic 45, 3) := by decide +kernel
theorem d5_3 : decode prog_20_method_4_code 3 = .ok (.astore_n 1, 1) := by decide +kernel
theorem d5_4 : decode prog_20_method_4_code 4 = .ok (.aload_n 1, 1) := by decide +kernel
theorem d5_5 : decode prog_20_method_4_code 5 = .ok (.arraylength, 1) := by decide +kernel
theorem d5_6 : decode prog_20_method_4_code 6 = .ok (.istore_n 2, 1) := by decide +kernel
theorem d5_7 : decode prog_20_method_4_code 7 = .ok (.iconst 0, 1) := by decide +kernel
theorem d5_8 : decode prog_20_method_4_code 8 = .ok (.istore_n 3, 1) := by decide +kernel
theorem d5_9 : decode prog_20_method_4_code 9 = .ok (.iload_n 3, 1) := by decide +kernel
theorem d5_10 : decode prog_20_method_4_code 10 = .ok (.iload_n 2, 1) := by decide +kernel
theorem d5_11 : decode prog_20_method_4_code 11 = .ok (.if_icmp .ge 29, 3) := by decide +kernel
theorem d5_14 : decode prog_20_method_4_code 14 = .ok (.aload_n 1, 1) := by decide +kernel
theorem d5_15 : decode prog_20_method_4_code 15 = .ok (.iload_n 3, 1) := by decide +kernel
theorem d5_16 : decode prog_20_method_4_code 16 = .ok (.aaload, 1) := by decide +kernel
theorem d5_17 : decode prog_20_method_4_code 17 = .ok (.astore 4, 2) := by decide +kernel
theorem d5_19 : decode prog_20_method_4_code 19 = .ok (.aload 4, 2) := by decide +kernel
theorem d5_21 : decode prog_20_method_4_code 21 = .ok (.getfield 41, 3) := by decide +kernel
theorem d5_24 : decode prog_20_method_4_code 24 = .ok (.aload_n 0, 1) := by decide +kernel
theorem d5_25 : decode prog_20_method_4_code 25 = .ok (.invokevirtual 49, 3) := by decide +kernel
theorem d5_28 : decode prog_20_method_4_code 28 = .ok (.ifCond .eq 6, 3) := by decide +kernel
theorem d5_31 : decode prog_20_method_4_code 31 = .ok (.aload 4, 2) := by decide +kernel
theorem d5_33 : decode prog_20_method_4_code 33 = .ok (.areturn, 1) := by decide +kernel
theorem d5_34 : decode prog_20_method_4_code 34 = .ok (.iinc 3 1, 3) := by decide +kernel
theorem d5_37 : decode prog_20_method_4_code 37 = .ok (.goto (-28), 3) := by decide +kernel
theorem d5_40 : decode prog_20_method_4_code 40 = .ok (.aconst_null, 1) := by decide +kernel
theorem d5_41 : decode prog_20_method_4_code 41 = .ok (.areturn, 1) := by decide +kernel
theorem ef_ofN (m : MethodId) (av : Addr) (cv : Cell) (b0 : Addr) (b1 : Addr) (b2 : Addr) (b3 : Addr) (b4 : Addr) (b5 : Addr) (s0 : Addr) (s1 : Addr) (s2 : Addr) (s3 : Addr) (s4 : Addr) (s5 : Addr) (v0 : Addr) (v1 : Addr) (v2 : Addr) (v3 : Addr) (v4 : Addr) (v5 : Addr) (c0 : Cell) (c1 : Cell) (c2 : Cell) (c3 : Cell) (c4 : Cell) (c5 : Cell) : entryFrame m #[.null] 5 = mkF m 0 #[.val .null, .unset, .unset, .unset, .unset] [] := by first | (simp [entryFrame, mkF, argsToLocals, Value.category]; done) | rfl
def Q_ofN (Z : State) (av : Addr) (cv : Cell) (b0 : Addr) (b1 : Addr) (b2 : Addr) (b3 : Addr) (b4 : Addr) (b5 : Addr) (s0 : Addr) (s1 : Addr) (s2 : Addr) (s3 : Addr) (s4 : Addr) (s5 : Addr) (v0 : Addr) (v1 : Addr) (v2 : Addr) (v3 : Addr) (v4 : Addr) (v5 : Addr) (c0 : Cell) (c1 : Cell) (c2 : Cell) (c3 : Cell) (c4 : Cell) (c5 : Cell) (h0 : Heap) (n0 : Nat) (vz : Option Value) (hz : Heap) (Lz : List Loc) : Prop := vz = some (ofL [((0 : Int32), .ref b0), ((0 : Int32), .ref b1), ((0 : Int32), .ref b2), ((0 : Int32), .ref b3), ((0 : Int32), .ref b4), ((0 : Int32), .ref b5)]) ∧ Fr n0 Lz ∧ Ext h0 hz
theorem pd1 : parseMethodDescriptor "()[Lcom/example/windrow/windrow/Condition$Comparison;" = some ⟨[], some (.array (.object "com/example/windrow/windrow/Condition$Comparison"))⟩ := by decide +kernel
theorem pd2 : parseMethodDescriptor "(Ljava/lang/Object;)Z" = some ⟨[(.object "java/lang/Object")], some .boolean⟩ := by decide +kernel
set_option maxRecDepth 65536 in
set_option maxHeartbeats 40000000 in
theorem rm_ofN (l : Launch) (Z : State) (a0 : Array Value) (hw : ∀ d ∈ tables_1, d.before a0 Z = true) (ws : List Jvm.Cond) (av : Addr) (cv : Cell) (b0 : Addr) (b1 : Addr) (b2 : Addr) (b3 : Addr) (b4 : Addr) (b5 : Addr) (s0 : Addr) (s1 : Addr) (s2 : Addr) (s3 : Addr) (s4 : Addr) (s5 : Addr) (v0 : Addr) (v1 : Addr) (v2 : Addr) (v3 : Addr) (v4 : Addr) (v5 : Addr) (c0 : Cell) (c1 : Cell) (c2 : Cell) (c3 : Cell) (c4 : Cell) (c5 : Cell) (h0 : Heap) (n0 : Nat) (Z0 : n0 ≤ h0.size) (SV : Sta Z h0 "com/example/windrow/windrow/Condition$Comparison" "$VALUES" "[Lcom/example/windrow/windrow/Condition$Comparison;" (.ref av)) (AV : Arr Z h0 av cv (.object "com/example/windrow/windrow/Condition$Comparison")) (EV : Exa Z h0 av "[Lcom/example/windrow/windrow/Condition$Comparison;") (FV : FitC Z cv) (hsz : cv.slots.size = 6) (w0 : ¬ ((0 : Int32) < 0 ∨ cv.slots.size ≤ (0 : Int32).toNatClampNeg) ∧ cv.slots[(0 : Int32).toNatClampNeg]? = some (.ref b0)) (Fb0 : Fld Z h0 b0 "com/example/windrow/windrow/Condition$Comparison" "symbol" "Ljava/lang/String;" (.ref s0)) (Es0 : Exa Z h0 s0 "java/lang/String") (Fc0 : Fld Z h0 s0 "java/lang/String" "coder" "B" (.int (0 : Int32))) (Fv0 : Fld Z h0 s0 "java/lang/String" "value" "[B" (.ref v0)) (Av0 : Arr Z h0 v0 c0 .byte) (zv0 : c0.slots.size.toInt32 = (1 : Int32)) (uv0_0 : ¬ ((0 : Int32) < 0 ∨ c0.slots.size ≤ (0 : Int32).toNatClampNeg) ∧ c0.slots[(0 : Int32).toNatClampNeg]? = some (.int (61 : Int32))) (w1 : ¬ ((1 : Int32) < 0 ∨ cv.slots.size ≤ (1 : Int32).toNatClampNeg) ∧ cv.slots[(1 : Int32).toNatClampNeg]? = some (.ref b1)) (Fb1 : Fld Z h0 b1 "com/example/windrow/windrow/Condition$Comparison" "symbol" "Ljava/lang/String;" (.ref s1)) (Es1 : Exa Z h0 s1 "java/lang/String") (Fc1 : Fld Z h0 s1 "java/lang/String" "coder" "B" (.int (0 : Int32))) (Fv1 : Fld Z h0 s1 "java/lang/String" "value" "[B" (.ref v1)) (Av1 : Arr Z h0 v1 c1 .byte) (zv1 : c1.slots.size.toInt32 = (2 : Int32)) (uv1_0 : ¬ ((0 : Int32) < 0 ∨ c1.slots.size ≤ (0 : Int32).toNatClampNeg) ∧ c1.slots[(0 : Int32).toNatClampNeg]? = some (.int (33 : Int32))) (uv1_1 : ¬ ((1 : Int32) < 0 ∨ c1.slots.size ≤ (1 : Int32).toNatClampNeg) ∧ c1.slots[(1 : Int32).toNatClampNeg]? = some (.int (61 : Int32))) (w2 : ¬ ((2 : Int32) < 0 ∨ cv.slots.size ≤ (2 : Int32).toNatClampNeg) ∧ cv.slots[(2 : Int32).toNatClampNeg]? = some (.ref b2)) (Fb2 : Fld Z h0 b2 "com/example/windrow/windrow/Condition$Comparison" "symbol" "Ljava/lang/String;" (.ref s2)) (Es2 : Exa Z h0 s2 "java/lang/String") (Fc2 : Fld Z h0 s2 "java/lang/String" "coder" "B" (.int (0 : Int32))) (Fv2 : Fld Z h0 s2 "java/lang/String" "value" "[B" (.ref v2)) (Av2 : Arr Z h0 v2 c2 .byte) (zv2 : c2.slots.size.toInt32 = (1 : Int32)) (uv2_0 : ¬ ((0 : Int32) < 0 ∨ c2.slots.size ≤ (0 : Int32).toNatClampNeg) ∧ c2.slots[(0 : Int32).toNatClampNeg]? = some (.int (60 : Int32))) (w3 : ¬ ((3 : Int32) < 0 ∨ cv.slots.size ≤ (3 : Int32).toNatClampNeg) ∧ cv.slots[(3 : Int32).toNatClampNeg]? = some (.ref b3)) (Fb3 : Fld Z h0 b3 "com/example/windrow/windrow/Condition$Comparison" "symbol" "Ljava/lang/String;" (.ref s3)) (Es3 : Exa Z h0 s3 "java/lang/String") (Fc3 : Fld Z h0 s3 "java/lang/String" "coder" "B" (.int (0 : Int32))) (Fv3 : Fld Z h0 s3 "java/lang/String" "value" "[B" (.ref v3)) (Av3 : Arr Z h0 v3 c3 .byte) (zv3 : c3.slots.size.toInt32 = (2 : Int32)) (uv3_0 : ¬ ((0 : Int32) < 0 ∨ c3.slots.size ≤ (0 : Int32).toNatClampNeg) ∧ c3.slots[(0 : Int32).toNatClampNeg]? = some (.int (60 : Int32))) (uv3_1 : ¬ ((1 : Int32) < 0 ∨ c3.slots.size ≤ (1 : Int32).toNatClampNeg) ∧ c3.slots[(1 : Int32).toNatClampNeg]? = some (.int (61 : Int32))) (w4 : ¬ ((4 : Int32) < 0 ∨ cv.slots.size ≤ (4 : Int32).toNatClampNeg) ∧ cv.slots[(4 : Int32).toNatClampNeg]? = some (.ref b4)) (Fb4 : Fld Z h0 b4 "com/example/windrow/windrow/Condition$Comparison" "symbol" "Ljava/lang/String;" (.ref s4)) (Es4 : Exa Z h0 s4 "java/lang/String") (Fc4 : Fld Z h0 s4 "java/lang/String" "coder" "B" (.int (0 : Int32))) (Fv4 : Fld Z h0 s4 "java/lang/String" "value" "[B" (.ref v4)) (Av4 : Arr Z h0 v4 c4 .byte) (zv4 : c4.slots.size.toInt32 = (1 : Int32)) (uv4_0 : ¬ ((0 : Int32) < 0 ∨ c4.slots.size ≤ (0 : Int32).toNatClampNeg) ∧ c4.slots[(0 : Int32).toNatClampNeg]? = some (.int (62 : Int32))) (w5 : ¬ ((5 : Int32) < 0 ∨ cv.slots.size ≤ (5 : Int32).toNatClampNeg) ∧ cv.slots[(5 : Int32).toNatClampNeg]? = some (.ref b5)) (Fb5 : Fld Z h0 b5 "com/example/windrow/windrow/Condition$Comparison" "symbol" "Ljava/lang/String;" (.ref s5)) (Es5 : Exa Z h0 s5 "java/lang/String") (Fc5 : Fld Z h0 s5 "java/lang/String" "coder" "B" (.int (0 : Int32))) (Fv5 : Fld Z h0 s5 "java/lang/String" "value" "[B" (.ref v5)) (Av5 : Arr Z h0 v5 c5 .byte) (zv5 : c5.slots.size.toInt32 = (2 : Int32)) (uv5_0 : ¬ ((0 : Int32) < 0 ∨ c5.slots.size ≤ (0 : Int32).toNatClampNeg) ∧ c5.slots[(0 : Int32).toNatClampNeg]? = some (.int (62 : Int32))) (uv5_1 : ¬ ((1 : Int32) < 0 ∨ c5.slots.size ≤ (1 : Int32).toNatClampNeg) ∧ c5.slots[(1 : Int32).toNatClampNeg]? = some (.int (61 : Int32))) :
    MetFree l (⟨"com/example/windrow/windrow/Condition$Comparison", "of", "(Ljava/lang/String;)Lcom/example/windrow/windrow/Condition$Comparison;"⟩ : MethodName) (head1 (Jvm.Cond.code (⟨"com/example/windrow/windrow/Condition$Comparison", "of", "(Ljava/lang/String;)Lcom/example/windrow/windrow/Condition$Comparison;"⟩ : MethodName) prog_20_method_4_code 5 (some (.object "com/example/windrow/windrow/Condition$Comparison")) :: ws) ({ frames := 2, cells := 1, slots := 6, locals := 30 } : Room)) (fun az Uz => az = #[.null] ∧ Z.Warmed39 Uz.vm ∧ Uz.heap = h0) (fun _ _ _ _ _ => True) (fun _ Uz oz Ut => ∃ vz Lz, oz = .returned vz ∧ Q_ofN Z av cv b0 b1 b2 b3 b4 b5 s0 s1 s2 s3 s4 s5 v0 v1 v2 v3 v4 v5 c0 c1 c2 c3 c4 c5 h0 n0 vz Ut.heap Lz ∧ FrameEnd Uz oz Ut Lz (({ frames := 2, cells := 1, slots := 6, locals := 30 } : Room)).cells (({ frames := 2, cells := 1, slots := 6, locals := 30 } : Room)).slots) := by
  refine MetFree.of_bodySF (plainFor_of_name pn3) hisR ?_
  intro p e s m args below meth c s₁ Bd hml0 hP hK
  obtain ⟨rfl, hZ, hh⟩ := hP
  have hx := Bd.exec
  have hby := Bd.bytes
  have hml : c.maxLocals = 5 := hml0
  have hown : s.vm.findClass "com/example/windrow/windrow/Condition$Comparison" = some m.cls := findClass_of_methodNamed Bd.named
  have hnm := (name_of_methodNamed Bd.named Bd.method).1
  have hlk : meth.locks = false := Bd.notSynchronized
  have X0 : Stand p l e ({ frames := 2, cells := 1, slots := 6, locals := 30 } : Room) s m #[.null] below meth c s₁ [] 0 0 := Stand.of_body Bd
  have e0 : s₁.heap = h0 := by rw [← hh, Bd.state]; rfl
  have N0 := Fr.nil n0
  show EndsK p e below (OQ s (Q_ofN Z av cv b0 b1 b2 b3 b4 b5 s0 s1 s2 s3 s4 s5 v0 v1 v2 v3 v4 v5 c0 c1 c2 c3 c4 c5 h0 n0) (({ frames := 2, cells := 1, slots := 6, locals := 30 } : Room)).cells (({ frames := 2, cells := 1, slots := 6, locals := 30 } : Room)).slots) (s₁.setTop (entryFrame m #[.null] 5))
  refine EndsK.start (ef_ofN m av cv b0 b1 b2 b3 b4 b5 s0 s1 s2 s3 s4 s5 v0 v1 v2 v3 v4 v5 c0 c1 c2 c3 c4 c5) ?_
  show EndsK p e below _ (s₁.setTop (mkF m 0 #[.val .null, .unset, .unset, .unset, .unset] []))
  obtain ⟨_, _, ⟨T1, L1, k1, n1⟩, -, X1, ⟨Lc1, hQ1, l1, y1, z1⟩, st1⟩ := Jvm.LawKit.callS X0 hx (y := (⟨"com/example/windrow/windrow/Condition$Comparison", "values", "()[Lcom/example/windrow/windrow/Condition$Comparison;"⟩ : MethodName)) hown (mvT hZ (hw _ (List.mem_of_getElem? (i := 30) rfl))) (mvT hZ (hw _ (List.mem_of_getElem? (i := 31) rfl))) (mvT hZ (hw _ (List.mem_of_getElem? (i := 28) rfl))) (mvT hZ (hw _ (List.mem_of_getElem? (i := 32) rfl))) (by decide) (backOf (W := 0) (rm_vals l Z a0 hw [] av cv h0 n0 Z0 SV AV EV FV hsz) hZ (hw _ (List.mem_of_getElem? (i := 32) rfl)) (hw _ (List.mem_of_getElem? (i := 28) rfl)) (by decide) (by decide)) (g := (mkF m 0 #[.val .null, .unset, .unset, .unset, .unset] [])) rfl (by rw [hml]; rfl) (argsL := []) (rest := []) (lenOf pd1 rfl) rfl (by show 2 * 0 + _ ≤ _; exact Nat.le_of_eq rfl) (hb hby d5_0) (fun _ _ => ⟨rfl, e0, (by decide : 0 + 1 ≤ _), (by decide : 0 + 6 ≤ _)⟩)
  dsimp only [Pt.U, Pt.locs, Pt.cells, Pt.slots] at X1 l1 y1 z1 st1 hQ1
  subst l1 y1 z1
  obtain ⟨bb, rfl, N1, E1, A1⟩ := hQ1
  have M1 := Fr.app N0 N1
  obtain ⟨h1, e1⟩ : ∃ z, T1.heap = z := ⟨_, rfl⟩
  rw [e1] at E1 A1
  have Z1 : n0 ≤ h1.size := Nat.le_trans Z0 E1.1
  have hs6 : (cloneOf cv).slots.size.toInt32 = (6 : Int32) := by show cv.slots.size.toInt32 = _; rw [hsz]; rfl
  refine EndsK.go st1 ?_
  show EndsK p e below _ (T1.setTop (mkF m 3 #[.val .null, .unset, .unset, .unset, .unset] [(.ref bb)]))
  refine EndsK.go (fun _ kz => XS.astoreN X1.here hx rfl (hb hby d5_3) rfl rfl (l' := #[.val .null, .val (.ref bb), .unset, .unset, .unset]) rfl kz) ?_
  show EndsK p e below _ (T1.setTop (mkF m 4 #[.val .null, .val (.ref bb), .unset, .unset, .unset] []))
  refine EndsK.go (fun _ kz => XS.aloadN X1.here hx rfl (hb hby d5_4) rfl rfl kz) ?_
  show EndsK p e below _ (T1.setTop (mkF m 5 #[.val .null, .val (.ref bb), .unset, .unset, .unset] [(.ref bb)]))
  refine EndsK.go (fun tz kz => X1.arraylength hx (by rw [e1]; exact A1.1) (State.isArrayOf_alike hZ.alike A1.2.1) (g := (mkF m 5 #[.val .null, .val (.ref bb), .unset, .unset, .unset] [(.ref bb)])) rfl rfl (hb hby d5_5) tz kz) ?_
  rw [hs6]
  show EndsK p e below _ (T1.setTop (mkF m 6 #[.val .null, .val (.ref bb), .unset, .unset, .unset] [(.int (6 : Int32))]))
  refine EndsK.go (fun _ kz => XS.istoreN X1.here hx rfl (hb hby d5_6) rfl (l' := #[.val .null, .val (.ref bb), .val (.int (6 : Int32)), .unset, .unset]) rfl kz) ?_
  show EndsK p e below _ (T1.setTop (mkF m 7 #[.val .null, .val (.ref bb), .val (.int (6 : Int32)), .unset, .unset] []))
  refine EndsK.go (fun _ kz => XS.iconst X1.here hx rfl (hb hby d5_7) kz) ?_
  show EndsK p e below _ (T1.setTop (mkF m 8 #[.val .null, .val (.ref bb), .val (.int (6 : Int32)), .unset, .unset] [(.int (0 : Int32))]))
  refine EndsK.go (fun _ kz => XS.istoreN X1.here hx rfl (hb hby d5_8) rfl (l' := #[.val .null, .val (.ref bb), .val (.int (6 : Int32)), .val (.int (0 : Int32)), .unset]) rfl kz) ?_
  show EndsK p e below _ (T1.setTop (mkF m 9 #[.val .null, .val (.ref bb), .val (.int (6 : Int32)), .val (.int (0 : Int32)), .unset] []))
  refine EndsK.go (fun _ kz => XS.iloadN X1.here hx rfl (hb hby d5_9) rfl kz) ?_
  show EndsK p e below _ (T1.setTop (mkF m 10 #[.val .null, .val (.ref bb), .val (.int (6 : Int32)), .val (.int (0 : Int32)), .unset] [(.int (0 : Int32))]))
  refine EndsK.go (fun _ kz => XS.iloadN X1.here hx rfl (hb hby d5_10) rfl kz) ?_
  show EndsK p e below _ (T1.setTop (mkF m 11 #[.val .null, .val (.ref bb), .val (.int (6 : Int32)), .val (.int (0 : Int32)), .unset] [(.int (6 : Int32)), (.int (0 : Int32))]))
  refine EndsK.go (fun _ kz => XS.icmpNo X1.here hx rfl (hb hby d5_11) rfl (tlt (by decide : (0 : Int32) < (6 : Int32))).2.1 kz) ?_
  show EndsK p e below _ (T1.setTop (mkF m 14 #[.val .null, .val (.ref bb), .val (.int (6 : Int32)), .val (.int (0 : Int32)), .unset] []))
  refine EndsK.go (fun _ kz => XS.aloadN X1.here hx rfl (hb hby d5_14) rfl rfl kz) ?_
  show EndsK p e below _ (T1.setTop (mkF m 15 #[.val .null, .val (.ref bb), .val (.int (6 : Int32)), .val (.int (0 : Int32)), .unset] [(.ref bb)]))
  refine EndsK.go (fun _ kz => XS.iloadN X1.here hx rfl (hb hby d5_15) rfl kz) ?_
  show EndsK p e below _ (T1.setTop (mkF m 16 #[.val .null, .val (.ref bb), .val (.int (6 : Int32)), .val (.int (0 : Int32)), .unset] [(.int (0 : Int32)), (.ref bb)]))
  refine EndsK.go (fun tz kz => X1.aaload hx (j := (0 : Int32)) (v := (.ref b0)) (by rw [e1]; exact A1.1) (State.isArrayOf_alike hZ.alike A1.2.1) rfl A1.2.2 w0.1 w0.2 (g := (mkF m 16 #[.val .null, .val (.ref bb), .val (.int (6 : Int32)), .val (.int (0 : Int32)), .unset] [(.int (0 : Int32)), (.ref bb)])) rfl rfl (hb hby d5_16) tz kz) ?_
  show EndsK p e below _ (T1.setTop (mkF m 17 #[.val .null, .val (.ref bb), .val (.int (6 : Int32)), .val (.int (0 : Int32)), .unset] [(.ref b0)]))
  refine EndsK.go (fun _ kz => XS.astore X1.here hx rfl (hb hby d5_17) rfl rfl (l' := #[.val .null, .val (.ref bb), .val (.int (6 : Int32)), .val (.int (0 : Int32)), .val (.ref b0)]) rfl kz) ?_
  show EndsK p e below _ (T1.setTop (mkF m 19 #[.val .null, .val (.ref bb), .val (.int (6 : Int32)), .val (.int (0 : Int32)), .val (.ref b0)] []))
  refine EndsK.go (fun _ kz => XS.aload X1.here hx rfl (hb hby d5_19) rfl rfl kz) ?_
  show EndsK p e below _ (T1.setTop (mkF m 21 #[.val .null, .val (.ref bb), .val (.int (6 : Int32)), .val (.int (0 : Int32)), .val (.ref b0)] [(.ref b0)]))
  obtain ⟨T2, X2, e2, st2⟩ := getF X1 hx hZ hown (host := "") (Or.inl (hw _ (List.mem_of_getElem? (i := 51) rfl))) Via.refl e1 (Fb0.ext E1) (g := (mkF m 21 #[.val .null, .val (.ref bb), .val (.int (6 : Int32)), .val (.int (0 : Int32)), .val (.ref b0)] [(.ref b0)])) rfl rfl (hb hby d5_21)
  refine EndsK.go st2 ?_
  show EndsK p e below _ (T2.setTop (mkF m 24 #[.val .null, .val (.ref bb), .val (.int (6 : Int32)), .val (.int (0 : Int32)), .val (.ref b0)] [(.ref s0)]))
  refine EndsK.go (fun _ kz => XS.aloadN X2.here hx rfl (hb hby d5_24) rfl rfl kz) ?_
  show EndsK p e below _ (T2.setTop (mkF m 25 #[.val .null, .val (.ref bb), .val (.int (6 : Int32)), .val (.int (0 : Int32)), .val (.ref b0)] [.null, (.ref s0)]))
  obtain ⟨cq3, kq3, qa3, qb3, qc3⟩ := isOf hZ e2 (Es0.ext E1)
  obtain ⟨_, _, ⟨T3, L3, k3, n3⟩, -, X3, ⟨Lc3, hQ3, l3, y3, z3⟩, st3⟩ := X2.virtualBack hx (y := (⟨"java/lang/String", "equals", "(Ljava/lang/Object;)Z"⟩ : MethodName)) (z := (⟨"java/lang/String", "equals", "(Ljava/lang/Object;)Z"⟩ : MethodName)) hown (mvT hZ (hw _ (List.mem_of_getElem? (i := 53) rfl))) (mvT hZ (hw _ (List.mem_of_getElem? (i := 54) rfl))) (notFace_of_selects (args := #[]) (mvT hZ (hw _ (List.mem_of_getElem? (i := 56) rfl)))) (mvT hZ (hw _ (List.mem_of_getElem? (i := 56) rfl))) (mvT hZ (hw _ (List.mem_of_getElem? (i := 55) rfl))) (by decide) (backOf (W := 0) (rm_seqN l Z a0 hw [] s0 h1 n0 Z1) hZ (hw _ (List.mem_of_getElem? (i := 57) rfl)) (hw _ (List.mem_of_getElem? (i := 7) rfl)) (by decide) (by decide)) qa3 qc3 (g := (mkF m 25 #[.val .null, .val (.ref bb), .val (.int (6 : Int32)), .val (.int (0 : Int32)), .val (.ref b0)] [.null, (.ref s0)])) rfl (by rw [hml]; rfl) (Steps.refl _) (argsL := [.null]) (rest := []) (lenOf pd2 rfl) rfl (by show 2 * 0 + _ ≤ _; exact Nat.le_of_eq rfl) (hb hby d5_25) (fun _ _ => ⟨rfl, e2, (by decide : 0 + 1 + 0 ≤ _), (by decide : 0 + 6 + 0 ≤ _)⟩)
  dsimp only [Pt.U, Pt.locs, Pt.cells, Pt.slots] at X3 l3 y3 z3 st3 hQ3
  subst l3 y3 z3
  obtain ⟨rfl, N3, e3⟩ := hQ3
  have M3 := Fr.app M1 N3
  refine EndsK.tr st3 ?_
  show EndsK p e below _ (T3.setTop (mkF m 28 #[.val .null, .val (.ref bb), .val (.int (6 : Int32)), .val (.int (0 : Int32)), .val (.ref b0)] [(.int (0 : Int32))]))
  refine EndsK.go (fun _ kz => XS.ifYes X3.here hx rfl (pc0 := 28) (pc' := 34) rfl (hb hby d5_28) rfl ((if0 _ _).trans (teq (rfl : (0 : Int32) = (0 : Int32))).1) (by decide) (by decide) kz) ?_
  show EndsK p e below _ (T3.setTop (mkF m 34 #[.val .null, .val (.ref bb), .val (.int (6 : Int32)), .val (.int (0 : Int32)), .val (.ref b0)] []))
  refine EndsK.go (fun _ kz => XS.iinc X3.here hx rfl (hb hby d5_34) rfl (l' := #[.val .null, .val (.ref bb), .val (.int (6 : Int32)), .val (.int (1 : Int32)), .val (.ref b0)]) rfl kz) ?_
  show EndsK p e below _ (T3.setTop (mkF m 37 #[.val .null, .val (.ref bb), .val (.int (6 : Int32)), .val (.int (1 : Int32)), .val (.ref b0)] []))
  refine EndsK.go (fun _ kz => XS.goto X3.here hx rfl (pc0 := 37) (pc' := 9) rfl (hb hby d5_37) (by decide) (by decide) kz) ?_
  show EndsK p e below _ (T3.setTop (mkF m 9 #[.val .null, .val (.ref bb), .val (.int (6 : Int32)), .val (.int (1 : Int32)), .val (.ref b0)] []))
  refine EndsK.go (fun _ kz => XS.iloadN X3.here hx rfl (hb hby d5_9) rfl kz) ?_
  show EndsK p e below _ (T3.setTop (mkF m 10 #[.val .null, .val (.ref bb), .val (.int (6 : Int32)), .val (.int (1 : Int32)), .val (.ref b0)] [(.int (1 : Int32))]))
  refine EndsK.go (fun _ kz => XS.iloadN X3.here hx rfl (hb hby d5_10) rfl kz) ?_
  show EndsK p e below _ (T3.setTop (mkF m 11 #[.val .null, .val (.ref bb), .val (.int (6 : Int32)), .val (.int (1 : Int32)), .val (.ref b0)] [(.int (6 : Int32)), (.int (1 : Int32))]))
  refine EndsK.go (fun _ kz => XS.icmpNo X3.here hx rfl (hb hby d5_11) rfl (tlt (by decide : (1 : Int32) < (6 : Int32))).2.1 kz) ?_
  show EndsK p e below _ (T3.setTop (mkF m 14 #[.val .null, .val (.ref bb), .val (.int (6 : Int32)), .val (.int (1 : Int32)), .val (.ref b0)] []))
  refine EndsK.go (fun _ kz => XS.aloadN X3.here hx rfl (hb hby d5_14) rfl rfl kz) ?_
  show EndsK p e below _ (T3.setTop (mkF m 15 #[.val .null, .val (.ref bb), .val (.int (6 : Int32)), .val (.int (1 : Int32)), .val (.ref b0)] [(.ref bb)]))
  refine EndsK.go (fun _ kz => XS.iloadN X3.here hx rfl (hb hby d5_15) rfl kz) ?_
  show EndsK p e below _ (T3.setTop (mkF m 16 #[.val .null, .val (.ref bb), .val (.int (6 : Int32)), .val (.int (1 : Int32)), .val (.ref b0)] [(.int (1 : Int32)), (.ref bb)]))
  refine EndsK.go (fun tz kz => X3.aaload hx (j := (1 : Int32)) (v := (.ref b1)) (by rw [e3]; exact A1.1) (State.isArrayOf_alike hZ.alike A1.2.1) rfl A1.2.2 w1.1 w1.2 (g := (mkF m 16 #[.val .null, .val (.ref bb), .val (.int (6 : Int32)), .val (.int (1 : Int32)), .val (.ref b0)] [(.int (1 : Int32)), (.ref bb)])) rfl rfl (hb hby d5_16) tz kz) ?_
  show EndsK p e below _ (T3.setTop (mkF m 17 #[.val .null, .val (.ref bb), .val (.int (6 : Int32)), .val (.int (1 : Int32)), .val (.ref b0)] [(.ref b1)]))
  refine EndsK.go (fun _ kz => XS.astore X3.here hx rfl (hb hby d5_17) rfl rfl (l' := #[.val .null, .val (.ref bb), .val (.int (6 : Int32)), .val (.int (1 : Int32)), .val (.ref b1)]) rfl kz) ?_
  show EndsK p e below _ (T3.setTop (mkF m 19 #[.val .null, .val (.ref bb), .val (.int (6 : Int32)), .val (.int (1 : Int32)), .val (.ref b1)] []))
  refine EndsK.go (fun _ kz => XS.aload X3.here hx rfl (hb hby d5_19) rfl rfl kz) ?_
  show EndsK p e below _ (T3.setTop (mkF m 21 #[.val .null, .val (.ref bb), .val (.int (6 : Int32)), .val (.int (1 : Int32)), .val (.ref b1)] [(.ref b1)]))
  obtain ⟨T4, X4, e4, st4⟩ := getF X3 hx hZ hown (host := "") (Or.inl (hw _ (List.mem_of_getElem? (i := 51) rfl))) Via.refl e3 (Fb1.ext E1) (g := (mkF m 21 #[.val .null, .val (.ref bb), .val (.int (6 : Int32)), .val (.int (1 : Int32)), .val (.ref b1)] [(.ref b1)])) rfl rfl (hb hby d5_21)
  refine EndsK.go st4 ?_
  show EndsK p e below _ (T4.setTop (mkF m 24 #[.val .null, .val (.ref bb), .val (.int (6 : Int32)), .val (.int (1 : Int32)), .val (.ref b1)] [(.ref s1)]))
  refine EndsK.go (fun _ kz => XS.aloadN X4.here hx rfl (hb hby d5_24) rfl rfl kz) ?_
  show EndsK p e below _ (T4.setTop (mkF m 25 #[.val .null, .val (.ref bb), .val (.int (6 : Int32)), .val (.int (1 : Int32)), .val (.ref b1)] [.null, (.ref s1)]))
  obtain ⟨cq5, kq5, qa5, qb5, qc5⟩ := isOf hZ e4 (Es1.ext E1)
  obtain ⟨_, _, ⟨T5, L5, k5, n5⟩, -, X5, ⟨Lc5, hQ5, l5, y5, z5⟩, st5⟩ := X4.virtualBack hx (y := (⟨"java/lang/String", "equals", "(Ljava/lang/Object;)Z"⟩ : MethodName)) (z := (⟨"java/lang/String", "equals", "(Ljava/lang/Object;)Z"⟩ : MethodName)) hown (mvT hZ (hw _ (List.mem_of_getElem? (i := 53) rfl))) (mvT hZ (hw _ (List.mem_of_getElem? (i := 54) rfl))) (notFace_of_selects (args := #[]) (mvT hZ (hw _ (List.mem_of_getElem? (i := 56) rfl)))) (mvT hZ (hw _ (List.mem_of_getElem? (i := 56) rfl))) (mvT hZ (hw _ (List.mem_of_getElem? (i := 55) rfl))) (by decide) (backOf (W := 0) (rm_seqN l Z a0 hw [] s1 h1 n0 Z1) hZ (hw _ (List.mem_of_getElem? (i := 57) rfl)) (hw _ (List.mem_of_getElem? (i := 7) rfl)) (by decide) (by decide)) qa5 qc5 (g := (mkF m 25 #[.val .null, .val (.ref bb), .val (.int (6 : Int32)), .val (.int (1 : Int32)), .val (.ref b1)] [.null, (.ref s1)])) rfl (by rw [hml]; rfl) (Steps.refl _) (argsL := [.null]) (rest := []) (lenOf pd2 rfl) rfl (by show 2 * 0 + _ ≤ _; exact Nat.le_of_eq rfl) (hb hby d5_25) (fun _ _ => ⟨rfl, e4, (by decide : 0 + 1 + 0 + 0 ≤ _), (by decide : 0 + 6 + 0 + 0 ≤ _)⟩)
  dsimp only [Pt.U, Pt.locs, Pt.cells, Pt.slots] at X5 l5 y5 z5 st5 hQ5
  subst l5 y5 z5
  obtain ⟨rfl, N5, e5⟩ := hQ5
  have M5 := Fr.app M3 N5
  refine EndsK.tr st5 ?_
  show EndsK p e below _ (T5.setTop (mkF m 28 #[.val .null, .val (.ref bb), .val (.int (6 : Int32)), .val (.int (1 : Int32)), .val (.ref b1)] [(.int (0 : Int32))]))
  refine EndsK.go (fun _ kz => XS.ifYes X5.here hx rfl (pc0 := 28) (pc' := 34) rfl (hb hby d5_28) rfl ((if0 _ _).trans (teq (rfl : (0 : Int32) = (0 : Int32))).1) (by decide) (by decide) kz) ?_
  show EndsK p e below _ (T5.setTop (mkF m 34 #[.val .null, .val (.ref bb), .val (.int (6 : Int32)), .val (.int (1 : Int32)), .val (.ref b1)] []))
  refine EndsK.go (fun _ kz => XS.iinc X5.here hx rfl (hb hby d5_34) rfl (l' := #[.val .null, .val (.ref bb), .val (.int (6 : Int32)), .val (.int (2 : Int32)), .val (.ref b1)]) rfl kz) ?_
  show EndsK p e below _ (T5.setTop (mkF m 37 #[.val .null, .val (.ref bb), .val (.int (6 : Int32)), .val (.int (2 : Int32)), .val (.ref b1)] []))
  refine EndsK.go (fun _ kz => XS.goto X5.here hx rfl (pc0 := 37) (pc' := 9) rfl (hb hby d5_37) (by decide) (by decide) kz) ?_
  show EndsK p e below _ (T5.setTop (mkF m 9 #[.val .null, .val (.ref bb), .val (.int (6 : Int32)), .val (.int (2 : Int32)), .val (.ref b1)] []))
  refine EndsK.go (fun _ kz => XS.iloadN X5.here hx rfl (hb hby d5_9) rfl kz) ?_
  show EndsK p e below _ (T5.setTop (mkF m 10 #[.val .null, .val (.ref bb), .val (.int (6 : Int32)), .val (.int (2 : Int32)), .val (.ref b1)] [(.int (2 : Int32))]))
  refine EndsK.go (fun _ kz => XS.iloadN X5.here hx rfl (hb hby d5_10) rfl kz) ?_
  show EndsK p e below _ (T5.setTop (mkF m 11 #[.val .null, .val (.ref bb), .val (.int (6 : Int32)), .val (.int (2 : Int32)), .val (.ref b1)] [(.int (6 : Int32)), (.int (2 : Int32))]))
  refine EndsK.go (fun _ kz => XS.icmpNo X5.here hx rfl (hb hby d5_11) rfl (tlt (by decide : (2 : Int32) < (6 : Int32))).2.1 kz) ?_
  show EndsK p e below _ (T5.setTop (mkF m 14 #[.val .null, .val (.ref bb), .val (.int (6 : Int32)), .val (.int (2 : Int32)), .val (.ref b1)] []))
  refine EndsK.go (fun _ kz => XS.aloadN X5.here hx rfl (hb hby d5_14) rfl rfl kz) ?_
  show EndsK p e below _ (T5.setTop (mkF m 15 #[.val .null, .val (.ref bb), .val (.int (6 : Int32)), .val (.int (2 : Int32)), .val (.ref b1)] [(.ref bb)]))
  refine EndsK.go (fun _ kz => XS.iloadN X5.here hx rfl (hb hby d5_15) rfl kz) ?_
  show EndsK p e below _ (T5.setTop (mkF m 16 #[.val .null, .val (.ref bb), .val (.int (6 : Int32)), .val (.int (2 : Int32)), .val (.ref b1)] [(.int (2 : Int32)), (.ref bb)]))
  refine EndsK.go (fun tz kz => X5.aaload hx (j := (2 : Int32)) (v := (.ref b2)) (by rw [e5]; exact A1.1) (State.isArrayOf_alike hZ.alike A1.2.1) rfl A1.2.2 w2.1 w2.2 (g := (mkF m 16 #[.val .null, .val (.ref bb), .val (.int (6 : Int32)), .val (.int (2 : Int32)), .val (.ref b1)] [(.int (2 : Int32)), (.ref bb)])) rfl rfl (hb hby d5_16) tz kz) ?_
  show EndsK p e below _ (T5.setTop (mkF m 17 #[.val .null, .val (.ref bb), .val (.int (6 : Int32)), .val (.int (2 : Int32)), .val (.ref b1)] [(.ref b2)]))
  refine EndsK.go (fun _ kz => XS.astore X5.here hx rfl (hb hby d5_17) rfl rfl (l' := #[.val .null, .val (.ref bb), .val (.int (6 : Int32)), .val (.int (2 : Int32)), .val (.ref b2)]) rfl kz) ?_
  show EndsK p e below _ (T5.setTop (mkF m 19 #[.val .null, .val (.ref bb), .val (.int (6 : Int32)), .val (.int (2 : Int32)), .val (.ref b2)] []))
  refine EndsK.go (fun _ kz => XS.aload X5.here hx rfl (hb hby d5_19) rfl rfl kz) ?_
  show EndsK p e below _ (T5.setTop (mkF m 21 #[.val .null, .val (.ref bb), .val (.int (6 : Int32)), .val (.int (2 : Int32)), .val (.ref b2)] [(.ref b2)]))
  obtain ⟨T6, X6, e6, st6⟩ := getF X5 hx hZ hown (host := "") (Or.inl (hw _ (List.mem_of_getElem? (i := 51) rfl))) Via.refl e5 (Fb2.ext E1) (g := (mkF m 21 #[.val .null, .val (.ref bb), .val (.int (6 : Int32)), .val (.int (2 : Int32)), .val (.ref b2)] [(.ref b2)])) rfl rfl (hb hby d5_21)
  refine EndsK.go st6 ?_
  show EndsK p e below _ (T6.setTop (mkF m 24 #[.val .null, .val (.ref bb), .val (.int (6 : Int32)), .val (.int (2 : Int32)), .val (.ref b2)] [(.ref s2)]))
  refine EndsK.go (fun _ kz => XS.aloadN X6.here hx rfl (hb hby d5_24) rfl rfl kz) ?_
  show EndsK p e below _ (T6.setTop (mkF m 25 #[.val .null, .val (.ref bb), .val (.int (6 : Int32)), .val (.int (2 : Int32)), .val (.ref b2)] [.null, (.ref s2)]))
  obtain ⟨cq7, kq7, qa7, qb7, qc7⟩ := isOf hZ e6 (Es2.ext E1)
  obtain ⟨_, _, ⟨T7, L7, k7, n7⟩, -, X7, ⟨Lc7, hQ7, l7, y7, z7⟩, st7⟩ := X6.virtualBack hx (y := (⟨"java/lang/String", "equals", "(Ljava/lang/Object;)Z"⟩ : MethodName)) (z := (⟨"java/lang/String", "equals", "(Ljava/lang/Object;)Z"⟩ : MethodName)) hown (mvT hZ (hw _ (List.mem_of_getElem? (i := 53) rfl))) (mvT hZ (hw _ (List.mem_of_getElem? (i := 54) rfl))) (notFace_of_selects (args := #[]) (mvT hZ (hw _ (List.mem_of_getElem? (i := 56) rfl)))) (mvT hZ (hw _ (List.mem_of_getElem? (i := 56) rfl))) (mvT hZ (hw _ (List.mem_of_getElem? (i := 55) rfl))) (by decide) (backOf (W := 0) (rm_seqN l Z a0 hw [] s2 h1 n0 Z1) hZ (hw _ (List.mem_of_getElem? (i := 57) rfl)) (hw _ (List.mem_of_getElem? (i := 7) rfl)) (by decide) (by decide)) qa7 qc7 (g := (mkF m 25 #[.val .null, .val (.ref bb), .val (.int (6 : Int32)), .val (.int (2 : Int32)), .val (.ref b2)] [.null, (.ref s2)])) rfl (by rw [hml]; rfl) (Steps.refl _) (argsL := [.null]) (rest := []) (lenOf pd2 rfl) rfl (by show 2 * 0 + _ ≤ _; exact Nat.le_of_eq rfl) (hb hby d5_25) (fun _ _ => ⟨rfl, e6, (by decide : 0 + 1 + 0 + 0 + 0 ≤ _), (by decide : 0 + 6 + 0 + 0 + 0 ≤ _)⟩)
  dsimp only [Pt.U, Pt.locs, Pt.cells, Pt.slots] at X7 l7 y7 z7 st7 hQ7
  subst l7 y7 z7
  obtain ⟨rfl, N7, e7⟩ := hQ7
  have M7 := Fr.app M5 N7
  refine EndsK.tr st7 ?_
  show EndsK p e below _ (T7.setTop (mkF m 28 #[.val .null, .val (.ref bb), .val (.int (6 : Int32)), .val (.int (2 : Int32)), .val (.ref b2)] [(.int (0 : Int32))]))
  refine EndsK.go (fun _ kz => XS.ifYes X7.here hx rfl (pc0 := 28) (pc' := 34) rfl (hb hby d5_28) rfl ((if0 _ _).trans (teq (rfl : (0 : Int32) = (0 : Int32))).1) (by decide) (by decide) kz) ?_
  show EndsK p e below _ (T7.setTop (mkF m 34 #[.val .null, .val (.ref bb), .val (.int (6 : Int32)), .val (.int (2 : Int32)), .val (.ref b2)] []))
  refine EndsK.go (fun _ kz => XS.iinc X7.here hx rfl (hb hby d5_34) rfl (l' := #[.val .null, .val (.ref bb), .val (.int (6 : Int32)), .val (.int (3 : Int32)), .val (.ref b2)]) rfl kz) ?_
  show EndsK p e below _ (T7.setTop (mkF m 37 #[.val .null, .val (.ref bb), .val (.int (6 : Int32)), .val (.int (3 : Int32)), .val (.ref b2)] []))
  refine EndsK.go (fun _ kz => XS.goto X7.here hx rfl (pc0 := 37) (pc' := 9) rfl (hb hby d5_37) (by decide) (by decide) kz) ?_
  show EndsK p e below _ (T7.setTop (mkF m 9 #[.val .null, .val (.ref bb), .val (.int (6 : Int32)), .val (.int (3 : Int32)), .val (.ref b2)] []))
  refine EndsK.go (fun _ kz => XS.iloadN X7.here hx rfl (hb hby d5_9) rfl kz) ?_
  show EndsK p e below _ (T7.setTop (mkF m 10 #[.val .null, .val (.ref bb), .val (.int (6 : Int32)), .val (.int (3 : Int32)), .val (.ref b2)] [(.int (3 : Int32))]))
  refine EndsK.go (fun _ kz => XS.iloadN X7.here hx rfl (hb hby d5_10) rfl kz) ?_
  show EndsK p e below _ (T7.setTop (mkF m 11 #[.val .null, .val (.ref bb), .val (.int (6 : Int32)), .val (.int (3 : Int32)), .val (.ref b2)] [(.int (6 : Int32)), (.int (3 : Int32))]))
  refine EndsK.go (fun _ kz => XS.icmpNo X7.here hx rfl (hb hby d5_11) rfl (tlt (by decide : (3 : Int32) < (6 : Int32))).2.1 kz) ?_
  show EndsK p e below _ (T7.setTop (mkF m 14 #[.val .null, .val (.ref bb), .val (.int (6 : Int32)), .val (.int (3 : Int32)), .val (.ref b2)] []))
  refine EndsK.go (fun _ kz => XS.aloadN X7.here hx rfl (hb hby d5_14) rfl rfl kz) ?_
  show EndsK p e below _ (T7.setTop (mkF m 15 #[.val .null, .val (.ref bb), .val (.int (6 : Int32)), .val (.int (3 : Int32)), .val (.ref b2)] [(.ref bb)]))
  refine EndsK.go (fun _ kz => XS.iloadN X7.here hx rfl (hb hby d5_15) rfl kz) ?_
  show EndsK p e below _ (T7.setTop (mkF m 16 #[.val .null, .val (.ref bb), .val (.int (6 : Int32)), .val (.int (3 : Int32)), .val (.ref b2)] [(.int (3 : Int32)), (.ref bb)]))
  refine EndsK.go (fun tz kz => X7.aaload hx (j := (3 : Int32)) (v := (.ref b3)) (by rw [e7]; exact A1.1) (State.isArrayOf_alike hZ.alike A1.2.1) rfl A1.2.2 w3.1 w3.2 (g := (mkF m 16 #[.val .null, .val (.ref bb), .val (.int (6 : Int32)), .val (.int (3 : Int32)), .val (.ref b2)] [(.int (3 : Int32)), (.ref bb)])) rfl rfl (hb hby d5_16) tz kz) ?_
  show EndsK p e below _ (T7.setTop (mkF m 17 #[.val .null, .val (.ref bb), .val (.int (6 : Int32)), .val (.int (3 : Int32)), .val (.ref b2)] [(.ref b3)]))
  refine EndsK.go (fun _ kz => XS.astore X7.here hx rfl (hb hby d5_17) rfl rfl (l' := #[.val .null, .val (.ref bb), .val (.int (6 : Int32)), .val (.int (3 : Int32)), .val (.ref b3)]) rfl kz) ?_
  show EndsK p e below _ (T7.setTop (mkF m 19 #[.val .null, .val (.ref bb), .val (.int (6 : Int32)), .val (.int (3 : Int32)), .val (.ref b3)] []))
  refine EndsK.go (fun _ kz => XS.aload X7.here hx rfl (hb hby d5_19) rfl rfl kz) ?_
  show EndsK p e below _ (T7.setTop (mkF m 21 #[.val .null, .val (.ref bb), .val (.int (6 : Int32)), .val (.int (3 : Int32)), .val (.ref b3)] [(.ref b3)]))
  obtain ⟨T8, X8, e8, st8⟩ := getF X7 hx hZ hown (host := "") (Or.inl (hw _ (List.mem_of_getElem? (i := 51) rfl))) Via.refl e7 (Fb3.ext E1) (g := (mkF m 21 #[.val .null, .val (.ref bb), .val (.int (6 : Int32)), .val (.int (3 : Int32)), .val (.ref b3)] [(.ref b3)])) rfl rfl (hb hby d5_21)
  refine EndsK.go st8 ?_
  show EndsK p e below _ (T8.setTop (mkF m 24 #[.val .null, .val (.ref bb), .val (.int (6 : Int32)), .val (.int (3 : Int32)), .val (.ref b3)] [(.ref s3)]))
  refine EndsK.go (fun _ kz => XS.aloadN X8.here hx rfl (hb hby d5_24) rfl rfl kz) ?_
  show EndsK p e below _ (T8.setTop (mkF m 25 #[.val .null, .val (.ref bb), .val (.int (6 : Int32)), .val (.int (3 : Int32)), .val (.ref b3)] [.null, (.ref s3)]))
  obtain ⟨cq9, kq9, qa9, qb9, qc9⟩ := isOf hZ e8 (Es3.ext E1)
  obtain ⟨_, _, ⟨T9, L9, k9, n9⟩, -, X9, ⟨Lc9, hQ9, l9, y9, z9⟩, st9⟩ := X8.virtualBack hx (y := (⟨"java/lang/String", "equals", "(Ljava/lang/Object;)Z"⟩ : MethodName)) (z := (⟨"java/lang/String", "equals", "(Ljava/lang/Object;)Z"⟩ : MethodName)) hown (mvT hZ (hw _ (List.mem_of_getElem? (i := 53) rfl))) (mvT hZ (hw _ (List.mem_of_getElem? (i := 54) rfl))) (notFace_of_selects (args := #[]) (mvT hZ (hw _ (List.mem_of_getElem? (i := 56) rfl)))) (mvT hZ (hw _ (List.mem_of_getElem? (i := 56) rfl))) (mvT hZ (hw _ (List.mem_of_getElem? (i := 55) rfl))) (by decide) (backOf (W := 0) (rm_seqN l Z a0 hw [] s3 h1 n0 Z1) hZ (hw _ (List.mem_of_getElem? (i := 57) rfl)) (hw _ (List.mem_of_getElem? (i := 7) rfl)) (by decide) (by decide)) qa9 qc9 (g := (mkF m 25 #[.val .null, .val (.ref bb), .val (.int (6 : Int32)), .val (.int (3 : Int32)), .val (.ref b3)] [.null, (.ref s3)])) rfl (by rw [hml]; rfl) (Steps.refl _) (argsL := [.null]) (rest := []) (lenOf pd2 rfl) rfl (by show 2 * 0 + _ ≤ _; exact Nat.le_of_eq rfl) (hb hby d5_25) (fun _ _ => ⟨rfl, e8, (by decide : 0 + 1 + 0 + 0 + 0 + 0 ≤ _), (by decide : 0 + 6 + 0 + 0 + 0 + 0 ≤ _)⟩)
  dsimp only [Pt.U, Pt.locs, Pt.cells, Pt.slots] at X9 l9 y9 z9 st9 hQ9
  subst l9 y9 z9
  obtain ⟨rfl, N9, e9⟩ := hQ9
  have M9 := Fr.app M7 N9
  refine EndsK.tr st9 ?_
  show EndsK p e below _ (T9.setTop (mkF m 28 #[.val .null, .val (.ref bb), .val (.int (6 : Int32)), .val (.int (3 : Int32)), .val (.ref b3)] [(.int (0 : Int32))]))
  refine EndsK.go (fun _ kz => XS.ifYes X9.here hx rfl (pc0 := 28) (pc' := 34) rfl (hb hby d5_28) rfl ((if0 _ _).trans (teq (rfl : (0 : Int32) = (0 : Int32))).1) (by decide) (by decide) kz) ?_
  show EndsK p e below _ (T9.setTop (mkF m 34 #[.val .null, .val (.ref bb), .val (.int (6 : Int32)), .val (.int (3 : Int32)), .val (.ref b3)] []))
  refine EndsK.go (fun _ kz => XS.iinc X9.here hx rfl (hb hby d5_34) rfl (l' := #[.val .null, .val (.ref bb), .val (.int (6 : Int32)), .val (.int (4 : Int32)), .val (.ref b3)]) rfl kz) ?_
  show EndsK p e below _ (T9.setTop (mkF m 37 #[.val .null, .val (.ref bb), .val (.int (6 : Int32)), .val (.int (4 : Int32)), .val (.ref b3)] []))
  refine EndsK.go (fun _ kz => XS.goto X9.here hx rfl (pc0 := 37) (pc' := 9) rfl (hb hby d5_37) (by decide) (by decide) kz) ?_
  show EndsK p e below _ (T9.setTop (mkF m 9 #[.val .null, .val (.ref bb), .val (.int (6 : Int32)), .val (.int (4 : Int32)), .val (.ref b3)] []))
  refine EndsK.go (fun _ kz => XS.iloadN X9.here hx rfl (hb hby d5_9) rfl kz) ?_
  show EndsK p e below _ (T9.setTop (mkF m 10 #[.val .null, .val (.ref bb), .val (.int (6 : Int32)), .val (.int (4 : Int32)), .val (.ref b3)] [(.int (4 : Int32))]))
  refine EndsK.go (fun _ kz => XS.iloadN X9.here hx rfl (hb hby d5_10) rfl kz) ?_
  show EndsK p e below _ (T9.setTop (mkF m 11 #[.val .null, .val (.ref bb), .val (.int (6 : Int32)), .val (.int (4 : Int32)), .val (.ref b3)] [(.int (6 : Int32)), (.int (4 : Int32))]))
  refine EndsK.go (fun _ kz => XS.icmpNo X9.here hx rfl (hb hby d5_11) rfl (tlt (by decide : (4 : Int32) < (6 : Int32))).2.1 kz) ?_
  show EndsK p e below _ (T9.setTop (mkF m 14 #[.val .null, .val (.ref bb), .val (.int (6 : Int32)), .val (.int (4 : Int32)), .val (.ref b3)] []))
  refine EndsK.go (fun _ kz => XS.aloadN X9.here hx rfl (hb hby d5_14) rfl rfl kz) ?_
  show EndsK p e below _ (T9.setTop (mkF m 15 #[.val .null, .val (.ref bb), .val (.int (6 : Int32)), .val (.int (4 : Int32)), .val (.ref b3)] [(.ref bb)]))
  refine EndsK.go (fun _ kz => XS.iloadN X9.here hx rfl (hb hby d5_15) rfl kz) ?_
  show EndsK p e below _ (T9.setTop (mkF m 16 #[.val .null, .val (.ref bb), .val (.int (6 : Int32)), .val (.int (4 : Int32)), .val (.ref b3)] [(.int (4 : Int32)), (.ref bb)]))
  refine EndsK.go (fun tz kz => X9.aaload hx (j := (4 : Int32)) (v := (.ref b4)) (by rw [e9]; exact A1.1) (State.isArrayOf_alike hZ.alike A1.2.1) rfl A1.2.2 w4.1 w4.2 (g := (mkF m 16 #[.val .null, .val (.ref bb), .val (.int (6 : Int32)), .val (.int (4 : Int32)), .val (.ref b3)] [(.int (4 : Int32)), (.ref bb)])) rfl rfl (hb hby d5_16) tz kz) ?_
  show EndsK p e below _ (T9.setTop (mkF m 17 #[.val .null, .val (.ref bb), .val (.int (6 : Int32)), .val (.int (4 : Int32)), .val (.ref b3)] [(.ref b4)]))
  refine EndsK.go (fun _ kz => XS.astore X9.here hx rfl (hb hby d5_17) rfl rfl (l' := #[.val .null, .val (.ref bb), .val (.int (6 : Int32)), .val (.int (4 : Int32)), .val (.ref b4)]) rfl kz) ?_
  show EndsK p e below _ (T9.setTop (mkF m 19 #[.val .null, .val (.ref bb), .val (.int (6 : Int32)), .val (.int (4 : Int32)), .val (.ref b4)] []))
  refine EndsK.go (fun _ kz => XS.aload X9.here hx rfl (hb hby d5_19) rfl rfl kz) ?_
  show EndsK p e below _ (T9.setTop (mkF m 21 #[.val .null, .val (.ref bb), .val (.int (6 : Int32)), .val (.int (4 : Int32)), .val (.ref b4)] [(.ref b4)]))
  obtain ⟨T10, X10, e10, st10⟩ := getF X9 hx hZ hown (host := "") (Or.inl (hw _ (List.mem_of_getElem? (i := 51) rfl))) Via.refl e9 (Fb4.ext E1) (g := (mkF m 21 #[.val .null, .val (.ref bb), .val (.int (6 : Int32)), .val (.int (4 : Int32)), .val (.ref b4)] [(.ref b4)])) rfl rfl (hb hby d5_21)
  refine EndsK.go st10 ?_
  show EndsK p e below _ (T10.setTop (mkF m 24 #[.val .null, .val (.ref bb), .val (.int (6 : Int32)), .val (.int (4 : Int32)), .val (.ref b4)] [(.ref s4)]))
  refine EndsK.go (fun _ kz => XS.aloadN X10.here hx rfl (hb hby d5_24) rfl rfl kz) ?_
  show EndsK p e below _ (T10.setTop (mkF m 25 #[.val .null, .val (.ref bb), .val (.int (6 : Int32)), .val (.int (4 : Int32)), .val (.ref b4)] [.null, (.ref s4)]))
  obtain ⟨cq11, kq11, qa11, qb11, qc11⟩ := isOf hZ e10 (Es4.ext E1)
  obtain ⟨_, _, ⟨T11, L11, k11, n11⟩, -, X11, ⟨Lc11, hQ11, l11, y11, z11⟩, st11⟩ := X10.virtualBack hx (y := (⟨"java/lang/String", "equals", "(Ljava/lang/Object;)Z"⟩ : MethodName)) (z := (⟨"java/lang/String", "equals", "(Ljava/lang/Object;)Z"⟩ : MethodName)) hown (mvT hZ (hw _ (List.mem_of_getElem? (i := 53) rfl))) (mvT hZ (hw _ (List.mem_of_getElem? (i := 54) rfl))) (notFace_of_selects (args := #[]) (mvT hZ (hw _ (List.mem_of_getElem? (i := 56) rfl)))) (mvT hZ (hw _ (List.mem_of_getElem? (i := 56) rfl))) (mvT hZ (hw _ (List.mem_of_getElem? (i := 55) rfl))) (by decide) (backOf (W := 0) (rm_seqN l Z a0 hw [] s4 h1 n0 Z1) hZ (hw _ (List.mem_of_getElem? (i := 57) rfl)) (hw _ (List.mem_of_getElem? (i := 7) rfl)) (by decide) (by decide)) qa11 qc11 (g := (mkF m 25 #[.val .null, .val (.ref bb), .val (.int (6 : Int32)), .val (.int (4 : Int32)), .val (.ref b4)] [.null, (.ref s4)])) rfl (by rw [hml]; rfl) (Steps.refl _) (argsL := [.null]) (rest := []) (lenOf pd2 rfl) rfl (by show 2 * 0 + _ ≤ _; exact Nat.le_of_eq rfl) (hb hby d5_25) (fun _ _ => ⟨rfl, e10, (by decide : 0 + 1 + 0 + 0 + 0 + 0 + 0 ≤ _), (by decide : 0 + 6 + 0 + 0 + 0 + 0 + 0 ≤ _)⟩)
  dsimp only [Pt.U, Pt.locs, Pt.cells, Pt.slots] at X11 l11 y11 z11 st11 hQ11
  subst l11 y11 z11
  obtain ⟨rfl, N11, e11⟩ := hQ11
  have M11 := Fr.app M9 N11
  refine EndsK.tr st11 ?_
  show EndsK p e below _ (T11.setTop (mkF m 28 #[.val .null, .val (.ref bb), .val (.int (6 : Int32)), .val (.int (4 : Int32)), .val (.ref b4)] [(.int (0 : Int32))]))
  refine EndsK.go (fun _ kz => XS.ifYes X11.here hx rfl (pc0 := 28) (pc' := 34) rfl (hb hby d5_28) rfl ((if0 _ _).trans (teq (rfl : (0 : Int32) = (0 : Int32))).1) (by decide) (by decide) kz) ?_
  show EndsK p e below _ (T11.setTop (mkF m 34 #[.val .null, .val (.ref bb), .val (.int (6 : Int32)), .val (.int (4 : Int32)), .val (.ref b4)] []))
  refine EndsK.go (fun _ kz => XS.iinc X11.here hx rfl (hb hby d5_34) rfl (l' := #[.val .null, .val (.ref bb), .val (.int (6 : Int32)), .val (.int (5 : Int32)), .val (.ref b4)]) rfl kz) ?_
  show EndsK p e below _ (T11.setTop (mkF m 37 #[.val .null, .val (.ref bb), .val (.int (6 : Int32)), .val (.int (5 : Int32)), .val (.ref b4)] []))
  refine EndsK.go (fun _ kz => XS.goto X11.here hx rfl (pc0 := 37) (pc' := 9) rfl (hb hby d5_37) (by decide) (by decide) kz) ?_
  show EndsK p e below _ (T11.setTop (mkF m 9 #[.val .null, .val (.ref bb), .val (.int (6 : Int32)), .val (.int (5 : Int32)), .val (.ref b4)] []))
  refine EndsK.go (fun _ kz => XS.iloadN X11.here hx rfl (hb hby d5_9) rfl kz) ?_
  show EndsK p e below _ (T11.setTop (mkF m 10 #[.val .null, .val (.ref bb), .val (.int (6 : Int32)), .val (.int (5 : Int32)), .val (.ref b4)] [(.int (5 : Int32))]))
  refine EndsK.go (fun _ kz => XS.iloadN X11.here hx rfl (hb hby d5_10) rfl kz) ?_
  show EndsK p e below _ (T11.setTop (mkF m 11 #[.val .null, .val (.ref bb), .val (.int (6 : Int32)), .val (.int (5 : Int32)), .val (.ref b4)] [(.int (6 : Int32)), (.int (5 : Int32))]))
  refine EndsK.go (fun _ kz => XS.icmpNo X11.here hx rfl (hb hby d5_11) rfl (tlt (by decide : (5 : Int32) < (6 : Int32))).2.1 kz) ?_
  show EndsK p e below _ (T11.setTop (mkF m 14 #[.val .null, .val (.ref bb), .val (.int (6 : Int32)), .val (.int (5 : Int32)), .val (.ref b4)] []))
  refine EndsK.go (fun _ kz => XS.aloadN X11.here hx rfl (hb hby d5_14) rfl rfl kz) ?_
  show EndsK p e below _ (T11.setTop (mkF m 15 #[.val .null, .val (.ref bb), .val (.int (6 : Int32)), .val (.int (5 : Int32)), .val (.ref b4)] [(.ref bb)]))
  refine EndsK.go (fun _ kz => XS.iloadN X11.here hx rfl (hb hby d5_15) rfl kz) ?_
  show EndsK p e below _ (T11.setTop (mkF m 16 #[.val .null, .val (.ref bb), .val (.int (6 : Int32)), .val (.int (5 : Int32)), .val (.ref b4)] [(.int (5 : Int32)), (.ref bb)]))
  refine EndsK.go (fun tz kz => X11.aaload hx (j := (5 : Int32)) (v := (.ref b5)) (by rw [e11]; exact A1.1) (State.isArrayOf_alike hZ.alike A1.2.1) rfl A1.2.2 w5.1 w5.2 (g := (mkF m 16 #[.val .null, .val (.ref bb), .val (.int (6 : Int32)), .val (.int (5 : Int32)), .val (.ref b4)] [(.int (5 : Int32)), (.ref bb)])) rfl rfl (hb hby d5_16) tz kz) ?_
  show EndsK p e below _ (T11.setTop (mkF m 17 #[.val .null, .val (.ref bb), .val (.int (6 : Int32)), .val (.int (5 : Int32)), .val (.ref b4)] [(.ref b5)]))
  refine EndsK.go (fun _ kz => XS.astore X11.here hx rfl (hb hby d5_17) rfl rfl (l' := #[.val .null, .val (.ref bb), .val (.int (6 : Int32)), .val (.int (5 : Int32)), .val (.ref b5)]) rfl kz) ?_
  show EndsK p e below _ (T11.setTop (mkF m 19 #[.val .null, .val (.ref bb), .val (.int (6 : Int32)), .val (.int (5 : Int32)), .val (.ref b5)] []))
  refine EndsK.go (fun _ kz => XS.aload X11.here hx rfl (hb hby d5_19) rfl rfl kz) ?_
  show EndsK p e below _ (T11.setTop (mkF m 21 #[.val .null, .val (.ref bb), .val (.int (6 : Int32)), .val (.int (5 : Int32)), .val (.ref b5)] [(.ref b5)]))
  obtain ⟨T12, X12, e12, st12⟩ := getF X11 hx hZ hown (host := "") (Or.inl (hw _ (List.mem_of_getElem? (i := 51) rfl))) Via.refl e11 (Fb5.ext E1) (g := (mkF m 21 #[.val .null, .val (.ref bb), .val (.int (6 : Int32)), .val (.int (5 : Int32)), .val (.ref b5)] [(.ref b5)])) rfl rfl (hb hby d5_21)
  refine EndsK.go st12 ?_
  show EndsK p e below _ (T12.setTop (mkF m 24 #[.val .null, .val (.ref bb), .val (.int (6 : Int32)), .val (.int (5 : Int32)), .val (.ref b5)] [(.ref s5)]))
  refine EndsK.go (fun _ kz => XS.aloadN X12.here hx rfl (hb hby d5_24) rfl rfl kz) ?_
  show EndsK p e below _ (T12.setTop (mkF m 25 #[.val .null, .val (.ref bb), .val (.int (6 : Int32)), .val (.int (5 : Int32)), .val (.ref b5)] [.null, (.ref s5)]))
  obtain ⟨cq13, kq13, qa13, qb13, qc13⟩ := isOf hZ e12 (Es5.ext E1)
  obtain ⟨_, _, ⟨T13, L13, k13, n13⟩, -, X13, ⟨Lc13, hQ13, l13, y13, z13⟩, st13⟩ := X12.virtualBack hx (y := (⟨"java/lang/String", "equals", "(Ljava/lang/Object;)Z"⟩ : MethodName)) (z := (⟨"java/lang/String", "equals", "(Ljava/lang/Object;)Z"⟩ : MethodName)) hown (mvT hZ (hw _ (List.mem_of_getElem? (i := 53) rfl))) (mvT hZ (hw _ (List.mem_of_getElem? (i := 54) rfl))) (notFace_of_selects (args := #[]) (mvT hZ (hw _ (List.mem_of_getElem? (i := 56) rfl)))) (mvT hZ (hw _ (List.mem_of_getElem? (i := 56) rfl))) (mvT hZ (hw _ (List.mem_of_getElem? (i := 55) rfl))) (by decide) (backOf (W := 0) (rm_seqN l Z a0 hw [] s5 h1 n0 Z1) hZ (hw _ (List.mem_of_getElem? (i := 57) rfl)) (hw _ (List.mem_of_getElem? (i := 7) rfl)) (by decide) (by decide)) qa13 qc13 (g := (mkF m 25 #[.val .null, .val (.ref bb), .val (.int (6 : Int32)), .val (.int (5 : Int32)), .val (.ref b5)] [.null, (.ref s5)])) rfl (by rw [hml]; rfl) (Steps.refl _) (argsL := [.null]) (rest := []) (lenOf pd2 rfl) rfl (by show 2 * 0 + _ ≤ _; exact Nat.le_of_eq rfl) (hb hby d5_25) (fun _ _ => ⟨rfl, e12, (by decide : 0 + 1 + 0 + 0 + 0 + 0 + 0 + 0 ≤ _), (by decide : 0 + 6 + 0 + 0 + 0 + 0 + 0 + 0 ≤ _)⟩)
  dsimp only [Pt.U, Pt.locs, Pt.cells, Pt.slots] at X13 l13 y13 z13 st13 hQ13
  subst l13 y13 z13
  obtain ⟨rfl, N13, e13⟩ := hQ13
  have M13 := Fr.app M11 N13
  refine EndsK.tr st13 ?_
  show EndsK p e below _ (T13.setTop (mkF m 28 #[.val .null, .val (.ref bb), .val (.int (6 : Int32)), .val (.int (5 : Int32)), .val (.ref b5)] [(.int (0 : Int32))]))
  refine EndsK.go (fun _ kz => XS.ifYes X13.here hx rfl (pc0 := 28) (pc' := 34) rfl (hb hby d5_28) rfl ((if0 _ _).trans (teq (rfl : (0 : Int32) = (0 : Int32))).1) (by decide) (by decide) kz) ?_
  show EndsK p e below _ (T13.setTop (mkF m 34 #[.val .null, .val (.ref bb), .val (.int (6 : Int32)), .val (.int (5 : Int32)), .val (.ref b5)] []))
  refine EndsK.go (fun _ kz => XS.iinc X13.here hx rfl (hb hby d5_34) rfl (l' := #[.val .null, .val (.ref bb), .val (.int (6 : Int32)), .val (.int (6 : Int32)), .val (.ref b5)]) rfl kz) ?_
  show EndsK p e below _ (T13.setTop (mkF m 37 #[.val .null, .val (.ref bb), .val (.int (6 : Int32)), .val (.int (6 : Int32)), .val (.ref b5)] []))
  refine EndsK.go (fun _ kz => XS.goto X13.here hx rfl (pc0 := 37) (pc' := 9) rfl (hb hby d5_37) (by decide) (by decide) kz) ?_
  show EndsK p e below _ (T13.setTop (mkF m 9 #[.val .null, .val (.ref bb), .val (.int (6 : Int32)), .val (.int (6 : Int32)), .val (.ref b5)] []))
  refine EndsK.go (fun _ kz => XS.iloadN X13.here hx rfl (hb hby d5_9) rfl kz) ?_
  show EndsK p e below _ (T13.setTop (mkF m 10 #[.val .null, .val (.ref bb), .val (.int (6 : Int32)), .val (.int (6 : Int32)), .val (.ref b5)] [(.int (6 : Int32))]))
  refine EndsK.go (fun _ kz => XS.iloadN X13.here hx rfl (hb hby d5_10) rfl kz) ?_
  show EndsK p e below _ (T13.setTop (mkF m 11 #[.val .null, .val (.ref bb), .val (.int (6 : Int32)), .val (.int (6 : Int32)), .val (.ref b5)] [(.int (6 : Int32)), (.int (6 : Int32))]))
  refine EndsK.go (fun _ kz => XS.icmpYes X13.here hx rfl (pc0 := 11) (pc' := 40) rfl (hb hby d5_11) rfl (flt (by decide : ¬ ((6 : Int32) < (6 : Int32)))).2.1 (by decide) (by decide) kz) ?_
  show EndsK p e below _ (T13.setTop (mkF m 40 #[.val .null, .val (.ref bb), .val (.int (6 : Int32)), .val (.int (6 : Int32)), .val (.ref b5)] []))
  refine EndsK.go (fun _ kz => XS.aconstNull X13.here hx rfl (hb hby d5_40) kz) ?_
  show EndsK p e below _ (T13.setTop (mkF m 41 #[.val .null, .val (.ref bb), .val (.int (6 : Int32)), .val (.int (6 : Int32)), .val (.ref b5)] [.null]))
  exact endR X13 hx Bd.returns rfl rfl (hb hby d5_41) hlk ⟨(congrArg some (by simp [ofL] : ofL [((0 : Int32), .ref b0), ((0 : Int32), .ref b1), ((0 : Int32), .ref b2), ((0 : Int32), .ref b3), ((0 : Int32), .ref b4), ((0 : Int32), .ref b5)] = .null)).symm, M13, by rw [e13]; exact E1⟩ (by decide) (by decide)
theorem ef_of0 (m : MethodId) (sb : Addr) (vb : Addr) (cb : Cell) (zc : Int32) (av : Addr) (cv : Cell) (b0 : Addr) (b1 : Addr) (b2 : Addr) (b3 : Addr) (b4 : Addr) (b5 : Addr) (s0 : Addr) (s1 : Addr) (s2 : Addr) (s3 : Addr) (s4 : Addr) (s5 : Addr) (v0 : Addr) (v1 : Addr) (v2 : Addr) (v3 : Addr) (v4 : Addr) (v5 : Addr) (c0 : Cell) (c1 : Cell) (c2 : Cell) (c3 : Cell) (c4 : Cell) (c5 : Cell) : entryFrame m #[(.ref sb)] 5 = mkF m 0 #[.val (.ref sb), .unset, .unset, .unset, .unset] [] := by first | (simp [entryFrame, mkF, argsToLocals, Value.category]; done) | rfl
def Q_of0 (Z : State) (sb : Addr) (vb : Addr) (cb : Cell) (zc : Int32) (av : Addr) (cv : Cell) (b0 : Addr) (b1 : Addr) (b2 : Addr) (b3 : Addr) (b4 : Addr) (b5 : Addr) (s0 : Addr) (s1 : Addr) (s2 : Addr) (s3 : Addr) (s4 : Addr) (s5 : Addr) (v0 : Addr) (v1 : Addr) (v2 : Addr) (v3 : Addr) (v4 : Addr) (v5 : Addr) (c0 : Cell) (c1 : Cell) (c2 : Cell) (c3 : Cell) (c4 : Cell) (c5 : Cell) (h0 : Heap) (n0 : Nat) (vz : Option Value) (hz : Heap) (Lz : List Loc) : Prop := vz = some (ofL [((0 : Int32), .ref b0), ((0 : Int32), .ref b1), ((0 : Int32), .ref b2), ((0 : Int32), .ref b3), ((0 : Int32), .ref b4), ((0 : Int32), .ref b5)]) ∧ Fr n0 Lz ∧ Ext h0 hz
set_option maxRecDepth 65536 in
set_option maxHeartbeats 40000000 in
theorem rm_of0 (l : Launch) (Z : State) (a0 : Array Value) (hw : ∀ d ∈ tables_1, d.before a0 Z = true) (ws : List Jvm.Cond) (sb : Addr) (vb : Addr) (cb : Cell) (zc : Int32) (av : Addr) (cv : Cell) (b0 : Addr) (b1 : Addr) (b2 : Addr) (b3 : Addr) (b4 : Addr) (b5 : Addr) (s0 : Addr) (s1 : Addr) (s2 : Addr) (s3 : Addr) (s4 : Addr) (s5 : Addr) (v0 : Addr) (v1 : Addr) (v2 : Addr) (v3 : Addr) (v4 : Addr) (v5 : Addr) (c0 : Cell) (c1 : Cell) (c2 : Cell) (c3 : Cell) (c4 : Cell) (c5 : Cell) (h0 : Heap) (n0 : Nat) (Z0 : n0 ≤ h0.size) (hne0 : ¬ s0 = sb) (hne1 : ¬ s1 = sb) (hne2 : ¬ s2 = sb) (hne3 : ¬ s3 = sb) (hne4 : ¬ s4 = sb) (hne5 : ¬ s5 = sb) (Et : Exa Z h0 sb "java/lang/String") (Ftc : Fld Z h0 sb "java/lang/String" "coder" "B" (.int (0 : Int32))) (Ftv : Fld Z h0 sb "java/lang/String" "value" "[B" (.ref vb)) (SC : Sta Z h0 "java/lang/String" "COMPACT_STRINGS" "Z" (.int zc)) (hzc : ¬ (zc = (0 : Int32))) (Ab : Arr Z h0 vb cb .byte) (zb : cb.slots.size.toInt32 = (0 : Int32)) (SV : Sta Z h0 "com/example/windrow/windrow/Condition$Comparison" "$VALUES" "[Lcom/example/windrow/windrow/Condition$Comparison;" (.ref av)) (AV : Arr Z h0 av cv (.object "com/example/windrow/windrow/Condition$Comparison")) (EV : Exa Z h0 av "[Lcom/example/windrow/windrow/Condition$Comparison;") (FV : FitC Z cv) (hsz : cv.slots.size = 6) (w0 : ¬ ((0 : Int32) < 0 ∨ cv.slots.size ≤ (0 : Int32).toNatClampNeg) ∧ cv.slots[(0 : Int32).toNatClampNeg]? = some (.ref b0)) (Fb0 : Fld Z h0 b0 "com/example/windrow/windrow/Condition$Comparison" "symbol" "Ljava/lang/String;" (.ref s0)) (Es0 : Exa Z h0 s0 "java/lang/String") (Fc0 : Fld Z h0 s0 "java/lang/String" "coder" "B" (.int (0 : Int32))) (Fv0 : Fld Z h0 s0 "java/lang/String" "value" "[B" (.ref v0)) (Av0 : Arr Z h0 v0 c0 .byte) (zv0 : c0.slots.size.toInt32 = (1 : Int32)) (uv0_0 : ¬ ((0 : Int32) < 0 ∨ c0.slots.size ≤ (0 : Int32).toNatClampNeg) ∧ c0.slots[(0 : Int32).toNatClampNeg]? = some (.int (61 : Int32))) (w1 : ¬ ((1 : Int32) < 0 ∨ cv.slots.size ≤ (1 : Int32).toNatClampNeg) ∧ cv.slots[(1 : Int32).toNatClampNeg]? = some (.ref b1)) (Fb1 : Fld Z h0 b1 "com/example/windrow/windrow/Condition$Comparison" "symbol" "Ljava/lang/String;" (.ref s1)) (Es1 : Exa Z h0 s1 "java/lang/String") (Fc1 : Fld Z h0 s1 "java/lang/String" "coder" "B" (.int (0 : Int32))) (Fv1 : Fld Z h0 s1 "java/lang/String" "value" "[B" (.ref v1)) (Av1 : Arr Z h0 v1 c1 .byte) (zv1 : c1.slots.size.toInt32 = (2 : Int32)) (uv1_0 : ¬ ((0 : Int32) < 0 ∨ c1.slots.size ≤ (0 : Int32).toNatClampNeg) ∧ c1.slots[(0 : Int32).toNatClampNeg]? = some (.int (33 : Int32))) (uv1_1 : ¬ ((1 : Int32) < 0 ∨ c1.slots.size ≤ (1 : Int32).toNatClampNeg) ∧ c1.slots[(1 : Int32).toNatClampNeg]? = some (.int (61 : Int32))) (w2 : ¬ ((2 : Int32) < 0 ∨ cv.slots.size ≤ (2 : Int32).toNatClampNeg) ∧ cv.slots[(2 : Int32).toNatClampNeg]? = some (.ref b2)) (Fb2 : Fld Z h0 b2 "com/example/windrow/windrow/Condition$Comparison" "symbol" "Ljava/lang/String;" (.ref s2)) (Es2 : Exa Z h0 s2 "java/lang/String") (Fc2 : Fld Z h0 s2 "java/lang/String" "coder" "B" (.int (0 : Int32))) (Fv2 : Fld Z h0 s2 "java/lang/String" "value" "[B" (.ref v2)) (Av2 : Arr Z h0 v2 c2 .byte) (zv2 : c2.slots.size.toInt32 = (1 : Int32)) (uv2_0 : ¬ ((0 : Int32) < 0 ∨ c2.slots.size ≤ (0 : Int32).toNatClampNeg) ∧ c2.slots[(0 : Int32).toNatClampNeg]? = some (.int (60 : Int32))) (w3 : ¬ ((3 : Int32) < 0 ∨ cv.slots.size ≤ (3 : Int32).toNatClampNeg) ∧ cv.slots[(3 : Int32).toNatClampNeg]? = some (.ref b3)) (Fb3 : Fld Z h0 b3 "com/example/windrow/windrow/Condition$Comparison" "symbol" "Ljava/lang/String;" (.ref s3)) (Es3 : Exa Z h0 s3 "java/lang/String") (Fc3 : Fld Z h0 s3 "java/lang/String" "coder" "B" (.int (0 : Int32))) (Fv3 : Fld Z h0 s3 "java/lang/String" "value" "[B" (.ref v3)) (Av3 : Arr Z h0 v3 c3 .byte) (zv3 : c3.slots.size.toInt32 = (2 : Int32)) (uv3_0 : ¬ ((0 : Int32) < 0 ∨ c3.slots.size ≤ (0 : Int32).toNatClampNeg) ∧ c3.slots[(0 : Int32).toNatClampNeg]? = some (.int (60 : Int32))) (uv3_1 : ¬ ((1 : Int32) < 0 ∨ c3.slots.size ≤ (1 : Int32).toNatClampNeg) ∧ c3.slots[(1 : Int32).toNatClampNeg]? = some (.int (61 : Int32))) (w4 : ¬ ((4 : Int32) < 0 ∨ cv.slots.size ≤ (4 : Int32).toNatClampNeg) ∧ cv.slots[(4 : Int32).toNatClampNeg]? = some (.ref b4)) (Fb4 : Fld Z h0 b4 "com/example/windrow/windrow/Condition$Comparison" "symbol" "Ljava/lang/String;" (.ref s4)) (Es4 : Exa Z h0 s4 "java/lang/String") (Fc4 : Fld Z h0 s4 "java/lang/String" "coder" "B" (.int (0 : Int32))) (Fv4 : Fld Z h0 s4 "java/lang/String" "value" "[B" (.ref v4)) (Av4 : Arr Z h0 v4 c4 .byte) (zv4 : c4.slots.size.toInt32 = (1 : Int32)) (uv4_0 : ¬ ((0 : Int32) < 0 ∨ c4.slots.size ≤ (0 : Int32).toNatClampNeg) ∧ c4.slots[(0 : Int32).toNatClampNeg]? = some (.int (62 : Int32))) (w5 : ¬ ((5 : Int32) < 0 ∨ cv.slots.size ≤ (5 : Int32).toNatClampNeg) ∧ cv.slots[(5 : Int32).toNatClampNeg]? = some (.ref b5)) (Fb5 : Fld Z h0 b5 "com/example/windrow/windrow/Condition$Comparison" "symbol" "Ljava/lang/String;" (.ref s5)) (Es5 : Exa Z h0 s5 "java/lang/String") (Fc5 : Fld Z h0 s5 "java/lang/String" "coder" "B" (.int (0 : Int32))) (Fv5 : Fld Z h0 s5 "java/lang/String" "value" "[B" (.ref v5)) (Av5 : Arr Z h0 v5 c5 .byte) (zv5 : c5.slots.size.toInt32 = (2 : Int32)) (uv5_0 : ¬ ((0 : Int32) < 0 ∨ c5.slots.size ≤ (0 : Int32).toNatClampNeg) ∧ c5.slots[(0 : Int32).toNatClampNeg]? = some (.int (62 : Int32))) (uv5_1 : ¬ ((1 : Int32) < 0 ∨ c5.slots.size ≤ (1 : Int32).toNatClampNeg) ∧ c5.slots[(1 : Int32).toNatClampNeg]? = some (.int (61 : Int32))) :
    MetFree l (⟨"com/example/windrow/windrow/Condition$Comparison", "of", "(Ljava/lang/String;)Lcom/example/windrow/windrow/Condition$Comparison;"⟩ : MethodName) (head1 (Jvm.Cond.code (⟨"com/example/windrow/windrow/Condition$Comparison", "of", "(Ljava/lang/String;)Lcom/example/windrow/windrow/Condition$Comparison;"⟩ : MethodName) prog_20_method_4_code 5 (some (.object "com/example/windrow/windrow/Condition$Comparison")) :: ws) ({ frames := 2, cells := 1, slots := 6, locals := 30 } : Room)) (fun az Uz => az = #[(.ref sb)] ∧ Z.Warmed39 Uz.vm ∧ Uz.heap = h0) (fun _ _ _ _ _ => True) (fun _ Uz oz Ut => ∃ vz Lz, oz = .returned vz ∧ Q_of0 Z sb vb cb zc av cv b0 b1 b2 b3 b4 b5 s0 s1 s2 s3 s4 s5 v0 v1 v2 v3 v4 v5 c0 c1 c2 c3 c4 c5 h0 n0 vz Ut.heap Lz ∧ FrameEnd Uz oz Ut Lz (({ frames := 2, cells := 1, slots := 6, locals := 30 } : Room)).cells (({ frames := 2, cells := 1, slots := 6, locals := 30 } : Room)).slots) := by
  refine MetFree.of_bodySF (plainFor_of_name pn3) hisR ?_
  intro p e s m args below meth c s₁ Bd hml0 hP hK
  obtain ⟨rfl, hZ, hh⟩ := hP
  have hx := Bd.exec
  have hby := Bd.bytes
  have hml : c.maxLocals = 5 := hml0
  have hown : s.vm.findClass "com/example/windrow/windrow/Condition$Comparison" = some m.cls := findClass_of_methodNamed Bd.named
  have hnm := (name_of_methodNamed Bd.named Bd.method).1
  have hlk : meth.locks = false := Bd.notSynchronized
  have X0 : Stand p l e ({ frames := 2, cells := 1, slots := 6, locals := 30 } : Room) s m #[(.ref sb)] below meth c s₁ [] 0 0 := Stand.of_body Bd
  have e0 : s₁.heap = h0 := by rw [← hh, Bd.state]; rfl
  have N0 := Fr.nil n0
  show EndsK p e below (OQ s (Q_of0 Z sb vb cb zc av cv b0 b1 b2 b3 b4 b5 s0 s1 s2 s3 s4 s5 v0 v1 v2 v3 v4 v5 c0 c1 c2 c3 c4 c5 h0 n0) (({ frames := 2, cells := 1, slots := 6, locals := 30 } : Room)).cells (({ frames := 2, cells := 1, slots := 6, locals := 30 } : Room)).slots) (s₁.setTop (entryFrame m #[(.ref sb)] 5))
  refine EndsK.start (ef_of0 m sb vb cb zc av cv b0 b1 b2 b3 b4 b5 s0 s1 s2 s3 s4 s5 v0 v1 v2 v3 v4 v5 c0 c1 c2 c3 c4 c5) ?_
  show EndsK p e below _ (s₁.setTop (mkF m 0 #[.val (.ref sb), .unset, .unset, .unset, .unset] []))
  obtain ⟨_, _, ⟨T1, L1, k1, n1⟩, -, X1, ⟨Lc1, hQ1, l1, y1, z1⟩, st1⟩ := Jvm.LawKit.callS X0 hx (y := (⟨"com/example/windrow/windrow/Condition$Comparison", "values", "()[Lcom/example/windrow/windrow/Condition$Comparison;"⟩ : MethodName)) hown (mvT hZ (hw _ (List.mem_of_getElem? (i := 30) rfl))) (mvT hZ (hw _ (List.mem_of_getElem? (i := 31) rfl))) (mvT hZ (hw _ (List.mem_of_getElem? (i := 28) rfl))) (mvT hZ (hw _ (List.mem_of_getElem? (i := 32) rfl))) (by decide) (backOf (W := 0) (rm_vals l Z a0 hw [] av cv h0 n0 Z0 SV AV EV FV hsz) hZ (hw _ (List.mem_of_getElem? (i := 32) rfl)) (hw _ (List.mem_of_getElem? (i := 28) rfl)) (by decide) (by decide)) (g := (mkF m 0 #[.val (.ref sb), .unset, .unset, .unset, .unset] [])) rfl (by rw [hml]; rfl) (argsL := []) (rest := []) (lenOf pd1 rfl) rfl (by show 2 * 0 + _ ≤ _; exact Nat.le_of_eq rfl) (hb hby d5_0) (fun _ _ => ⟨rfl, e0, (by decide : 0 + 1 ≤ _), (by decide : 0 + 6 ≤ _)⟩)
  dsimp only [Pt.U, Pt.locs, Pt.cells, Pt.slots] at X1 l1 y1 z1 st1 hQ1
  subst l1 y1 z1
  obtain ⟨bb, rfl, N1, E1, A1⟩ := hQ1
  have M1 := Fr.app N0 N1
  obtain ⟨h1, e1⟩ : ∃ z, T1.heap = z := ⟨_, rfl⟩
  rw [e1] at E1 A1
  have Z1 : n0 ≤ h1.size := Nat.le_trans Z0 E1.1
  have hs6 : (cloneOf cv).slots.size.toInt32 = (6 : Int32) := by show cv.slots.size.toInt32 = _; rw [hsz]; rfl
  refine EndsK.go st1 ?_
  show EndsK p e below _ (T1.setTop (mkF m 3 #[.val (.ref sb), .unset, .unset, .unset, .unset] [(.ref bb)]))
  refine EndsK.go (fun _ kz => XS.astoreN X1.here hx rfl (hb hby d5_3) rfl rfl (l' := #[.val (.ref sb), .val (.ref bb), .unset, .unset, .unset]) rfl kz) ?_
  show EndsK p e below _ (T1.setTop (mkF m 4 #[.val (.ref sb), .val (.ref bb), .unset, .unset, .unset] []))
  refine EndsK.go (fun _ kz => XS.aloadN X1.here hx rfl (hb hby d5_4) rfl rfl kz) ?_
  show EndsK p e below _ (T1.setTop (mkF m 5 #[.val (.ref sb), .val (.ref bb), .unset, .unset, .unset] [(.ref bb)]))
  refine EndsK.go (fun tz kz => X1.arraylength hx (by rw [e1]; exact A1.1) (State.isArrayOf_alike hZ.alike A1.2.1) (g := (mkF m 5 #[.val (.ref sb), .val (.ref bb), .unset, .unset, .unset] [(.ref bb)])) rfl rfl (hb hby d5_5) tz kz) ?_
  rw [hs6]
  show EndsK p e below _ (T1.setTop (mkF m 6 #[.val (.ref sb), .val (.ref bb), .unset, .unset, .unset] [(.int (6 : Int32))]))
  refine EndsK.go (fun _ kz => XS.istoreN X1.here hx rfl (hb hby d5_6) rfl (l' := #[.val (.ref sb), .val (.ref bb), .val (.int (6 : Int32)), .unset, .unset]) rfl kz) ?_
  show EndsK p e below _ (T1.setTop (mkF m 7 #[.val (.ref sb), .val (.ref bb), .val (.int (6 : Int32)), .unset, .unset] []))
  refine EndsK.go (fun _ kz => XS.iconst X1.here hx rfl (hb hby d5_7) kz) ?_
  show EndsK p e below _ (T1.setTop (mkF m 8 #[.val (.ref sb), .val (.ref bb), .val (.int (6 : Int32)), .unset, .unset] [(.int (0 : Int32))]))
  refine EndsK.go (fun _ kz => XS.istoreN X1.here hx rfl (hb hby d5_8) rfl (l' := #[.val (.ref sb), .val (.ref bb), .val (.int (6 : Int32)), .val (.int (0 : Int32)), .unset]) rfl kz) ?_
  show EndsK p e below _ (T1.setTop (mkF m 9 #[.val (.ref sb), .val (.ref bb), .val (.int (6 : Int32)), .val (.int (0 : Int32)), .unset] []))
  refine EndsK.go (fun _ kz => XS.iloadN X1.here hx rfl (hb hby d5_9) rfl kz) ?_
  show EndsK p e below _ (T1.setTop (mkF m 10 #[.val (.ref sb), .val (.ref bb), .val (.int (6 : Int32)), .val (.int (0 : Int32)), .unset] [(.int (0 : Int32))]))
  refine EndsK.go (fun _ kz => XS.iloadN X1.here hx rfl (hb hby d5_10) rfl kz) ?_
  show EndsK p e below _ (T1.setTop (mkF m 11 #[.val (.ref sb), .val (.ref bb), .val (.int (6 : Int32)), .val (.int (0 : Int32)), .unset] [(.int (6 : Int32)), (.int (0 : Int32))]))
  refine EndsK.go (fun _ kz => XS.icmpNo X1.here hx rfl (hb hby d5_11) rfl (tlt (by decide : (0 : Int32) < (6 : Int32))).2.1 kz) ?_
  show EndsK p e below _ (T1.setTop (mkF m 14 #[.val (.ref sb), .val (.ref bb), .val (.int (6 : Int32)), .val (.int (0 : Int32)), .unset] []))
  refine EndsK.go (fun _ kz => XS.aloadN X1.here hx rfl (hb hby d5_14) rfl rfl kz) ?_
  show EndsK p e below _ (T1.setTop (mkF m 15 #[.val (.ref sb), .val (.ref bb), .val (.int (6 : Int32)), .val (.int (0 : Int32)), .unset] [(.ref bb)]))
  refine EndsK.go (fun _ kz => XS.iloadN X1.here hx rfl (hb hby d5_15) rfl kz) ?_
  show EndsK p e below _ (T1.setTop (mkF m 16 #[.val (.ref sb), .val (.ref bb), .val (.int (6 : Int32)), .val (.int (0 : Int32)), .unset] [(.int (0 : Int32)), (.ref bb)]))
  refine EndsK.go (fun tz kz => X1.aaload hx (j := (0 : Int32)) (v := (.ref b0)) (by rw [e1]; exact A1.1) (State.isArrayOf_alike hZ.alike A1.2.1) rfl A1.2.2 w0.1 w0.2 (g := (mkF m 16 #[.val (.ref sb), .val (.ref bb), .val (.int (6 : Int32)), .val (.int (0 : Int32)), .unset] [(.int (0 : Int32)), (.ref bb)])) rfl rfl (hb hby d5_16) tz kz) ?_
  show EndsK p e below _ (T1.setTop (mkF m 17 #[.val (.ref sb), .val (.ref bb), .val (.int (6 : Int32)), .val (.int (0 : Int32)), .unset] [(.ref b0)]))
  refine EndsK.go (fun _ kz => XS.astore X1.here hx rfl (hb hby d5_17) rfl rfl (l' := #[.val (.ref sb), .val (.ref bb), .val (.int (6 : Int32)), .val (.int (0 : Int32)), .val (.ref b0)]) rfl kz) ?_
  show EndsK p e below _ (T1.setTop (mkF m 19 #[.val (.ref sb), .val (.ref bb), .val (.int (6 : Int32)), .val (.int (0 : Int32)), .val (.ref b0)] []))
  refine EndsK.go (fun _ kz => XS.aload X1.here hx rfl (hb hby d5_19) rfl rfl kz) ?_
  show EndsK p e below _ (T1.setTop (mkF m 21 #[.val (.ref sb), .val (.ref bb), .val (.int (6 : Int32)), .val (.int (0 : Int32)), .val (.ref b0)] [(.ref b0)]))
  obtain ⟨T2, X2, e2, st2⟩ := getF X1 hx hZ hown (host := "") (Or.inl (hw _ (List.mem_of_getElem? (i := 51) rfl))) Via.refl e1 (Fb0.ext E1) (g := (mkF m 21 #[.val (.ref sb), .val (.ref bb), .val (.int (6 : Int32)), .val (.int (0 : Int32)), .val (.ref b0)] [(.ref b0)])) rfl rfl (hb hby d5_21)
  refine EndsK.go st2 ?_
  show EndsK p e below _ (T2.setTop (mkF m 24 #[.val (.ref sb), .val (.ref bb), .val (.int (6 : Int32)), .val (.int (0 : Int32)), .val (.ref b0)] [(.ref s0)]))
  refine EndsK.go (fun _ kz => XS.aloadN X2.here hx rfl (hb hby d5_24) rfl rfl kz) ?_
  show EndsK p e below _ (T2.setTop (mkF m 25 #[.val (.ref sb), .val (.ref bb), .val (.int (6 : Int32)), .val (.int (0 : Int32)), .val (.ref b0)] [(.ref sb), (.ref s0)]))
  obtain ⟨cq3, kq3, qa3, qb3, qc3⟩ := isOf hZ e2 (Es0.ext E1)
  obtain ⟨_, _, ⟨T3, L3, k3, n3⟩, -, X3, ⟨Lc3, hQ3, l3, y3, z3⟩, st3⟩ := X2.virtualBack hx (y := (⟨"java/lang/String", "equals", "(Ljava/lang/Object;)Z"⟩ : MethodName)) (z := (⟨"java/lang/String", "equals", "(Ljava/lang/Object;)Z"⟩ : MethodName)) hown (mvT hZ (hw _ (List.mem_of_getElem? (i := 53) rfl))) (mvT hZ (hw _ (List.mem_of_getElem? (i := 54) rfl))) (notFace_of_selects (args := #[]) (mvT hZ (hw _ (List.mem_of_getElem? (i := 56) rfl)))) (mvT hZ (hw _ (List.mem_of_getElem? (i := 56) rfl))) (mvT hZ (hw _ (List.mem_of_getElem? (i := 55) rfl))) (by decide) (backOf (W := 0) (rm_seq10 l Z a0 hw [] s0 sb v0 vb c0 cb zc  h1 n0 Z1 (Es0.ext E1) (Fc0.ext E1) (Fv0.ext E1) hne0 (Et.ext E1) (Ftc.ext E1) (Ftv.ext E1) (SC.ext E1) hzc (Av0.ext E1) (Ab.ext E1) zv0 zb ) hZ (hw _ (List.mem_of_getElem? (i := 57) rfl)) (hw _ (List.mem_of_getElem? (i := 7) rfl)) (by decide) (by decide)) qa3 qc3 (g := (mkF m 25 #[.val (.ref sb), .val (.ref bb), .val (.int (6 : Int32)), .val (.int (0 : Int32)), .val (.ref b0)] [(.ref sb), (.ref s0)])) rfl (by rw [hml]; rfl) (Steps.refl _) (argsL := [(.ref sb)]) (rest := []) (lenOf pd2 rfl) rfl (by show 2 * 0 + _ ≤ _; exact Nat.le_of_eq rfl) (hb hby d5_25) (fun _ _ => ⟨rfl, e2, (by decide : 0 + 1 + 0 ≤ _), (by decide : 0 + 6 + 0 ≤ _)⟩)
  dsimp only [Pt.U, Pt.locs, Pt.cells, Pt.slots] at X3 l3 y3 z3 st3 hQ3
  subst l3 y3 z3
  obtain ⟨rfl, N3, e3⟩ := hQ3
  have M3 := Fr.app M1 N3
  refine EndsK.tr st3 ?_
  show EndsK p e below _ (T3.setTop (mkF m 28 #[.val (.ref sb), .val (.ref bb), .val (.int (6 : Int32)), .val (.int (0 : Int32)), .val (.ref b0)] [(.int (0 : Int32))]))
  refine EndsK.go (fun _ kz => XS.ifYes X3.here hx rfl (pc0 := 28) (pc' := 34) rfl (hb hby d5_28) rfl ((if0 _ _).trans (teq (rfl : (0 : Int32) = (0 : Int32))).1) (by decide) (by decide) kz) ?_
  show EndsK p e below _ (T3.setTop (mkF m 34 #[.val (.ref sb), .val (.ref bb), .val (.int (6 : Int32)), .val (.int (0 : Int32)), .val (.ref b0)] []))
  refine EndsK.go (fun _ kz => XS.iinc X3.here hx rfl (hb hby d5_34) rfl (l' := #[.val (.ref sb), .val (.ref bb), .val (.int (6 : Int32)), .val (.int (1 : Int32)), .val (.ref b0)]) rfl kz) ?_
  show EndsK p e below _ (T3.setTop (mkF m 37 #[.val (.ref sb), .val (.ref bb), .val (.int (6 : Int32)), .val (.int (1 : Int32)), .val (.ref b0)] []))
  refine EndsK.go (fun _ kz => XS.goto X3.here hx rfl (pc0 := 37) (pc' := 9) rfl (hb hby d5_37) (by decide) (by decide) kz) ?_
  show EndsK p e below _ (T3.setTop (mkF m 9 #[.val (.ref sb), .val (.ref bb), .val (.int (6 : Int32)), .val (.int (1 : Int32)), .val (.ref b0)] []))
  refine EndsK.go (fun _ kz => XS.iloadN X3.here hx rfl (hb hby d5_9) rfl kz) ?_
  show EndsK p e below _ (T3.setTop (mkF m 10 #[.val (.ref sb), .val (.ref bb), .val (.int (6 : Int32)), .val (.int (1 : Int32)), .val (.ref b0)] [(.int (1 : Int32))]))
  refine EndsK.go (fun _ kz => XS.iloadN X3.here hx rfl (hb hby d5_10) rfl kz) ?_
  show EndsK p e below _ (T3.setTop (mkF m 11 #[.val (.ref sb), .val (.ref bb), .val (.int (6 : Int32)), .val (.int (1 : Int32)), .val (.ref b0)] [(.int (6 : Int32)), (.int (1 : Int32))]))
  refine EndsK.go (fun _ kz => XS.icmpNo X3.here hx rfl (hb hby d5_11) rfl (tlt (by decide : (1 : Int32) < (6 : Int32))).2.1 kz) ?_
  show EndsK p e below _ (T3.setTop (mkF m 14 #[.val (.ref sb), .val (.ref bb), .val (.int (6 : Int32)), .val (.int (1 : Int32)), .val (.ref b0)] []))
  refine EndsK.go (fun _ kz => XS.aloadN X3.here hx rfl (hb hby d5_14) rfl rfl kz) ?_
  show EndsK p e below _ (T3.setTop (mkF m 15 #[.val (.ref sb), .val (.ref bb), .val (.int (6 : Int32)), .val (.int (1 : Int32)), .val (.ref b0)] [(.ref bb)]))
  refine EndsK.go (fun _ kz => XS.iloadN X3.here hx rfl (hb hby d5_15) rfl kz) ?_
  show EndsK p e below _ (T3.setTop (mkF m 16 #[.val (.ref sb), .val (.ref bb), .val (.int (6 : Int32)), .val (.int (1 : Int32)), .val (.ref b0)] [(.int (1 : Int32)), (.ref bb)]))
  refine EndsK.go (fun tz kz => X3.aaload hx (j := (1 : Int32)) (v := (.ref b1)) (by rw [e3]; exact A1.1) (State.isArrayOf_alike hZ.alike A1.2.1) rfl A1.2.2 w1.1 w1.2 (g := (mkF m 16 #[.val (.ref sb), .val (.ref bb), .val (.int (6 : Int32)), .val (.int (1 : Int32)), .val (.ref b0)] [(.int (1 : Int32)), (.ref bb)])) rfl rfl (hb hby d5_16) tz kz) ?_
  show EndsK p e below _ (T3.setTop (mkF m 17 #[.val (.ref sb), .val (.ref bb), .val (.int (6 : Int32)), .val (.int (1 : Int32)), .val (.ref b0)] [(.ref b1)]))
  refine EndsK.go (fun _ kz => XS.astore X3.here hx rfl (hb hby d5_17) rfl rfl (l' := #[.val (.ref sb), .val (.ref bb), .val (.int (6 : Int32)), .val (.int (1 : Int32)), .val (.ref b1)]) rfl kz) ?_
  show EndsK p e below _ (T3.setTop (mkF m 19 #[.val (.ref sb), .val (.ref bb), .val (.int (6 : Int32)), .val (.int (1 : Int32)), .val (.ref b1)] []))
  refine EndsK.go (fun _ kz => XS.aload X3.here hx rfl (hb hby d5_19) rfl rfl kz) ?_
  show EndsK p e below _ (T3.setTop (mkF m 21 #[.val (.ref sb), .val (.ref bb), .val (.int (6 : Int32)), .val (.int (1 : Int32)), .val (.ref b1)] [(.ref b1)]))
  obtain ⟨T4, X4, e4, st4⟩ := getF X3 hx hZ hown (host := "") (Or.inl (hw _ (List.mem_of_getElem? (i := 51) rfl))) Via.refl e3 (Fb1.ext E1) (g := (mkF m 21 #[.val (.ref sb), .val (.ref bb), .val (.int (6 : Int32)), .val (.int (1 : Int32)), .val (.ref b1)] [(.ref b1)])) rfl rfl (hb hby d5_21)
  refine EndsK.go st4 ?_
  show EndsK p e below _ (T4.setTop (mkF m 24 #[.val (.ref sb), .val (.ref bb), .val (.int (6 : Int32)), .val (.int (1 : Int32)), .val (.ref b1)] [(.ref s1)]))
  refine EndsK.go (fun _ kz => XS.aloadN X4.here hx rfl (hb hby d5_24) rfl rfl kz) ?_
  show EndsK p e below _ (T4.setTop (mkF m 25 #[.val (.ref sb), .val (.ref bb), .val (.int (6 : Int32)), .val (.int (1 : Int32)), .val (.ref b1)] [(.ref sb), (.ref s1)]))
  obtain ⟨cq5, kq5, qa5, qb5, qc5⟩ := isOf hZ e4 (Es1.ext E1)
  obtain ⟨_, _, ⟨T5, L5, k5, n5⟩, -, X5, ⟨Lc5, hQ5, l5, y5, z5⟩, st5⟩ := X4.virtualBack hx (y := (⟨"java/lang/String", "equals", "(Ljava/lang/Object;)Z"⟩ : MethodName)) (z := (⟨"java/lang/String", "equals", "(Ljava/lang/Object;)Z"⟩ : MethodName)) hown (mvT hZ (hw _ (List.mem_of_getElem? (i := 53) rfl))) (mvT hZ (hw _ (List.mem_of_getElem? (i := 54) rfl))) (notFace_of_selects (args := #[]) (mvT hZ (hw _ (List.mem_of_getElem? (i := 56) rfl)))) (mvT hZ (hw _ (List.mem_of_getElem? (i := 56) rfl))) (mvT hZ (hw _ (List.mem_of_getElem? (i := 55) rfl))) (by decide) (backOf (W := 0) (rm_seq20 l Z a0 hw [] s1 sb v1 vb c1 cb zc  h1 n0 Z1 (Es1.ext E1) (Fc1.ext E1) (Fv1.ext E1) hne1 (Et.ext E1) (Ftc.ext E1) (Ftv.ext E1) (SC.ext E1) hzc (Av1.ext E1) (Ab.ext E1) zv1 zb ) hZ (hw _ (List.mem_of_getElem? (i := 57) rfl)) (hw _ (List.mem_of_getElem? (i := 7) rfl)) (by decide) (by decide)) qa5 qc5 (g := (mkF m 25 #[.val (.ref sb), .val (.ref bb), .val (.int (6 : Int32)), .val (.int (1 : Int32)), .val (.ref b1)] [(.ref sb), (.ref s1)])) rfl (by rw [hml]; rfl) (Steps.refl _) (argsL := [(.ref sb)]) (rest := []) (lenOf pd2 rfl) rfl (by show 2 * 0 + _ ≤ _; exact Nat.le_of_eq rfl) (hb hby d5_25) (fun _ _ => ⟨rfl, e4, (by decide : 0 + 1 + 0 + 0 ≤ _), (by decide : 0 + 6 + 0 + 0 ≤ _)⟩)
  dsimp only [Pt.U, Pt.locs, Pt.cells, Pt.slots] at X5 l5 y5 z5 st5 hQ5
  subst l5 y5 z5
  obtain ⟨rfl, N5, e5⟩ := hQ5
  have M5 := Fr.app M3 N5
  refine EndsK.tr st5 ?_
  show EndsK p e below _ (T5.setTop (mkF m 28 #[.val (.ref sb), .val (.ref bb), .val (.int (6 : Int32)), .val (.int (1 : Int32)), .val (.ref b1)] [(.int (0 : Int32))]))
  refine EndsK.go (fun _ kz => XS.ifYes X5.here hx rfl (pc0 := 28) (pc' := 34) rfl (hb hby d5_28) rfl ((if0 _ _).trans (teq (rfl : (0 : Int32) = (0 : Int32))).1) (by decide) (by decide) kz) ?_
  show EndsK p e below _ (T5.setTop (mkF m 34 #[.val (.ref sb), .val (.ref bb), .val (.int (6 : Int32)), .val (.int (1 : Int32)), .val (.ref b1)] []))
  refine EndsK.go (fun _ kz => XS.iinc X5.here hx rfl (hb hby d5_34) rfl (l' := #[.val (.ref sb), .val (.ref bb), .val (.int (6 : Int32)), .val (.int (2 : Int32)), .val (.ref b1)]) rfl kz) ?_
  show EndsK p e below _ (T5.setTop (mkF m 37 #[.val (.ref sb), .val (.ref bb), .val (.int (6 : Int32)), .val (.int (2 : Int32)), .val (.ref b1)] []))
  refine EndsK.go (fun _ kz => XS.goto X5.here hx rfl (pc0 := 37) (pc' := 9) rfl (hb hby d5_37) (by decide) (by decide) kz) ?_
  show EndsK p e below _ (T5.setTop (mkF m 9 #[.val (.ref sb), .val (.ref bb), .val (.int (6 : Int32)), .val (.int (2 : Int32)), .val (.ref b1)] []))
  refine EndsK.go (fun _ kz => XS.iloadN X5.here hx rfl (hb hby d5_9) rfl kz) ?_
  show EndsK p e below _ (T5.setTop (mkF m 10 #[.val (.ref sb), .val (.ref bb), .val (.int (6 : Int32)), .val (.int (2 : Int32)), .val (.ref b1)] [(.int (2 : Int32))]))
  refine EndsK.go (fun _ kz => XS.iloadN X5.here hx rfl (hb hby d5_10) rfl kz) ?_
  show EndsK p e below _ (T5.setTop (mkF m 11 #[.val (.ref sb), .val (.ref bb), .val (.int (6 : Int32)), .val (.int (2 : Int32)), .val (.ref b1)] [(.int (6 : Int32)), (.int (2 : Int32))]))
  refine EndsK.go (fun _ kz => XS.icmpNo X5.here hx rfl (hb hby d5_11) rfl (tlt (by decide : (2 : Int32) < (6 : Int32))).2.1 kz) ?_
  show EndsK p e below _ (T5.setTop (mkF m 14 #[.val (.ref sb), .val (.ref bb), .val (.int (6 : Int32)), .val (.int (2 : Int32)), .val (.ref b1)] []))
  refine EndsK.go (fun _ kz => XS.aloadN X5.here hx rfl (hb hby d5_14) rfl rfl kz) ?_
  show EndsK p e below _ (T5.setTop (mkF m 15 #[.val (.ref sb), .val (.ref bb), .val (.int (6 : Int32)), .val (.int (2 : Int32)), .val (.ref b1)] [(.ref bb)]))
  refine EndsK.go (fun _ kz => XS.iloadN X5.here hx rfl (hb hby d5_15) rfl kz) ?_
  show EndsK p e below _ (T5.setTop (mkF m 16 #[.val (.ref sb), .val (.ref bb), .val (.int (6 : Int32)), .val (.int (2 : Int32)), .val (.ref b1)] [(.int (2 : Int32)), (.ref bb)]))
  refine EndsK.go (fun tz kz => X5.aaload hx (j := (2 : Int32)) (v := (.ref b2)) (by rw [e5]; exact A1.1) (State.isArrayOf_alike hZ.alike A1.2.1) rfl A1.2.2 w2.1 w2.2 (g := (mkF m 16 #[.val (.ref sb), .val (.ref bb), .val (.int (6 : Int32)), .val (.int (2 : Int32)), .val (.ref b1)] [(.int (2 : Int32)), (.ref bb)])) rfl rfl (hb hby d5_16) tz kz) ?_
  show EndsK p e below _ (T5.setTop (mkF m 17 #[.val (.ref sb), .val (.ref bb), .val (.int (6 : Int32)), .val (.int (2 : Int32)), .val (.ref b1)] [(.ref b2)]))
  refine EndsK.go (fun _ kz => XS.astore X5.here hx rfl (hb hby d5_17) rfl rfl (l' := #[.val (.ref sb), .val (.ref bb), .val (.int (6 : Int32)), .val (.int (2 : Int32)), .val (.ref b2)]) rfl kz) ?_
  show EndsK p e below _ (T5.setTop (mkF m 19 #[.val (.ref sb), .val (.ref bb), .val (.int (6 : Int32)), .val (.int (2 : Int32)), .val (.ref b2)] []))
  refine EndsK.go (fun _ kz => XS.aload X5.here hx rfl (hb hby d5_19) rfl rfl kz) ?_
  show EndsK p e below _ (T5.setTop (mkF m 21 #[.val (.ref sb), .val (.ref bb), .val (.int (6 : Int32)), .val (.int (2 : Int32)), .val (.ref b2)] [(.ref b2)]))
  obtain ⟨T6, X6, e6, st6⟩ := getF X5 hx hZ hown (host := "") (Or.inl (hw _ (List.mem_of_getElem? (i := 51) rfl))) Via.refl e5 (Fb2.ext E1) (g := (mkF m 21 #[.val (.ref sb), .val (.ref bb), .val (.int (6 : Int32)), .val (.int (2 : Int32)), .val (.ref b2)] [(.ref b2)])) rfl rfl (hb hby d5_21)
  refine EndsK.go st6 ?_
  show EndsK p e below _ (T6.setTop (mkF m 24 #[.val (.ref sb), .val (.ref bb), .val (.int (6 : Int32)), .val (.int (2 : Int32)), .val (.ref b2)] [(.ref s2)]))
  refine EndsK.go (fun _ kz => XS.aloadN X6.here hx rfl (hb hby d5_24) rfl rfl kz) ?_
  show EndsK p e below _ (T6.setTop (mkF m 25 #[.val (.ref sb), .val (.ref bb), .val (.int (6 : Int32)), .val (.int (2 : Int32)), .val (.ref b2)] [(.ref sb), (.ref s2)]))
  obtain ⟨cq7, kq7, qa7, qb7, qc7⟩ := isOf hZ e6 (Es2.ext E1)
  obtain ⟨_, _, ⟨T7, L7, k7, n7⟩, -, X7, ⟨Lc7, hQ7, l7, y7, z7⟩, st7⟩ := X6.virtualBack hx (y := (⟨"java/lang/String", "equals", "(Ljava/lang/Object;)Z"⟩ : MethodName)) (z := (⟨"java/lang/String", "equals", "(Ljava/lang/Object;)Z"⟩ : MethodName)) hown (mvT hZ (hw _ (List.mem_of_getElem? (i := 53) rfl))) (mvT hZ (hw _ (List.mem_of_getElem? (i := 54) rfl))) (notFace_of_selects (args := #[]) (mvT hZ (hw _ (List.mem_of_getElem? (i := 56) rfl)))) (mvT hZ (hw _ (List.mem_of_getElem? (i := 56) rfl))) (mvT hZ (hw _ (List.mem_of_getElem? (i := 55) rfl))) (by decide) (backOf (W := 0) (rm_seq10 l Z a0 hw [] s2 sb v2 vb c2 cb zc  h1 n0 Z1 (Es2.ext E1) (Fc2.ext E1) (Fv2.ext E1) hne2 (Et.ext E1) (Ftc.ext E1) (Ftv.ext E1) (SC.ext E1) hzc (Av2.ext E1) (Ab.ext E1) zv2 zb ) hZ (hw _ (List.mem_of_getElem? (i := 57) rfl)) (hw _ (List.mem_of_getElem? (i := 7) rfl)) (by decide) (by decide)) qa7 qc7 (g := (mkF m 25 #[.val (.ref sb), .val (.ref bb), .val (.int (6 : Int32)), .val (.int (2 : Int32)), .val (.ref b2)] [(.ref sb), (.ref s2)])) rfl (by rw [hml]; rfl) (Steps.refl _) (argsL := [(.ref sb)]) (rest := []) (lenOf pd2 rfl) rfl (by show 2 * 0 + _ ≤ _; exact Nat.le_of_eq rfl) (hb hby d5_25) (fun _ _ => ⟨rfl, e6, (by decide : 0 + 1 + 0 + 0 + 0 ≤ _), (by decide : 0 + 6 + 0 + 0 + 0 ≤ _)⟩)
  dsimp only [Pt.U, Pt.locs, Pt.cells, Pt.slots] at X7 l7 y7 z7 st7 hQ7
  subst l7 y7 z7
  obtain ⟨rfl, N7, e7⟩ := hQ7
  have M7 := Fr.app M5 N7
  refine EndsK.tr st7 ?_
  show EndsK p e below _ (T7.setTop (mkF m 28 #[.val (.ref sb), .val (.ref bb), .val (.int (6 : Int32)), .val (.int (2 : Int32)), .val (.ref b2)] [(.int (0 : Int32))]))
  refine EndsK.go (fun _ kz => XS.ifYes X7.here hx rfl (pc0 := 28) (pc' := 34) rfl (hb hby d5_28) rfl ((if0 _ _).trans (teq (rfl : (0 : Int32) = (0 : Int32))).1) (by decide) (by decide) kz) ?_
  show EndsK p e below _ (T7.setTop (mkF m 34 #[.val (.ref sb), .val (.ref bb), .val (.int (6 : Int32)), .val (.int (2 : Int32)), .val (.ref b2)] []))
  refine EndsK.go (fun _ kz => XS.iinc X7.here hx rfl (hb hby d5_34) rfl (l' := #[.val (.ref sb), .val (.ref bb), .val (.int (6 : Int32)), .val (.int (3 : Int32)), .val (.ref b2)]) rfl kz) ?_
  show EndsK p e below _ (T7.setTop (mkF m 37 #[.val (.ref sb), .val (.ref bb), .val (.int (6 : Int32)), .val (.int (3 : Int32)), .val (.ref b2)] []))
  refine EndsK.go (fun _ kz => XS.goto X7.here hx rfl (pc0 := 37) (pc' := 9) rfl (hb hby d5_37) (by decide) (by decide) kz) ?_
  show EndsK p e below _ (T7.setTop (mkF m 9 #[.val (.ref sb), .val (.ref bb), .val (.int (6 : Int32)), .val (.int (3 : Int32)), .val (.ref b2)] []))
  refine EndsK.go (fun _ kz => XS.iloadN X7.here hx rfl (hb hby d5_9) rfl kz) ?_
  show EndsK p e below _ (T7.setTop (mkF m 10 #[.val (.ref sb), .val (.ref bb), .val (.int (6 : Int32)), .val (.int (3 : Int32)), .val (.ref b2)] [(.int (3 : Int32))]))
  refine EndsK.go (fun _ kz => XS.iloadN X7.here hx rfl (hb hby d5_10) rfl kz) ?_
  show EndsK p e below _ (T7.setTop (mkF m 11 #[.val (.ref sb), .val (.ref bb), .val (.int (6 : Int32)), .val (.int (3 : Int32)), .val (.ref b2)] [(.int (6 : Int32)), (.int (3 : Int32))]))
  refine EndsK.go (fun _ kz => XS.icmpNo X7.here hx rfl (hb hby d5_11) rfl (tlt (by decide : (3 : Int32) < (6 : Int32))).2.1 kz) ?_
  show EndsK p e below _ (T7.setTop (mkF m 14 #[.val (.ref sb), .val (.ref bb), .val (.int (6 : Int32)), .val (.int (3 : Int32)), .val (.ref b2)] []))
  refine EndsK.go (fun _ kz => XS.aloadN X7.here hx rfl (hb hby d5_14) rfl rfl kz) ?_
  show EndsK p e below _ (T7.setTop (mkF m 15 #[.val (.ref sb), .val (.ref bb), .val (.int (6 : Int32)), .val (.int (3 : Int32)), .val (.ref b2)] [(.ref bb)]))
  refine EndsK.go (fun _ kz => XS.iloadN X7.here hx rfl (hb hby d5_15) rfl kz) ?_
  show EndsK p e below _ (T7.setTop (mkF m 16 #[.val (.ref sb), .val (.ref bb), .val (.int (6 : Int32)), .val (.int (3 : Int32)), .val (.ref b2)] [(.int (3 : Int32)), (.ref bb)]))
  refine EndsK.go (fun tz kz => X7.aaload hx (j := (3 : Int32)) (v := (.ref b3)) (by rw [e7]; exact A1.1) (State.isArrayOf_alike hZ.alike A1.2.1) rfl A1.2.2 w3.1 w3.2 (g := (mkF m 16 #[.val (.ref sb), .val (.ref bb), .val (.int (6 : Int32)), .val (.int (3 : Int32)), .val (.ref b2)] [(.int (3 : Int32)), (.ref bb)])) rfl rfl (hb hby d5_16) tz kz) ?_
  show EndsK p e below _ (T7.setTop (mkF m 17 #[.val (.ref sb), .val (.ref bb), .val (.int (6 : Int32)), .val (.int (3 : Int32)), .val (.ref b2)] [(.ref b3)]))
  refine EndsK.go (fun _ kz => XS.astore X7.here hx rfl (hb hby d5_17) rfl rfl (l' := #[.val (.ref sb), .val (.ref bb), .val (.int (6 : Int32)), .val (.int (3 : Int32)), .val (.ref b3)]) rfl kz) ?_
  show EndsK p e below _ (T7.setTop (mkF m 19 #[.val (.ref sb), .val (.ref bb), .val (.int (6 : Int32)), .val (.int (3 : Int32)), .val (.ref b3)] []))
  refine EndsK.go (fun _ kz => XS.aload X7.here hx rfl (hb hby d5_19) rfl rfl kz) ?_
  show EndsK p e below _ (T7.setTop (mkF m 21 #[.val (.ref sb), .val (.ref bb), .val (.int (6 : Int32)), .val (.int (3 : Int32)), .val (.ref b3)] [(.ref b3)]))
  obtain ⟨T8, X8, e8, st8⟩ := getF X7 hx hZ hown (host := "") (Or.inl (hw _ (List.mem_of_getElem? (i := 51) rfl))) Via.refl e7 (Fb3.ext E1) (g := (mkF m 21 #[.val (.ref sb), .val (.ref bb), .val (.int (6 : Int32)), .val (.int (3 : Int32)), .val (.ref b3)] [(.ref b3)])) rfl rfl (hb hby d5_21)
  refine EndsK.go st8 ?_
  show EndsK p e below _ (T8.setTop (mkF m 24 #[.val (.ref sb), .val (.ref bb), .val (.int (6 : Int32)), .val (.int (3 : Int32)), .val (.ref b3)] [(.ref s3)]))
  refine EndsK.go (fun _ kz => XS.aloadN X8.here hx rfl (hb hby d5_24) rfl rfl kz) ?_
  show EndsK p e below _ (T8.setTop (mkF m 25 #[.val (.ref sb), .val (.ref bb), .val (.int (6 : Int32)), .val (.int (3 : Int32)), .val (.ref b3)] [(.ref sb), (.ref s3)]))
  obtain ⟨cq9, kq9, qa9, qb9, qc9⟩ := isOf hZ e8 (Es3.ext E1)
  obtain ⟨_, _, ⟨T9, L9, k9, n9⟩, -, X9, ⟨Lc9, hQ9, l9, y9, z9⟩, st9⟩ := X8.virtualBack hx (y := (⟨"java/lang/String", "equals", "(Ljava/lang/Object;)Z"⟩ : MethodName)) (z := (⟨"java/lang/String", "equals", "(Ljava/lang/Object;)Z"⟩ : MethodName)) hown (mvT hZ (hw _ (List.mem_of_getElem? (i := 53) rfl))) (mvT hZ (hw _ (List.mem_of_getElem? (i := 54) rfl))) (notFace_of_selects (args := #[]) (mvT hZ (hw _ (List.mem_of_getElem? (i := 56) rfl)))) (mvT hZ (hw _ (List.mem_of_getElem? (i := 56) rfl))) (mvT hZ (hw _ (List.mem_of_getElem? (i := 55) rfl))) (by decide) (backOf (W := 0) (rm_seq20 l Z a0 hw [] s3 sb v3 vb c3 cb zc  h1 n0 Z1 (Es3.ext E1) (Fc3.ext E1) (Fv3.ext E1) hne3 (Et.ext E1) (Ftc.ext E1) (Ftv.ext E1) (SC.ext E1) hzc (Av3.ext E1) (Ab.ext E1) zv3 zb ) hZ (hw _ (List.mem_of_getElem? (i := 57) rfl)) (hw _ (List.mem_of_getElem? (i := 7) rfl)) (by decide) (by decide)) qa9 qc9 (g := (mkF m 25 #[.val (.ref sb), .val (.ref bb), .val (.int (6 : Int32)), .val (.int (3 : Int32)), .val (.ref b3)] [(.ref sb), (.ref s3)])) rfl (by rw [hml]; rfl) (Steps.refl _) (argsL := [(.ref sb)]) (rest := []) (lenOf pd2 rfl) rfl (by show 2 * 0 + _ ≤ _; exact Nat.le_of_eq rfl) (hb hby d5_25) (fun _ _ => ⟨rfl, e8, (by decide : 0 + 1 + 0 + 0 + 0 + 0 ≤ _), (by decide : 0 + 6 + 0 + 0 + 0 + 0 ≤ _)⟩)
  dsimp only [Pt.U, Pt.locs, Pt.cells, Pt.slots] at X9 l9 y9 z9 st9 hQ9
  subst l9 y9 z9
  obtain ⟨rfl, N9, e9⟩ := hQ9
  have M9 := Fr.app M7 N9
  refine EndsK.tr st9 ?_
  show EndsK p e below _ (T9.setTop (mkF m 28 #[.val (.ref sb), .val (.ref bb), .val (.int (6 : Int32)), .val (.int (3 : Int32)), .val (.ref b3)] [(.int (0 : Int32))]))
  refine EndsK.go (fun _ kz => XS.ifYes X9.here hx rfl (pc0 := 28) (pc' := 34) rfl (hb hby d5_28) rfl ((if0 _ _).trans (teq (rfl : (0 : Int32) = (0 : Int32))).1) (by decide) (by decide) kz) ?_
  show EndsK p e below _ (T9.setTop (mkF m 34 #[.val (.ref sb), .val (.ref bb), .val (.int (6 : Int32)), .val (.int (3 : Int32)), .val (.ref b3)] []))
  refine EndsK.go (fun _ kz => XS.iinc X9.here hx rfl (hb hby d5_34) rfl (l' := #[.val (.ref sb), .val (.ref bb), .val (.int (6 : Int32)), .val (.int (4 : Int32)), .val (.ref b3)]) rfl kz) ?_
  show EndsK p e below _ (T9.setTop (mkF m 37 #[.val (.ref sb), .val (.ref bb), .val (.int (6 : Int32)), .val (.int (4 : Int32)), .val (.ref b3)] []))
  refine EndsK.go (fun _ kz => XS.goto X9.here hx rfl (pc0 := 37) (pc' := 9) rfl (hb hby d5_37) (by decide) (by decide) kz) ?_
  show EndsK p e below _ (T9.setTop (mkF m 9 #[.val (.ref sb), .val (.ref bb), .val (.int (6 : Int32)), .val (.int (4 : Int32)), .val (.ref b3)] []))
  refine EndsK.go (fun _ kz => XS.iloadN X9.here hx rfl (hb hby d5_9) rfl kz) ?_
  show EndsK p e below _ (T9.setTop (mkF m 10 #[.val (.ref sb), .val (.ref bb), .val (.int (6 : Int32)), .val (.int (4 : Int32)), .val (.ref b3)] [(.int (4 : Int32))]))
  refine EndsK.go (fun _ kz => XS.iloadN X9.here hx rfl (hb hby d5_10) rfl kz) ?_
  show EndsK p e below _ (T9.setTop (mkF m 11 #[.val (.ref sb), .val (.ref bb), .val (.int (6 : Int32)), .val (.int (4 : Int32)), .val (.ref b3)] [(.int (6 : Int32)), (.int (4 : Int32))]))
  refine EndsK.go (fun _ kz => XS.icmpNo X9.here hx rfl (hb hby d5_11) rfl (tlt (by decide : (4 : Int32) < (6 : Int32))).2.1 kz) ?_
  show EndsK p e below _ (T9.setTop (mkF m 14 #[.val (.ref sb), .val (.ref bb), .val (.int (6 : Int32)), .val (.int (4 : Int32)), .val (.ref b3)] []))
  refine EndsK.go (fun _ kz => XS.aloadN X9.here hx rfl (hb hby d5_14) rfl rfl kz) ?_
  show EndsK p e below _ (T9.setTop (mkF m 15 #[.val (.ref sb), .val (.ref bb), .val (.int (6 : Int32)), .val (.int (4 : Int32)), .val (.ref b3)] [(.ref bb)]))
  refine EndsK.go (fun _ kz => XS.iloadN X9.here hx rfl (hb hby d5_15) rfl kz) ?_
  show EndsK p e below _ (T9.setTop (mkF m 16 #[.val (.ref sb), .val (.ref bb), .val (.int (6 : Int32)), .val (.int (4 : Int32)), .val (.ref b3)] [(.int (4 : Int32)), (.ref bb)]))
  refine EndsK.go (fun tz kz => X9.aaload hx (j := (4 : Int32)) (v := (.ref b4)) (by rw [e9]; exact A1.1) (State.isArrayOf_alike hZ.alike A1.2.1) rfl A1.2.2 w4.1 w4.2 (g := (mkF m 16 #[.val (.ref sb), .val (.ref bb), .val (.int (6 : Int32)), .val (.int (4 : Int32)), .val (.ref b3)] [(.int (4 : Int32)), (.ref bb)])) rfl rfl (hb hby d5_16) tz kz) ?_
  show EndsK p e below _ (T9.setTop (mkF m 17 #[.val (.ref sb), .val (.ref bb), .val (.int (6 : Int32)), .val (.int (4 : Int32)), .val (.ref b3)] [(.ref b4)]))
  refine EndsK.go (fun _ kz => XS.astore X9.here hx rfl (hb hby d5_17) rfl rfl (l' := #[.val (.ref sb), .val (.ref bb), .val (.int (6 : Int32)), .val (.int (4 : Int32)), .val (.ref b4)]) rfl kz) ?_
  show EndsK p e below _ (T9.setTop (mkF m 19 #[.val (.ref sb), .val (.ref bb), .val (.int (6 : Int32)), .val (.int (4 : Int32)), .val (.ref b4)] []))
  refine EndsK.go (fun _ kz => XS.aload X9.here hx rfl (hb hby d5_19) rfl rfl kz) ?_
  show EndsK p e below _ (T9.setTop (mkF m 21 #[.val (.ref sb), .val (.ref bb), .val (.int (6 : Int32)), .val (.int (4 : Int32)), .val (.ref b4)] [(.ref b4)]))
  obtain ⟨T10, X10, e10, st10⟩ := getF X9 hx hZ hown (host := "") (Or.inl (hw _ (List.mem_of_getElem? (i := 51) rfl))) Via.refl e9 (Fb4.ext E1) (g := (mkF m 21 #[.val (.ref sb), .val (.ref bb), .val (.int (6 : Int32)), .val (.int (4 : Int32)), .val (.ref b4)] [(.ref b4)])) rfl rfl (hb hby d5_21)
  refine EndsK.go st10 ?_
  show EndsK p e below _ (T10.setTop (mkF m 24 #[.val (.ref sb), .val (.ref bb), .val (.int (6 : Int32)), .val (.int (4 : Int32)), .val (.ref b4)] [(.ref s4)]))
  refine EndsK.go (fun _ kz => XS.aloadN X10.here hx rfl (hb hby d5_24) rfl rfl kz) ?_
  show EndsK p e below _ (T10.setTop (mkF m 25 #[.val (.ref sb), .val (.ref bb), .val (.int (6 : Int32)), .val (.int (4 : Int32)), .val (.ref b4)] [(.ref sb), (.ref s4)]))
  obtain ⟨cq11, kq11, qa11, qb11, qc11⟩ := isOf hZ e10 (Es4.ext E1)
  obtain ⟨_, _, ⟨T11, L11, k11, n11⟩, -, X11, ⟨Lc11, hQ11, l11, y11, z11⟩, st11⟩ := X10.virtualBack hx (y := (⟨"java/lang/String", "equals", "(Ljava/lang/Object;)Z"⟩ : MethodName)) (z := (⟨"java/lang/String", "equals", "(Ljava/lang/Object;)Z"⟩ : MethodName)) hown (mvT hZ (hw _ (List.mem_of_getElem? (i := 53) rfl))) (mvT hZ (hw _ (List.mem_of_getElem? (i := 54) rfl))) (notFace_of_selects (args := #[]) (mvT hZ (hw _ (List.mem_of_getElem? (i := 56) rfl)))) (mvT hZ (hw _ (List.mem_of_getElem? (i := 56) rfl))) (mvT hZ (hw _ (List.mem_of_getElem? (i := 55) rfl))) (by decide) (backOf (W := 0) (rm_seq10 l Z a0 hw [] s4 sb v4 vb c4 cb zc  h1 n0 Z1 (Es4.ext E1) (Fc4.ext E1) (Fv4.ext E1) hne4 (Et.ext E1) (Ftc.ext E1) (Ftv.ext E1) (SC.ext E1) hzc (Av4.ext E1) (Ab.ext E1) zv4 zb ) hZ (hw _ (List.mem_of_getElem? (i := 57) rfl)) (hw _ (List.mem_of_getElem? (i := 7) rfl)) (by decide) (by decide)) qa11 qc11 (g := (mkF m 25 #[.val (.ref sb), .val (.ref bb), .val (.int (6 : Int32)), .val (.int (4 : Int32)), .val (.ref b4)] [(.ref sb), (.ref s4)])) rfl (by rw [hml]; rfl) (Steps.refl _) (argsL := [(.ref sb)]) (rest := []) (lenOf pd2 rfl) rfl (by show 2 * 0 + _ ≤ _; exact Nat.le_of_eq rfl) (hb hby d5_25) (fun _ _ => ⟨rfl, e10, (by decide : 0 + 1 + 0 + 0 + 0 + 0 + 0 ≤ _), (by decide : 0 + 6 + 0 + 0 + 0 + 0 + 0 ≤ _)⟩)
  dsimp only [Pt.U, Pt.locs, Pt.cells, Pt.slots] at X11 l11 y11 z11 st11 hQ11
  subst l11 y11 z11
  obtain ⟨rfl, N11, e11⟩ := hQ11
  have M11 := Fr.app M9 N11
  refine EndsK.tr st11 ?_
  show EndsK p e below _ (T11.setTop (mkF m 28 #[.val (.ref sb), .val (.ref bb), .val (.int (6 : Int32)), .val (.int (4 : Int32)), .val (.ref b4)] [(.int (0 : Int32))]))
  refine EndsK.go (fun _ kz => XS.ifYes X11.here hx rfl (pc0 := 28) (pc' := 34) rfl (hb hby d5_28) rfl ((if0 _ _).trans (teq (rfl : (0 : Int32) = (0 : Int32))).1) (by decide) (by decide) kz) ?_
  show EndsK p e below _ (T11.setTop (mkF m 34 #[.val (.ref sb), .val (.ref bb), .val (.int (6 : Int32)), .val (.int (4 : Int32)), .val (.ref b4)] []))
  refine EndsK.go (fun _ kz => XS.iinc X11.here hx rfl (hb hby d5_34) rfl (l' := #[.val (.ref sb), .val (.ref bb), .val (.int (6 : Int32)), .val (.int (5 : Int32)), .val (.ref b4)]) rfl kz) ?_
  show EndsK p e below _ (T11.setTop (mkF m 37 #[.val (.ref sb), .val (.ref bb), .val (.int (6 : Int32)), .val (.int (5 : Int32)), .val (.ref b4)] []))
  refine EndsK.go (fun _ kz => XS.goto X11.here hx rfl (pc0 := 37) (pc' := 9) rfl (hb hby d5_37) (by decide) (by decide) kz) ?_
  show EndsK p e below _ (T11.setTop (mkF m 9 #[.val (.ref sb), .val (.ref bb), .val (.int (6 : Int32)), .val (.int (5 : Int32)), .val (.ref b4)] []))
  refine EndsK.go (fun _ kz => XS.iloadN X11.here hx rfl (hb hby d5_9) rfl kz) ?_
  show EndsK p e below _ (T11.setTop (mkF m 10 #[.val (.ref sb), .val (.ref bb), .val (.int (6 : Int32)), .val (.int (5 : Int32)), .val (.ref b4)] [(.int (5 : Int32))]))
  refine EndsK.go (fun _ kz => XS.iloadN X11.here hx rfl (hb hby d5_10) rfl kz) ?_
  show EndsK p e below _ (T11.setTop (mkF m 11 #[.val (.ref sb), .val (.ref bb), .val (.int (6 : Int32)), .val (.int (5 : Int32)), .val (.ref b4)] [(.int (6 : Int32)), (.int (5 : Int32))]))
  refine EndsK.go (fun _ kz => XS.icmpNo X11.here hx rfl (hb hby d5_11) rfl (tlt (by decide : (5 : Int32) < (6 : Int32))).2.1 kz) ?_
  show EndsK p e below _ (T11.setTop (mkF m 14 #[.val (.ref sb), .val (.ref bb), .val (.int (6 : Int32)), .val (.int (5 : Int32)), .val (.ref b4)] []))
  refine EndsK.go (fun _ kz => XS.aloadN X11.here hx rfl (hb hby d5_14) rfl rfl kz) ?_
  show EndsK p e below _ (T11.setTop (mkF m 15 #[.val (.ref sb), .val (.ref bb), .val (.int (6 : Int32)), .val (.int (5 : Int32)), .val (.ref b4)] [(.ref bb)]))
  refine EndsK.go (fun _ kz => XS.iloadN X11.here hx rfl (hb hby d5_15) rfl kz) ?_
  show EndsK p e below _ (T11.setTop (mkF m 16 #[.val (.ref sb), .val (.ref bb), .val (.int (6 : Int32)), .val (.int (5 : Int32)), .val (.ref b4)] [(.int (5 : Int32)), (.ref bb)]))
  refine EndsK.go (fun tz kz => X11.aaload hx (j := (5 : Int32)) (v := (.ref b5)) (by rw [e11]; exact A1.1) (State.isArrayOf_alike hZ.alike A1.2.1) rfl A1.2.2 w5.1 w5.2 (g := (mkF m 16 #[.val (.ref sb), .val (.ref bb), .val (.int (6 : Int32)), .val (.int (5 : Int32)), .val (.ref b4)] [(.int (5 : Int32)), (.ref bb)])) rfl rfl (hb hby d5_16) tz kz) ?_
  show EndsK p e below _ (T11.setTop (mkF m 17 #[.val (.ref sb), .val (.ref bb), .val (.int (6 : Int32)), .val (.int (5 : Int32)), .val (.ref b4)] [(.ref b5)]))
  refine EndsK.go (fun _ kz => XS.astore X11.here hx rfl (hb hby d5_17) rfl rfl (l' := #[.val (.ref sb), .val (.ref bb), .val (.int (6 : Int32)), .val (.int (5 : Int32)), .val (.ref b5)]) rfl kz) ?_
  show EndsK p e below _ (T11.setTop (mkF m 19 #[.val (.ref sb), .val (.ref bb), .val (.int (6 : Int32)), .val (.int (5 : Int32)), .val (.ref b5)] []))
  refine EndsK.go (fun _ kz => XS.aload X11.here hx rfl (hb hby d5_19) rfl rfl kz) ?_
  show EndsK p e below _ (T11.setTop (mkF m 21 #[.val (.ref sb), .val (.ref bb), .val (.int (6 : Int32)), .val (.int (5 : Int32)), .val (.ref b5)] [(.ref b5)]))
  obtain ⟨T12, X12, e12, st12⟩ := getF X11 hx hZ hown (host := "") (Or.inl (hw _ (List.mem_of_getElem? (i := 51) rfl))) Via.refl e11 (Fb5.ext E1) (g := (mkF m 21 #[.val (.ref sb), .val (.ref bb), .val (.int (6 : Int32)), .val (.int (5 : Int32)), .val (.ref b5)] [(.ref b5)])) rfl rfl (hb hby d5_21)
  refine EndsK.go st12 ?_
  show EndsK p e below _ (T12.setTop (mkF m 24 #[.val (.ref sb), .val (.ref bb), .val (.int (6 : Int32)), .val (.int (5 : Int32)), .val (.ref b5)] [(.ref s5)]))
  refine EndsK.go (fun _ kz => XS.aloadN X12.here hx rfl (hb hby d5_24) rfl rfl kz) ?_
  show EndsK p e below _ (T12.setTop (mkF m 25 #[.val (.ref sb), .val (.ref bb), .val (.int (6 : Int32)), .val (.int (5 : Int32)), .val (.ref b5)] [(.ref sb), (.ref s5)]))
  obtain ⟨cq13, kq13, qa13, qb13, qc13⟩ := isOf hZ e12 (Es5.ext E1)
  obtain ⟨_, _, ⟨T13, L13, k13, n13⟩, -, X13, ⟨Lc13, hQ13, l13, y13, z13⟩, st13⟩ := X12.virtualBack hx (y := (⟨"java/lang/String", "equals", "(Ljava/lang/Object;)Z"⟩ : MethodName)) (z := (⟨"java/lang/String", "equals", "(Ljava/lang/Object;)Z"⟩ : MethodName)) hown (mvT hZ (hw _ (List.mem_of_getElem? (i := 53) rfl))) (mvT hZ (hw _ (List.mem_of_getElem? (i := 54) rfl))) (notFace_of_selects (args := #[]) (mvT hZ (hw _ (List.mem_of_getElem? (i := 56) rfl)))) (mvT hZ (hw _ (List.mem_of_getElem? (i := 56) rfl))) (mvT hZ (hw _ (List.mem_of_getElem? (i := 55) rfl))) (by decide) (backOf (W := 0) (rm_seq20 l Z a0 hw [] s5 sb v5 vb c5 cb zc  h1 n0 Z1 (Es5.ext E1) (Fc5.ext E1) (Fv5.ext E1) hne5 (Et.ext E1) (Ftc.ext E1) (Ftv.ext E1) (SC.ext E1) hzc (Av5.ext E1) (Ab.ext E1) zv5 zb ) hZ (hw _ (List.mem_of_getElem? (i := 57) rfl)) (hw _ (List.mem_of_getElem? (i := 7) rfl)) (by decide) (by decide)) qa13 qc13 (g := (mkF m 25 #[.val (.ref sb), .val (.ref bb), .val (.int (6 : Int32)), .val (.int (5 : Int32)), .val (.ref b5)] [(.ref sb), (.ref s5)])) rfl (by rw [hml]; rfl) (Steps.refl _) (argsL := [(.ref sb)]) (rest := []) (lenOf pd2 rfl) rfl (by show 2 * 0 + _ ≤ _; exact Nat.le_of_eq rfl) (hb hby d5_25) (fun _ _ => ⟨rfl, e12, (by decide : 0 + 1 + 0 + 0 + 0 + 0 + 0 + 0 ≤ _), (by decide : 0 + 6 + 0 + 0 + 0 + 0 + 0 + 0 ≤ _)⟩)
  dsimp only [Pt.U, Pt.locs, Pt.cells, Pt.slots] at X13 l13 y13 z13 st13 hQ13
  subst l13 y13 z13
  obtain ⟨rfl, N13, e13⟩ := hQ13
  have M13 := Fr.app M11 N13
  refine EndsK.tr st13 ?_
  show EndsK p e below _ (T13.setTop (mkF m 28 #[.val (.ref sb), .val (.ref bb), .val (.int (6 : Int32)), .val (.int (5 : Int32)), .val (.ref b5)] [(.int (0 : Int32))]))
  refine EndsK.go (fun _ kz => XS.ifYes X13.here hx rfl (pc0 := 28) (pc' := 34) rfl (hb hby d5_28) rfl ((if0 _ _).trans (teq (rfl : (0 : Int32) = (0 : Int32))).1) (by decide) (by decide) kz) ?_
  show EndsK p e below _ (T13.setTop (mkF m 34 #[.val (.ref sb), .val (.ref bb), .val (.int (6 : Int32)), .val (.int (5 : Int32)), .val (.ref b5)] []))
  refine EndsK.go (fun _ kz => XS.iinc X13.here hx rfl (hb hby d5_34) rfl (l' := #[.val (.ref sb), .val (.ref bb), .val (.int (6 : Int32)), .val (.int (6 : Int32)), .val (.ref b5)]) rfl kz) ?_
  show EndsK p e below _ (T13.setTop (mkF m 37 #[.val (.ref sb), .val (.ref bb), .val (.int (6 : Int32)), .val (.int (6 : Int32)), .val (.ref b5)] []))
  refine EndsK.go (fun _ kz => XS.goto X13.here hx rfl (pc0 := 37) (pc' := 9) rfl (hb hby d5_37) (by decide) (by decide) kz) ?_
  show EndsK p e below _ (T13.setTop (mkF m 9 #[.val (.ref sb), .val (.ref bb), .val (.int (6 : Int32)), .val (.int (6 : Int32)), .val (.ref b5)] []))
  refine EndsK.go (fun _ kz => XS.iloadN X13.here hx rfl (hb hby d5_9) rfl kz) ?_
  show EndsK p e below _ (T13.setTop (mkF m 10 #[.val (.ref sb), .val (.ref bb), .val (.int (6 : Int32)), .val (.int (6 : Int32)), .val (.ref b5)] [(.int (6 : Int32))]))
  refine EndsK.go (fun _ kz => XS.iloadN X13.here hx rfl (hb hby d5_10) rfl kz) ?_
  show EndsK p e below _ (T13.setTop (mkF m 11 #[.val (.ref sb), .val (.ref bb), .val (.int (6 : Int32)), .val (.int (6 : Int32)), .val (.ref b5)] [(.int (6 : Int32)), (.int (6 : Int32))]))
  refine EndsK.go (fun _ kz => XS.icmpYes X13.here hx rfl (pc0 := 11) (pc' := 40) rfl (hb hby d5_11) rfl (flt (by decide : ¬ ((6 : Int32) < (6 : Int32)))).2.1 (by decide) (by decide) kz) ?_
  show EndsK p e below _ (T13.setTop (mkF m 40 #[.val (.ref sb), .val (.ref bb), .val (.int (6 : Int32)), .val (.int (6 : Int32)), .val (.ref b5)] []))
  refine EndsK.go (fun _ kz => XS.aconstNull X13.here hx rfl (hb hby d5_40) kz) ?_
  show EndsK p e below _ (T13.setTop (mkF m 41 #[.val (.ref sb), .val (.ref bb), .val (.int (6 : Int32)), .val (.int (6 : Int32)), .val (.ref b5)] [.null]))
  exact endR X13 hx Bd.returns rfl rfl (hb hby d5_41) hlk ⟨(congrArg some (by simp [ofL] : ofL [((0 : Int32), .ref b0), ((0 : Int32), .ref b1), ((0 : Int32), .ref b2), ((0 : Int32), .ref b3), ((0 : Int32), .ref b4), ((0 : Int32), .ref b5)] = .null)).symm, M13, by rw [e13]; exact E1⟩ (by decide) (by decide)
theorem ef_of1 (m : MethodId) (sb : Addr) (vb : Addr) (cb : Cell) (zc : Int32) (q0 : Int32) (av : Addr) (cv : Cell) (b0 : Addr) (b1 : Addr) (b2 : Addr) (b3 : Addr) (b4 : Addr) (b5 : Addr) (s0 : Addr) (s1 : Addr) (s2 : Addr) (s3 : Addr) (s4 : Addr) (s5 : Addr) (v0 : Addr) (v1 : Addr) (v2 : Addr) (v3 : Addr) (v4 : Addr) (v5 : Addr) (c0 : Cell) (c1 : Cell) (c2 : Cell) (c3 : Cell) (c4 : Cell) (c5 : Cell) : entryFrame m #[(.ref sb)] 5 = mkF m 0 #[.val (.ref sb), .unset, .unset, .unset, .unset] [] := by first | (simp [entryFrame, mkF, argsToLocals, Value.category]; done) | rfl
def Q_of1 (Z : State) (sb : Addr) (vb : Addr) (cb : Cell) (zc : Int32) (q0 : Int32) (av : Addr) (cv : Cell) (b0 : Addr) (b1 : Addr) (b2 : Addr) (b3 : Addr) (b4 : Addr) (b5 : Addr) (s0 : Addr) (s1 : Addr) (s2 : Addr) (s3 : Addr) (s4 : Addr) (s5 : Addr) (v0 : Addr) (v1 : Addr) (v2 : Addr) (v3 : Addr) (v4 : Addr) (v5 : Addr) (c0 : Cell) (c1 : Cell) (c2 : Cell) (c3 : Cell) (c4 : Cell) (c5 : Cell) (h0 : Heap) (n0 : Nat) (vz : Option Value) (hz : Heap) (Lz : List Loc) : Prop := vz = some (ofL [((lf1 (61 : Int32) q0), .ref b0), ((0 : Int32), .ref b1), ((lf1 (60 : Int32) q0), .ref b2), ((0 : Int32), .ref b3), ((lf1 (62 : Int32) q0), .ref b4), ((0 : Int32), .ref b5)]) ∧ Fr n0 Lz ∧ Ext h0 hz
set_option maxRecDepth 65536 in
set_option maxHeartbeats 40000000 in
theorem rm_of1 (l : Launch) (Z : State) (a0 : Array Value) (hw : ∀ d ∈ tables_1, d.before a0 Z = true) (ws : List Jvm.Cond) (sb : Addr) (vb : Addr) (cb : Cell) (zc : Int32) (q0 : Int32) (av : Addr) (cv : Cell) (b0 : Addr) (b1 : Addr) (b2 : Addr) (b3 : Addr) (b4 : Addr) (b5 : Addr) (s0 : Addr) (s1 : Addr) (s2 : Addr) (s3 : Addr) (s4 : Addr) (s5 : Addr) (v0 : Addr) (v1 : Addr) (v2 : Addr) (v3 : Addr) (v4 : Addr) (v5 : Addr) (c0 : Cell) (c1 : Cell) (c2 : Cell) (c3 : Cell) (c4 : Cell) (c5 : Cell) (h0 : Heap) (n0 : Nat) (Z0 : n0 ≤ h0.size) (hne0 : ¬ s0 = sb) (hne1 : ¬ s1 = sb) (hne2 : ¬ s2 = sb) (hne3 : ¬ s3 = sb) (hne4 : ¬ s4 = sb) (hne5 : ¬ s5 = sb) (Et : Exa Z h0 sb "java/lang/String") (Ftc : Fld Z h0 sb "java/lang/String" "coder" "B" (.int (0 : Int32))) (Ftv : Fld Z h0 sb "java/lang/String" "value" "[B" (.ref vb)) (SC : Sta Z h0 "java/lang/String" "COMPACT_STRINGS" "Z" (.int zc)) (hzc : ¬ (zc = (0 : Int32))) (Ab : Arr Z h0 vb cb .byte) (zb : cb.slots.size.toInt32 = (1 : Int32)) (ub0 : ¬ ((0 : Int32) < 0 ∨ cb.slots.size ≤ (0 : Int32).toNatClampNeg) ∧ cb.slots[(0 : Int32).toNatClampNeg]? = some (.int q0)) (SV : Sta Z h0 "com/example/windrow/windrow/Condition$Comparison" "$VALUES" "[Lcom/example/windrow/windrow/Condition$Comparison;" (.ref av)) (AV : Arr Z h0 av cv (.object "com/example/windrow/windrow/Condition$Comparison")) (EV : Exa Z h0 av "[Lcom/example/windrow/windrow/Condition$Comparison;") (FV : FitC Z cv) (hsz : cv.slots.size = 6) (w0 : ¬ ((0 : Int32) < 0 ∨ cv.slots.size ≤ (0 : Int32).toNatClampNeg) ∧ cv.slots[(0 : Int32).toNatClampNeg]? = some (.ref b0)) (Fb0 : Fld Z h0 b0 "com/example/windrow/windrow/Condition$Comparison" "symbol" "Ljava/lang/String;" (.ref s0)) (Es0 : Exa Z h0 s0 "java/lang/String") (Fc0 : Fld Z h0 s0 "java/lang/String" "coder" "B" (.int (0 : Int32))) (Fv0 : Fld Z h0 s0 "java/lang/String" "value" "[B" (.ref v0)) (Av0 : Arr Z h0 v0 c0 .byte) (zv0 : c0.slots.size.toInt32 = (1 : Int32)) (uv0_0 : ¬ ((0 : Int32) < 0 ∨ c0.slots.size ≤ (0 : Int32).toNatClampNeg) ∧ c0.slots[(0 : Int32).toNatClampNeg]? = some (.int (61 : Int32))) (w1 : ¬ ((1 : Int32) < 0 ∨ cv.slots.size ≤ (1 : Int32).toNatClampNeg) ∧ cv.slots[(1 : Int32).toNatClampNeg]? = some (.ref b1)) (Fb1 : Fld Z h0 b1 "com/example/windrow/windrow/Condition$Comparison" "symbol" "Ljava/lang/String;" (.ref s1)) (Es1 : Exa Z h0 s1 "java/lang/String") (Fc1 : Fld Z h0 s1 "java/lang/String" "coder" "B" (.int (0 : Int32))) (Fv1 : Fld Z h0 s1 "java/lang/String" "value" "[B" (.ref v1)) (Av1 : Arr Z h0 v1 c1 .byte) (zv1 : c1.slots.size.toInt32 = (2 : Int32)) (uv1_0 : ¬ ((0 : Int32) < 0 ∨ c1.slots.size ≤ (0 : Int32).toNatClampNeg) ∧ c1.slots[(0 : Int32).toNatClampNeg]? = some (.int (33 : Int32))) (uv1_1 : ¬ ((1 : Int32) < 0 ∨ c1.slots.size ≤ (1 : Int32).toNatClampNeg) ∧ c1.slots[(1 : Int32).toNatClampNeg]? = some (.int (61 : Int32))) (w2 : ¬ ((2 : Int32) < 0 ∨ cv.slots.size ≤ (2 : Int32).toNatClampNeg) ∧ cv.slots[(2 : Int32).toNatClampNeg]? = some (.ref b2)) (Fb2 : Fld Z h0 b2 "com/example/windrow/windrow/Condition$Comparison" "symbol" "Ljava/lang/String;" (.ref s2)) (Es2 : Exa Z h0 s2 "java/lang/String") (Fc2 : Fld Z h0 s2 "java/lang/String" "coder" "B" (.int (0 : Int32))) (Fv2 : Fld Z h0 s2 "java/lang/String" "value" "[B" (.ref v2)) (Av2 : Arr Z h0 v2 c2 .byte) (zv2 : c2.slots.size.toInt32 = (1 : Int32)) (uv2_0 : ¬ ((0 : Int32) < 0 ∨ c2.slots.size ≤ (0 : Int32).toNatClampNeg) ∧ c2.slots[(0 : Int32).toNatClampNeg]? = some (.int (60 : Int32))) (w3 : ¬ ((3 : Int32) < 0 ∨ cv.slots.size ≤ (3 : Int32).toNatClampNeg) ∧ cv.slots[(3 : Int32).toNatClampNeg]? = some (.ref b3)) (Fb3 : Fld Z h0 b3 "com/example/windrow/windrow/Condition$Comparison" "symbol" "Ljava/lang/String;" (.ref s3)) (Es3 : Exa Z h0 s3 "java/lang/String") (Fc3 : Fld Z h0 s3 "java/lang/String" "coder" "B" (.int (0 : Int32))) (Fv3 : Fld Z h0 s3 "java/lang/String" "value" "[B" (.ref v3)) (Av3 : Arr Z h0 v3 c3 .byte) (zv3 : c3.slots.size.toInt32 = (2 : Int32)) (uv3_0 : ¬ ((0 : Int32) < 0 ∨ c3.slots.size ≤ (0 : Int32).toNatClampNeg) ∧ c3.slots[(0 : Int32).toNatClampNeg]? = some (.int (60 : Int32))) (uv3_1 : ¬ ((1 : Int32) < 0 ∨ c3.slots.size ≤ (1 : Int32).toNatClampNeg) ∧ c3.slots[(1 : Int32).toNatClampNeg]? = some (.int (61 : Int32))) (w4 : ¬ ((4 : Int32) < 0 ∨ cv.slots.size ≤ (4 : Int32).toNatClampNeg) ∧ cv.slots[(4 : Int32).toNatClampNeg]? = some (.ref b4)) (Fb4 : Fld Z h0 b4 "com/example/windrow/windrow/Condition$Comparison" "symbol" "Ljava/lang/String;" (.ref s4)) (Es4 : Exa Z h0 s4 "java/lang/String") (Fc4 : Fld Z h0 s4 "java/lang/String" "coder" "B" (.int (0 : Int32))) (Fv4 : Fld Z h0 s4 "java/lang/String" "value" "[B" (.ref v4)) (Av4 : Arr Z h0 v4 c4 .byte) (zv4 : c4.slots.size.toInt32 = (1 : Int32)) (uv4_0 : ¬ ((0 : Int32) < 0 ∨ c4.slots.size ≤ (0 : Int32).toNatClampNeg) ∧ c4.slots[(0 : Int32).toNatClampNeg]? = some (.int (62 : Int32))) (w5 : ¬ ((5 : Int32) < 0 ∨ cv.slots.size ≤ (5 : Int32).toNatClampNeg) ∧ cv.slots[(5 : Int32).toNatClampNeg]? = some (.ref b5)) (Fb5 : Fld Z h0 b5 "com/example/windrow/windrow/Condition$Comparison" "symbol" "Ljava/lang/String;" (.ref s5)) (Es5 : Exa Z h0 s5 "java/lang/String") (Fc5 : Fld Z h0 s5 "java/lang/String" "coder" "B" (.int (0 : Int32))) (Fv5 : Fld Z h0 s5 "java/lang/String" "value" "[B" (.ref v5)) (Av5 : Arr Z h0 v5 c5 .byte) (zv5 : c5.slots.size.toInt32 = (2 : Int32)) (uv5_0 : ¬ ((0 : Int32) < 0 ∨ c5.slots.size ≤ (0 : Int32).toNatClampNeg) ∧ c5.slots[(0 : Int32).toNatClampNeg]? = some (.int (62 : Int32))) (uv5_1 : ¬ ((1 : Int32) < 0 ∨ c5.slots.size ≤ (1 : Int32).toNatClampNeg) ∧ c5.slots[(1 : Int32).toNatClampNeg]? = some (.int (61 : Int32))) :
    MetFree l (⟨"com/example/windrow/windrow/Condition$Comparison", "of", "(Ljava/lang/String;)Lcom/example/windrow/windrow/Condition$Comparison;"⟩ : MethodName) (head1 (Jvm.Cond.code (⟨"com/example/windrow/windrow/Condition$Comparison", "of", "(Ljava/lang/String;)Lcom/example/windrow/windrow/Condition$Comparison;"⟩ : MethodName) prog_20_method_4_code 5 (some (.object "com/example/windrow/windrow/Condition$Comparison")) :: ws) ({ frames := 2, cells := 1, slots := 6, locals := 30 } : Room)) (fun az Uz => az = #[(.ref sb)] ∧ Z.Warmed39 Uz.vm ∧ Uz.heap = h0) (fun _ _ _ _ _ => True) (fun _ Uz oz Ut => ∃ vz Lz, oz = .returned vz ∧ Q_of1 Z sb vb cb zc q0 av cv b0 b1 b2 b3 b4 b5 s0 s1 s2 s3 s4 s5 v0 v1 v2 v3 v4 v5 c0 c1 c2 c3 c4 c5 h0 n0 vz Ut.heap Lz ∧ FrameEnd Uz oz Ut Lz (({ frames := 2, cells := 1, slots := 6, locals := 30 } : Room)).cells (({ frames := 2, cells := 1, slots := 6, locals := 30 } : Room)).slots) := by
  refine MetFree.of_bodySF (plainFor_of_name pn3) hisR ?_
  intro p e s m args below meth c s₁ Bd hml0 hP hK
  obtain ⟨rfl, hZ, hh⟩ := hP
  have hx := Bd.exec
  have hby := Bd.bytes
  have hml : c.maxLocals = 5 := hml0
  have hown : s.vm.findClass "com/example/windrow/windrow/Condition$Comparison" = some m.cls := findClass_of_methodNamed Bd.named
  have hnm := (name_of_methodNamed Bd.named Bd.method).1
  have hlk : meth.locks = false := Bd.notSynchronized
  have X0 : Stand p l e ({ frames := 2, cells := 1, slots := 6, locals := 30 } : Room) s m #[(.ref sb)] below meth c s₁ [] 0 0 := Stand.of_body Bd
  have e0 : s₁.heap = h0 := by rw [← hh, Bd.state]; rfl
  have N0 := Fr.nil n0
  show EndsK p e below (OQ s (Q_of1 Z sb vb cb zc q0 av cv b0 b1 b2 b3 b4 b5 s0 s1 s2 s3 s4 s5 v0 v1 v2 v3 v4 v5 c0 c1 c2 c3 c4 c5 h0 n0) (({ frames := 2, cells := 1, slots := 6, locals := 30 } : Room)).cells (({ frames := 2, cells := 1, slots := 6, locals := 30 } : Room)).slots) (s₁.setTop (entryFrame m #[(.ref sb)] 5))
  refine EndsK.start (ef_of1 m sb vb cb zc q0 av cv b0 b1 b2 b3 b4 b5 s0 s1 s2 s3 s4 s5 v0 v1 v2 v3 v4 v5 c0 c1 c2 c3 c4 c5) ?_
  show EndsK p e below _ (s₁.setTop (mkF m 0 #[.val (.ref sb), .unset, .unset, .unset, .unset] []))
  obtain ⟨_, _, ⟨T1, L1, k1, n1⟩, -, X1, ⟨Lc1, hQ1, l1, y1, z1⟩, st1⟩ := Jvm.LawKit.callS X0 hx (y := (⟨"com/example/windrow/windrow/Condition$Comparison", "values", "()[Lcom/example/windrow/windrow/Condition$Comparison;"⟩ : MethodName)) hown (mvT hZ (hw _ (List.mem_of_getElem? (i := 30) rfl))) (mvT hZ (hw _ (List.mem_of_getElem? (i := 31) rfl))) (mvT hZ (hw _ (List.mem_of_getElem? (i := 28) rfl))) (mvT hZ (hw _ (List.mem_of_getElem? (i := 32) rfl))) (by decide) (backOf (W := 0) (rm_vals l Z a0 hw [] av cv h0 n0 Z0 SV AV EV FV hsz) hZ (hw _ (List.mem_of_getElem? (i := 32) rfl)) (hw _ (List.mem_of_getElem? (i := 28) rfl)) (by decide) (by decide)) (g := (mkF m 0 #[.val (.ref sb), .unset, .unset, .unset, .unset] [])) rfl (by rw [hml]; rfl) (argsL := []) (rest := []) (lenOf pd1 rfl) rfl (by show 2 * 0 + _ ≤ _; exact Nat.le_of_eq rfl) (hb hby d5_0) (fun _ _ => ⟨rfl, e0, (by decide : 0 + 1 ≤ _), (by decide : 0 + 6 ≤ _)⟩)
  dsimp only [Pt.U, Pt.locs, Pt.cells, Pt.slots] at X1 l1 y1 z1 st1 hQ1
  subst l1 y1 z1
  obtain ⟨bb, rfl, N1, E1, A1⟩ := hQ1
  have M1 := Fr.app N0 N1
  obtain ⟨h1, e1⟩ : ∃ z, T1.heap = z := ⟨_, rfl⟩
  rw [e1] at E1 A1
  have Z1 : n0 ≤ h1.size := Nat.le_trans Z0 E1.1
  have hs6 : (cloneOf cv).slots.size.toInt32 = (6 : Int32) := by show cv.slots.size.toInt32 = _; rw [hsz]; rfl
  refine EndsK.go st1 ?_
  show EndsK p e below _ (T1.setTop (mkF m 3 #[.val (.ref sb), .unset, .unset, .unset, .unset] [(.ref bb)]))
  refine EndsK.go (fun _ kz => XS.astoreN X1.here hx rfl (hb hby d5_3) rfl rfl (l' := #[.val (.ref sb), .val (.ref bb), .unset, .unset, .unset]) rfl kz) ?_
  show EndsK p e below _ (T1.setTop (mkF m 4 #[.val (.ref sb), .val (.ref bb), .unset, .unset, .unset] []))
  refine EndsK.go (fun _ kz => XS.aloadN X1.here hx rfl (hb hby d5_4) rfl rfl kz) ?_
  show EndsK p e below _ (T1.setTop (mkF m 5 #[.val (.ref sb), .val (.ref bb), .unset, .unset, .unset] [(.ref bb)]))
  refine EndsK.go (fun tz kz => X1.arraylength hx (by rw [e1]; exact A1.1) (State.isArrayOf_alike hZ.alike A1.2.1) (g := (mkF m 5 #[.val (.ref sb), .val (.ref bb), .unset, .unset, .unset] [(.ref bb)])) rfl rfl (hb hby d5_5) tz kz) ?_
  rw [hs6]
  show EndsK p e below _ (T1.setTop (mkF m 6 #[.val (.ref sb), .val (.ref bb), .unset, .unset, .unset] [(.int (6 : Int32))]))
  refine EndsK.go (fun _ kz => XS.istoreN X1.here hx rfl (hb hby d5_6) rfl (l' := #[.val (.ref sb), .val (.ref bb), .val (.int (6 : Int32)), .unset, .unset]) rfl kz) ?_
  show EndsK p e below _ (T1.setTop (mkF m 7 #[.val (.ref sb), .val (.ref bb), .val (.int (6 : Int32)), .unset, .unset] []))
  refine EndsK.go (fun _ kz => XS.iconst X1.here hx rfl (hb hby d5_7) kz) ?_
  show EndsK p e below _ (T1.setTop (mkF m 8 #[.val (.ref sb), .val (.ref bb), .val (.int (6 : Int32)), .unset, .unset] [(.int (0 : Int32))]))
  refine EndsK.go (fun _ kz => XS.istoreN X1.here hx rfl (hb hby d5_8) rfl (l' := #[.val (.ref sb), .val (.ref bb), .val (.int (6 : Int32)), .val (.int (0 : Int32)), .unset]) rfl kz) ?_
  show EndsK p e below _ (T1.setTop (mkF m 9 #[.val (.ref sb), .val (.ref bb), .val (.int (6 : Int32)), .val (.int (0 : Int32)), .unset] []))
  refine EndsK.go (fun _ kz => XS.iloadN X1.here hx rfl (hb hby d5_9) rfl kz) ?_
  show EndsK p e below _ (T1.setTop (mkF m 10 #[.val (.ref sb), .val (.ref bb), .val (.int (6 : Int32)), .val (.int (0 : Int32)), .unset] [(.int (0 : Int32))]))
  refine EndsK.go (fun _ kz => XS.iloadN X1.here hx rfl (hb hby d5_10) rfl kz) ?_
  show EndsK p e below _ (T1.setTop (mkF m 11 #[.val (.ref sb), .val (.ref bb), .val (.int (6 : Int32)), .val (.int (0 : Int32)), .unset] [(.int (6 : Int32)), (.int (0 : Int32))]))
  refine EndsK.go (fun _ kz => XS.icmpNo X1.here hx rfl (hb hby d5_11) rfl (tlt (by decide : (0 : Int32) < (6 : Int32))).2.1 kz) ?_
  show EndsK p e below _ (T1.setTop (mkF m 14 #[.val (.ref sb), .val (.ref bb), .val (.int (6 : Int32)), .val (.int (0 : Int32)), .unset] []))
  refine EndsK.go (fun _ kz => XS.aloadN X1.here hx rfl (hb hby d5_14) rfl rfl kz) ?_
  show EndsK p e below _ (T1.setTop (mkF m 15 #[.val (.ref sb), .val (.ref bb), .val (.int (6 : Int32)), .val (.int (0 : Int32)), .unset] [(.ref bb)]))
  refine EndsK.go (fun _ kz => XS.iloadN X1.here hx rfl (hb hby d5_15) rfl kz) ?_
  show EndsK p e below _ (T1.setTop (mkF m 16 #[.val (.ref sb), .val (.ref bb), .val (.int (6 : Int32)), .val (.int (0 : Int32)), .unset] [(.int (0 : Int32)), (.ref bb)]))
  refine EndsK.go (fun tz kz => X1.aaload hx (j := (0 : Int32)) (v := (.ref b0)) (by rw [e1]; exact A1.1) (State.isArrayOf_alike hZ.alike A1.2.1) rfl A1.2.2 w0.1 w0.2 (g := (mkF m 16 #[.val (.ref sb), .val (.ref bb), .val (.int (6 : Int32)), .val (.int (0 : Int32)), .unset] [(.int (0 : Int32)), (.ref bb)])) rfl rfl (hb hby d5_16) tz kz) ?_
  show EndsK p e below _ (T1.setTop (mkF m 17 #[.val (.ref sb), .val (.ref bb), .val (.int (6 : Int32)), .val (.int (0 : Int32)), .unset] [(.ref b0)]))
  refine EndsK.go (fun _ kz => XS.astore X1.here hx rfl (hb hby d5_17) rfl rfl (l' := #[.val (.ref sb), .val (.ref bb), .val (.int (6 : Int32)), .val (.int (0 : Int32)), .val (.ref b0)]) rfl kz) ?_
  show EndsK p e below _ (T1.setTop (mkF m 19 #[.val (.ref sb), .val (.ref bb), .val (.int (6 : Int32)), .val (.int (0 : Int32)), .val (.ref b0)] []))
  refine EndsK.go (fun _ kz => XS.aload X1.here hx rfl (hb hby d5_19) rfl rfl kz) ?_
  show EndsK p e below _ (T1.setTop (mkF m 21 #[.val (.ref sb), .val (.ref bb), .val (.int (6 : Int32)), .val (.int (0 : Int32)), .val (.ref b0)] [(.ref b0)]))
  obtain ⟨T2, X2, e2, st2⟩ := getF X1 hx hZ hown (host := "") (Or.inl (hw _ (List.mem_of_getElem? (i := 51) rfl))) Via.refl e1 (Fb0.ext E1) (g := (mkF m 21 #[.val (.ref sb), .val (.ref bb), .val (.int (6 : Int32)), .val (.int (0 : Int32)), .val (.ref b0)] [(.ref b0)])) rfl rfl (hb hby d5_21)
  refine EndsK.go st2 ?_
  show EndsK p e below _ (T2.setTop (mkF m 24 #[.val (.ref sb), .val (.ref bb), .val (.int (6 : Int32)), .val (.int (0 : Int32)), .val (.ref b0)] [(.ref s0)]))
  refine EndsK.go (fun _ kz => XS.aloadN X2.here hx rfl (hb hby d5_24) rfl rfl kz) ?_
  show EndsK p e below _ (T2.setTop (mkF m 25 #[.val (.ref sb), .val (.ref bb), .val (.int (6 : Int32)), .val (.int (0 : Int32)), .val (.ref b0)] [(.ref sb), (.ref s0)]))
  obtain ⟨cq3, kq3, qa3, qb3, qc3⟩ := isOf hZ e2 (Es0.ext E1)
  obtain ⟨_, _, ⟨T3, L3, k3, n3⟩, -, X3, ⟨Lc3, hQ3, l3, y3, z3⟩, st3⟩ := X2.virtualBack hx (y := (⟨"java/lang/String", "equals", "(Ljava/lang/Object;)Z"⟩ : MethodName)) (z := (⟨"java/lang/String", "equals", "(Ljava/lang/Object;)Z"⟩ : MethodName)) hown (mvT hZ (hw _ (List.mem_of_getElem? (i := 53) rfl))) (mvT hZ (hw _ (List.mem_of_getElem? (i := 54) rfl))) (notFace_of_selects (args := #[]) (mvT hZ (hw _ (List.mem_of_getElem? (i := 56) rfl)))) (mvT hZ (hw _ (List.mem_of_getElem? (i := 56) rfl))) (mvT hZ (hw _ (List.mem_of_getElem? (i := 55) rfl))) (by decide) (backOf (W := 0) (rm_seq11 l Z a0 hw [] s0 sb v0 vb c0 cb zc (61 : Int32) q0 h1 n0 Z1 (Es0.ext E1) (Fc0.ext E1) (Fv0.ext E1) hne0 (Et.ext E1) (Ftc.ext E1) (Ftv.ext E1) (SC.ext E1) hzc (Av0.ext E1) (Ab.ext E1) zv0 zb uv0_0 ub0) hZ (hw _ (List.mem_of_getElem? (i := 57) rfl)) (hw _ (List.mem_of_getElem? (i := 7) rfl)) (by decide) (by decide)) qa3 qc3 (g := (mkF m 25 #[.val (.ref sb), .val (.ref bb), .val (.int (6 : Int32)), .val (.int (0 : Int32)), .val (.ref b0)] [(.ref sb), (.ref s0)])) rfl (by rw [hml]; rfl) (Steps.refl _) (argsL := [(.ref sb)]) (rest := []) (lenOf pd2 rfl) rfl (by show 2 * 0 + _ ≤ _; exact Nat.le_of_eq rfl) (hb hby d5_25) (fun _ _ => ⟨rfl, e2, (by decide : 0 + 1 + 0 ≤ _), (by decide : 0 + 6 + 0 ≤ _)⟩)
  dsimp only [Pt.U, Pt.locs, Pt.cells, Pt.slots] at X3 l3 y3 z3 st3 hQ3
  subst l3 y3 z3
  obtain ⟨rfl, N3, e3⟩ := hQ3
  have M3 := Fr.app M1 N3
  refine EndsK.tr st3 ?_
  show EndsK p e below _ (T3.setTop (mkF m 28 #[.val (.ref sb), .val (.ref bb), .val (.int (6 : Int32)), .val (.int (0 : Int32)), .val (.ref b0)] [(.int (lf1 (61 : Int32) q0))]))
  by_cases H28_4 : (lf1 (61 : Int32) q0) = (0 : Int32)
  · refine EndsK.go (fun _ kz => XS.ifYes X3.here hx rfl (pc0 := 28) (pc' := 34) rfl (hb hby d5_28) rfl ((if0 _ _).trans (teq H28_4).1) (by decide) (by decide) kz) ?_
    show EndsK p e below _ (T3.setTop (mkF m 34 #[.val (.ref sb), .val (.ref bb), .val (.int (6 : Int32)), .val (.int (0 : Int32)), .val (.ref b0)] []))
    refine EndsK.go (fun _ kz => XS.iinc X3.here hx rfl (hb hby d5_34) rfl (l' := #[.val (.ref sb), .val (.ref bb), .val (.int (6 : Int32)), .val (.int (1 : Int32)), .val (.ref b0)]) rfl kz) ?_
    show EndsK p e below _ (T3.setTop (mkF m 37 #[.val (.ref sb), .val (.ref bb), .val (.int (6 : Int32)), .val (.int (1 : Int32)), .val (.ref b0)] []))
    refine EndsK.go (fun _ kz => XS.goto X3.here hx rfl (pc0 := 37) (pc' := 9) rfl (hb hby d5_37) (by decide) (by decide) kz) ?_
    show EndsK p e below _ (T3.setTop (mkF m 9 #[.val (.ref sb), .val (.ref bb), .val (.int (6 : Int32)), .val (.int (1 : Int32)), .val (.ref b0)] []))
    refine EndsK.go (fun _ kz => XS.iloadN X3.here hx rfl (hb hby d5_9) rfl kz) ?_
    show EndsK p e below _ (T3.setTop (mkF m 10 #[.val (.ref sb), .val (.ref bb), .val (.int (6 : Int32)), .val (.int (1 : Int32)), .val (.ref b0)] [(.int (1 : Int32))]))
    refine EndsK.go (fun _ kz => XS.iloadN X3.here hx rfl (hb hby d5_10) rfl kz) ?_
    show EndsK p e below _ (T3.setTop (mkF m 11 #[.val (.ref sb), .val (.ref bb), .val (.int (6 : Int32)), .val (.int (1 : Int32)), .val (.ref b0)] [(.int (6 : Int32)), (.int (1 : Int32))]))
    refine EndsK.go (fun _ kz => XS.icmpNo X3.here hx rfl (hb hby d5_11) rfl (tlt (by decide : (1 : Int32) < (6 : Int32))).2.1 kz) ?_
    show EndsK p e below _ (T3.setTop (mkF m 14 #[.val (.ref sb), .val (.ref bb), .val (.int (6 : Int32)), .val (.int (1 : Int32)), .val (.ref b0)] []))
    refine EndsK.go (fun _ kz => XS.aloadN X3.here hx rfl (hb hby d5_14) rfl rfl kz) ?_
    show EndsK p e below _ (T3.setTop (mkF m 15 #[.val (.ref sb), .val (.ref bb), .val (.int (6 : Int32)), .val (.int (1 : Int32)), .val (.ref b0)] [(.ref bb)]))
    refine EndsK.go (fun _ kz => XS.iloadN X3.here hx rfl (hb hby d5_15) rfl kz) ?_
    show EndsK p e below _ (T3.setTop (mkF m 16 #[.val (.ref sb), .val (.ref bb), .val (.int (6 : Int32)), .val (.int (1 : Int32)), .val (.ref b0)] [(.int (1 : Int32)), (.ref bb)]))
    refine EndsK.go (fun tz kz => X3.aaload hx (j := (1 : Int32)) (v := (.ref b1)) (by rw [e3]; exact A1.1) (State.isArrayOf_alike hZ.alike A1.2.1) rfl A1.2.2 w1.1 w1.2 (g := (mkF m 16 #[.val (.ref sb), .val (.ref bb), .val (.int (6 : Int32)), .val (.int (1 : Int32)), .val (.ref b0)] [(.int (1 : Int32)), (.ref bb)])) rfl rfl (hb hby d5_16) tz kz) ?_
    show EndsK p e below _ (T3.setTop (mkF m 17 #[.val (.ref sb), .val (.ref bb), .val (.int (6 : Int32)), .val (.int (1 : Int32)), .val (.ref b0)] [(.ref b1)]))
    refine EndsK.go (fun _ kz => XS.astore X3.here hx rfl (hb hby d5_17) rfl rfl (l' := #[.val (.ref sb), .val (.ref bb), .val (.int (6 : Int32)), .val (.int (1 : Int32)), .val (.ref b1)]) rfl kz) ?_
    show EndsK p e below _ (T3.setTop (mkF m 19 #[.val (.ref sb), .val (.ref bb), .val (.int (6 : Int32)), .val (.int (1 : Int32)), .val (.ref b1)] []))
    refine EndsK.go (fun _ kz => XS.aload X3.here hx rfl (hb hby d5_19) rfl rfl kz) ?_
    show EndsK p e below _ (T3.setTop (mkF m 21 #[.val (.ref sb), .val (.ref bb), .val (.int (6 : Int32)), .val (.int (1 : Int32)), .val (.ref b1)] [(.ref b1)]))
    obtain ⟨T5, X5, e5, st5⟩ := getF X3 hx hZ hown (host := "") (Or.inl (hw _ (List.mem_of_getElem? (i := 51) rfl))) Via.refl e3 (Fb1.ext E1) (g := (mkF m 21 #[.val (.ref sb), .val (.ref bb), .val (.int (6 : Int32)), .val (.int (1 : Int32)), .val (.ref b1)] [(.ref b1)])) rfl rfl (hb hby d5_21)
    refine EndsK.go st5 ?_
    show EndsK p e below _ (T5.setTop (mkF m 24 #[.val (.ref sb), .val (.ref bb), .val (.int (6 : Int32)), .val (.int (1 : Int32)), .val (.ref b1)] [(.ref s1)]))
    refine EndsK.go (fun _ kz => XS.aloadN X5.here hx rfl (hb hby d5_24) rfl rfl kz) ?_
    show EndsK p e below _ (T5.setTop (mkF m 25 #[.val (.ref sb), .val (.ref bb), .val (.int (6 : Int32)), .val (.int (1 : Int32)), .val (.ref b1)] [(.ref sb), (.ref s1)]))
    obtain ⟨cq6, kq6, qa6, qb6, qc6⟩ := isOf hZ e5 (Es1.ext E1)
    obtain ⟨_, _, ⟨T6, L6, k6, n6⟩, -, X6, ⟨Lc6, hQ6, l6, y6, z6⟩, st6⟩ := X5.virtualBack hx (y := (⟨"java/lang/String", "equals", "(Ljava/lang/Object;)Z"⟩ : MethodName)) (z := (⟨"java/lang/String", "equals", "(Ljava/lang/Object;)Z"⟩ : MethodName)) hown (mvT hZ (hw _ (List.mem_of_getElem? (i := 53) rfl))) (mvT hZ (hw _ (List.mem_of_getElem? (i := 54) rfl))) (notFace_of_selects (args := #[]) (mvT hZ (hw _ (List.mem_of_getElem? (i := 56) rfl)))) (mvT hZ (hw _ (List.mem_of_getElem? (i := 56) rfl))) (mvT hZ (hw _ (List.mem_of_getElem? (i := 55) rfl))) (by decide) (backOf (W := 0) (rm_seq21 l Z a0 hw [] s1 sb v1 vb c1 cb zc  h1 n0 Z1 (Es1.ext E1) (Fc1.ext E1) (Fv1.ext E1) hne1 (Et.ext E1) (Ftc.ext E1) (Ftv.ext E1) (SC.ext E1) hzc (Av1.ext E1) (Ab.ext E1) zv1 zb ) hZ (hw _ (List.mem_of_getElem? (i := 57) rfl)) (hw _ (List.mem_of_getElem? (i := 7) rfl)) (by decide) (by decide)) qa6 qc6 (g := (mkF m 25 #[.val (.ref sb), .val (.ref bb), .val (.int (6 : Int32)), .val (.int (1 : Int32)), .val (.ref b1)] [(.ref sb), (.ref s1)])) rfl (by rw [hml]; rfl) (Steps.refl _) (argsL := [(.ref sb)]) (rest := []) (lenOf pd2 rfl) rfl (by show 2 * 0 + _ ≤ _; exact Nat.le_of_eq rfl) (hb hby d5_25) (fun _ _ => ⟨rfl, e5, (by decide : 0 + 1 + 0 + 0 ≤ _), (by decide : 0 + 6 + 0 + 0 ≤ _)⟩)
    dsimp only [Pt.U, Pt.locs, Pt.cells, Pt.slots] at X6 l6 y6 z6 st6 hQ6
    subst l6 y6 z6
    obtain ⟨rfl, N6, e6⟩ := hQ6
    have M6 := Fr.app M3 N6
    refine EndsK.tr st6 ?_
    show EndsK p e below _ (T6.setTop (mkF m 28 #[.val (.ref sb), .val (.ref bb), .val (.int (6 : Int32)), .val (.int (1 : Int32)), .val (.ref b1)] [(.int (0 : Int32))]))
    refine EndsK.go (fun _ kz => XS.ifYes X6.here hx rfl (pc0 := 28) (pc' := 34) rfl (hb hby d5_28) rfl ((if0 _ _).trans (teq (rfl : (0 : Int32) = (0 : Int32))).1) (by decide) (by decide) kz) ?_
    show EndsK p e below _ (T6.setTop (mkF m 34 #[.val (.ref sb), .val (.ref bb), .val (.int (6 : Int32)), .val (.int (1 : Int32)), .val (.ref b1)] []))
    refine EndsK.go (fun _ kz => XS.iinc X6.here hx rfl (hb hby d5_34) rfl (l' := #[.val (.ref sb), .val (.ref bb), .val (.int (6 : Int32)), .val (.int (2 : Int32)), .val (.ref b1)]) rfl kz) ?_
    show EndsK p e below _ (T6.setTop (mkF m 37 #[.val (.ref sb), .val (.ref bb), .val (.int (6 : Int32)), .val (.int (2 : Int32)), .val (.ref b1)] []))
    refine EndsK.go (fun _ kz => XS.goto X6.here hx rfl (pc0 := 37) (pc' := 9) rfl (hb hby d5_37) (by decide) (by decide) kz) ?_
    show EndsK p e below _ (T6.setTop (mkF m 9 #[.val (.ref sb), .val (.ref bb), .val (.int (6 : Int32)), .val (.int (2 : Int32)), .val (.ref b1)] []))
    refine EndsK.go (fun _ kz => XS.iloadN X6.here hx rfl (hb hby d5_9) rfl kz) ?_
    show EndsK p e below _ (T6.setTop (mkF m 10 #[.val (.ref sb), .val (.ref bb), .val (.int (6 : Int32)), .val (.int (2 : Int32)), .val (.ref b1)] [(.int (2 : Int32))]))
    refine EndsK.go (fun _ kz => XS.iloadN X6.here hx rfl (hb hby d5_10) rfl kz) ?_
    show EndsK p e below _ (T6.setTop (mkF m 11 #[.val (.ref sb), .val (.ref bb), .val (.int (6 : Int32)), .val (.int (2 : Int32)), .val (.ref b1)] [(.int (6 : Int32)), (.int (2 : Int32))]))
    refine EndsK.go (fun _ kz => XS.icmpNo X6.here hx rfl (hb hby d5_11) rfl (tlt (by decide : (2 : Int32) < (6 : Int32))).2.1 kz) ?_
    show EndsK p e below _ (T6.setTop (mkF m 14 #[.val (.ref sb), .val (.ref bb), .val (.int (6 : Int32)), .val (.int (2 : Int32)), .val (.ref b1)] []))
    refine EndsK.go (fun _ kz => XS.aloadN X6.here hx rfl (hb hby d5_14) rfl rfl kz) ?_
    show EndsK p e below _ (T6.setTop (mkF m 15 #[.val (.ref sb), .val (.ref bb), .val (.int (6 : Int32)), .val (.int (2 : Int32)), .val (.ref b1)] [(.ref bb)]))
    refine EndsK.go (fun _ kz => XS.iloadN X6.here hx rfl (hb hby d5_15) rfl kz) ?_
    show EndsK p e below _ (T6.setTop (mkF m 16 #[.val (.ref sb), .val (.ref bb), .val (.int (6 : Int32)), .val (.int (2 : Int32)), .val (.ref b1)] [(.int (2 : Int32)), (.ref bb)]))
    refine EndsK.go (fun tz kz => X6.aaload hx (j := (2 : Int32)) (v := (.ref b2)) (by rw [e6]; exact A1.1) (State.isArrayOf_alike hZ.alike A1.2.1) rfl A1.2.2 w2.1 w2.2 (g := (mkF m 16 #[.val (.ref sb), .val (.ref bb), .val (.int (6 : Int32)), .val (.int (2 : Int32)), .val (.ref b1)] [(.int (2 : Int32)), (.ref bb)])) rfl rfl (hb hby d5_16) tz kz) ?_
    show EndsK p e below _ (T6.setTop (mkF m 17 #[.val (.ref sb), .val (.ref bb), .val (.int (6 : Int32)), .val (.int (2 : Int32)), .val (.ref b1)] [(.ref b2)]))
    refine EndsK.go (fun _ kz => XS.astore X6.here hx rfl (hb hby d5_17) rfl rfl (l' := #[.val (.ref sb), .val (.ref bb), .val (.int (6 : Int32)), .val (.int (2 : Int32)), .val (.ref b2)]) rfl kz) ?_
    show EndsK p e below _ (T6.setTop (mkF m 19 #[.val (.ref sb), .val (.ref bb), .val (.int (6 : Int32)), .val (.int (2 : Int32)), .val (.ref b2)] []))
    refine EndsK.go (fun _ kz => XS.aload X6.here hx rfl (hb hby d5_19) rfl rfl kz) ?_
    show EndsK p e below _ (T6.setTop (mkF m 21 #[.val (.ref sb), .val (.ref bb), .val (.int (6 : Int32)), .val (.int (2 : Int32)), .val (.ref b2)] [(.ref b2)]))
    obtain ⟨T7, X7, e7, st7⟩ := getF X6 hx hZ hown (host := "") (Or.inl (hw _ (List.mem_of_getElem? (i := 51) rfl))) Via.refl e6 (Fb2.ext E1) (g := (mkF m 21 #[.val (.ref sb), .val (.ref bb), .val (.int (6 : Int32)), .val (.int (2 : Int32)), .val (.ref b2)] [(.ref b2)])) rfl rfl (hb hby d5_21)
    refine EndsK.go st7 ?_
    show EndsK p e below _ (T7.setTop (mkF m 24 #[.val (.ref sb), .val (.ref bb), .val (.int (6 : Int32)), .val (.int (2 : Int32)), .val (.ref b2)] [(.ref s2)]))
    refine EndsK.go (fun _ kz => XS.aloadN X7.here hx rfl (hb hby d5_24) rfl rfl kz) ?_
    show EndsK p e below _ (T7.setTop (mkF m 25 #[.val (.ref sb), .val (.ref bb), .val (.int (6 : Int32)), .val (.int (2 : Int32)), .val (.ref b2)] [(.ref sb), (.ref s2)]))
    obtain ⟨cq8, kq8, qa8, qb8, qc8⟩ := isOf hZ e7 (Es2.ext E1)
    obtain ⟨_, _, ⟨T8, L8, k8, n8⟩, -, X8, ⟨Lc8, hQ8, l8, y8, z8⟩, st8⟩ := X7.virtualBack hx (y := (⟨"java/lang/String", "equals", "(Ljava/lang/Object;)Z"⟩ : MethodName)) (z := (⟨"java/lang/String", "equals", "(Ljava/lang/Object;)Z"⟩ : MethodName)) hown (mvT hZ (hw _ (List.mem_of_getElem? (i := 53) rfl))) (mvT hZ (hw _ (List.mem_of_getElem? (i := 54) rfl))) (notFace_of_selects (args := #[]) (mvT hZ (hw _ (List.mem_of_getElem? (i := 56) rfl)))) (mvT hZ (hw _ (List.mem_of_getElem? (i := 56) rfl))) (mvT hZ (hw _ (List.mem_of_getElem? (i := 55) rfl))) (by decide) (backOf (W := 0) (rm_seq11 l Z a0 hw [] s2 sb v2 vb c2 cb zc (60 : Int32) q0 h1 n0 Z1 (Es2.ext E1) (Fc2.ext E1) (Fv2.ext E1) hne2 (Et.ext E1) (Ftc.ext E1) (Ftv.ext E1) (SC.ext E1) hzc (Av2.ext E1) (Ab.ext E1) zv2 zb uv2_0 ub0) hZ (hw _ (List.mem_of_getElem? (i := 57) rfl)) (hw _ (List.mem_of_getElem? (i := 7) rfl)) (by decide) (by decide)) qa8 qc8 (g := (mkF m 25 #[.val (.ref sb), .val (.ref bb), .val (.int (6 : Int32)), .val (.int (2 : Int32)), .val (.ref b2)] [(.ref sb), (.ref s2)])) rfl (by rw [hml]; rfl) (Steps.refl _) (argsL := [(.ref sb)]) (rest := []) (lenOf pd2 rfl) rfl (by show 2 * 0 + _ ≤ _; exact Nat.le_of_eq rfl) (hb hby d5_25) (fun _ _ => ⟨rfl, e7, (by decide : 0 + 1 + 0 + 0 + 0 ≤ _), (by decide : 0 + 6 + 0 + 0 + 0 ≤ _)⟩)
    dsimp only [Pt.U, Pt.locs, Pt.cells, Pt.slots] at X8 l8 y8 z8 st8 hQ8
    subst l8 y8 z8
    obtain ⟨rfl, N8, e8⟩ := hQ8
    have M8 := Fr.app M6 N8
    refine EndsK.tr st8 ?_
    show EndsK p e below _ (T8.setTop (mkF m 28 #[.val (.ref sb), .val (.ref bb), .val (.int (6 : Int32)), .val (.int (2 : Int32)), .val (.ref b2)] [(.int (lf1 (60 : Int32) q0))]))
    by_cases H28_9 : (lf1 (60 : Int32) q0) = (0 : Int32)
    · refine EndsK.go (fun _ kz => XS.ifYes X8.here hx rfl (pc0 := 28) (pc' := 34) rfl (hb hby d5_28) rfl ((if0 _ _).trans (teq H28_9).1) (by decide) (by decide) kz) ?_
      show EndsK p e below _ (T8.setTop (mkF m 34 #[.val (.ref sb), .val (.ref bb), .val (.int (6 : Int32)), .val (.int (2 : Int32)), .val (.ref b2)] []))
      refine EndsK.go (fun _ kz => XS.iinc X8.here hx rfl (hb hby d5_34) rfl (l' := #[.val (.ref sb), .val (.ref bb), .val (.int (6 : Int32)), .val (.int (3 : Int32)), .val (.ref b2)]) rfl kz) ?_
      show EndsK p e below _ (T8.setTop (mkF m 37 #[.val (.ref sb), .val (.ref bb), .val (.int (6 : Int32)), .val (.int (3 : Int32)), .val (.ref b2)] []))
      refine EndsK.go (fun _ kz => XS.goto X8.here hx rfl (pc0 := 37) (pc' := 9) rfl (hb hby d5_37) (by decide) (by decide) kz) ?_
      show EndsK p e below _ (T8.setTop (mkF m 9 #[.val (.ref sb), .val (.ref bb), .val (.int (6 : Int32)), .val (.int (3 : Int32)), .val (.ref b2)] []))
      refine EndsK.go (fun _ kz => XS.iloadN X8.here hx rfl (hb hby d5_9) rfl kz) ?_
      show EndsK p e below _ (T8.setTop (mkF m 10 #[.val (.ref sb), .val (.ref bb), .val (.int (6 : Int32)), .val (.int (3 : Int32)), .val (.ref b2)] [(.int (3 : Int32))]))
      refine EndsK.go (fun _ kz => XS.iloadN X8.here hx rfl (hb hby d5_10) rfl kz) ?_
      show EndsK p e below _ (T8.setTop (mkF m 11 #[.val (.ref sb), .val (.ref bb), .val (.int (6 : Int32)), .val (.int (3 : Int32)), .val (.ref b2)] [(.int (6 : Int32)), (.int (3 : Int32))]))
      refine EndsK.go (fun _ kz => XS.icmpNo X8.here hx rfl (hb hby d5_11) rfl (tlt (by decide : (3 : Int32) < (6 : Int32))).2.1 kz) ?_
      show EndsK p e below _ (T8.setTop (mkF m 14 #[.val (.ref sb), .val (.ref bb), .val (.int (6 : Int32)), .val (.int (3 : Int32)), .val (.ref b2)] []))
      refine EndsK.go (fun _ kz => XS.aloadN X8.here hx rfl (hb hby d5_14) rfl rfl kz) ?_
      show EndsK p e below _ (T8.setTop (mkF m 15 #[.val (.ref sb), .val (.ref bb), .val (.int (6 : Int32)), .val (.int (3 : Int32)), .val (.ref b2)] [(.ref bb)]))
      refine EndsK.go (fun _ kz => XS.iloadN X8.here hx rfl (hb hby d5_15) rfl kz) ?_
      show EndsK p e below _ (T8.setTop (mkF m 16 #[.val (.ref sb), .val (.ref bb), .val (.int (6 : Int32)), .val (.int (3 : Int32)), .val (.ref b2)] [(.int (3 : Int32)), (.ref bb)]))
      refine EndsK.go (fun tz kz => X8.aaload hx (j := (3 : Int32)) (v := (.ref b3)) (by rw [e8]; exact A1.1) (State.isArrayOf_alike hZ.alike A1.2.1) rfl A1.2.2 w3.1 w3.2 (g := (mkF m 16 #[.val (.ref sb), .val (.ref bb), .val (.int (6 : Int32)), .val (.int (3 : Int32)), .val (.ref b2)] [(.int (3 : Int32)), (.ref bb)])) rfl rfl (hb hby d5_16) tz kz) ?_
      show EndsK p e below _ (T8.setTop (mkF m 17 #[.val (.ref sb), .val (.ref bb), .val (.int (6 : Int32)), .val (.int (3 : Int32)), .val (.ref b2)] [(.ref b3)]))
      refine EndsK.go (fun _ kz => XS.astore X8.here hx rfl (hb hby d5_17) rfl rfl (l' := #[.val (.ref sb), .val (.ref bb), .val (.int (6 : Int32)), .val (.int (3 : Int32)), .val (.ref b3)]) rfl kz) ?_
      show EndsK p e below _ (T8.setTop (mkF m 19 #[.val (.ref sb), .val (.ref bb), .val (.int (6 : Int32)), .val (.int (3 : Int32)), .val (.ref b3)] []))
      refine EndsK.go (fun _ kz => XS.aload X8.here hx rfl (hb hby d5_19) rfl rfl kz) ?_
      show EndsK p e below _ (T8.setTop (mkF m 21 #[.val (.ref sb), .val (.ref bb), .val (.int (6 : Int32)), .val (.int (3 : Int32)), .val (.ref b3)] [(.ref b3)]))
      obtain ⟨T10, X10, e10, st10⟩ := getF X8 hx hZ hown (host := "") (Or.inl (hw _ (List.mem_of_getElem? (i := 51) rfl))) Via.refl e8 (Fb3.ext E1) (g := (mkF m 21 #[.val (.ref sb), .val (.ref bb), .val (.int (6 : Int32)), .val (.int (3 : Int32)), .val (.ref b3)] [(.ref b3)])) rfl rfl (hb hby d5_21)
      refine EndsK.go st10 ?_
      show EndsK p e below _ (T10.setTop (mkF m 24 #[.val (.ref sb), .val (.ref bb), .val (.int (6 : Int32)), .val (.int (3 : Int32)), .val (.ref b3)] [(.ref s3)]))
      refine EndsK.go (fun _ kz => XS.aloadN X10.here hx rfl (hb hby d5_24) rfl rfl kz) ?_
      show EndsK p e below _ (T10.setTop (mkF m 25 #[.val (.ref sb), .val (.ref bb), .val (.int (6 : Int32)), .val (.int (3 : Int32)), .val (.ref b3)] [(.ref sb), (.ref s3)]))
      obtain ⟨cq11, kq11, qa11, qb11, qc11⟩ := isOf hZ e10 (Es3.ext E1)
      obtain ⟨_, _, ⟨T11, L11, k11, n11⟩, -, X11, ⟨Lc11, hQ11, l11, y11, z11⟩, st11⟩ := X10.virtualBack hx (y := (⟨"java/lang/String", "equals", "(Ljava/lang/Object;)Z"⟩ : MethodName)) (z := (⟨"java/lang/String", "equals", "(Ljava/lang/Object;)Z"⟩ : MethodName)) hown (mvT hZ (hw _ (List.mem_of_getElem? (i := 53) rfl))) (mvT hZ (hw _ (List.mem_of_getElem? (i := 54) rfl))) (notFace_of_selects (args := #[]) (mvT hZ (hw _ (List.mem_of_getElem? (i := 56) rfl)))) (mvT hZ (hw _ (List.mem_of_getElem? (i := 56) rfl))) (mvT hZ (hw _ (List.mem_of_getElem? (i := 55) rfl))) (by decide) (backOf (W := 0) (rm_seq21 l Z a0 hw [] s3 sb v3 vb c3 cb zc  h1 n0 Z1 (Es3.ext E1) (Fc3.ext E1) (Fv3.ext E1) hne3 (Et.ext E1) (Ftc.ext E1) (Ftv.ext E1) (SC.ext E1) hzc (Av3.ext E1) (Ab.ext E1) zv3 zb ) hZ (hw _ (List.mem_of_getElem? (i := 57) rfl)) (hw _ (List.mem_of_getElem? (i := 7) rfl)) (by decide) (by decide)) qa11 qc11 (g := (mkF m 25 #[.val (.ref sb), .val (.ref bb), .val (.int (6 : Int32)), .val (.int (3 : Int32)), .val (.ref b3)] [(.ref sb), (.ref s3)])) rfl (by rw [hml]; rfl) (Steps.refl _) (argsL := [(.ref sb)]) (rest := []) (lenOf pd2 rfl) rfl (by show 2 * 0 + _ ≤ _; exact Nat.le_of_eq rfl) (hb hby d5_25) (fun _ _ => ⟨rfl, e10, (by decide : 0 + 1 + 0 + 0 + 0 + 0 ≤ _), (by decide : 0 + 6 + 0 + 0 + 0 + 0 ≤ _)⟩)
      dsimp only [Pt.U, Pt.locs, Pt.cells, Pt.slots] at X11 l11 y11 z11 st11 hQ11
      subst l11 y11 z11
      obtain ⟨rfl, N11, e11⟩ := hQ11
      have M11 := Fr.app M8 N11
      refine EndsK.tr st11 ?_
      show EndsK p e below _ (T11.setTop (mkF m 28 #[.val (.ref sb), .val (.ref bb), .val (.int (6 : Int32)), .val (.int (3 : Int32)), .val (.ref b3)] [(.int (0 : Int32))]))
      refine EndsK.go (fun _ kz => XS.ifYes X11.here hx rfl (pc0 := 28) (pc' := 34) rfl (hb hby d5_28) rfl ((if0 _ _).trans (teq (rfl : (0 : Int32) = (0 : Int32))).1) (by decide) (by decide) kz) ?_
      show EndsK p e below _ (T11.setTop (mkF m 34 #[.val (.ref sb), .val (.ref bb), .val (.int (6 : Int32)), .val (.int (3 : Int32)), .val (.ref b3)] []))
      refine EndsK.go (fun _ kz => XS.iinc X11.here hx rfl (hb hby d5_34) rfl (l' := #[.val (.ref sb), .val (.ref bb), .val (.int (6 : Int32)), .val (.int (4 : Int32)), .val (.ref b3)]) rfl kz) ?_
      show EndsK p e below _ (T11.setTop (mkF m 37 #[.val (.ref sb), .val (.ref bb), .val (.int (6 : Int32)), .val (.int (4 : Int32)), .val (.ref b3)] []))
      refine EndsK.go (fun _ kz => XS.goto X11.here hx rfl (pc0 := 37) (pc' := 9) rfl (hb hby d5_37) (by decide) (by decide) kz) ?_
      show EndsK p e below _ (T11.setTop (mkF m 9 #[.val (.ref sb), .val (.ref bb), .val (.int (6 : Int32)), .val (.int (4 : Int32)), .val (.ref b3)] []))
      refine EndsK.go (fun _ kz => XS.iloadN X11.here hx rfl (hb hby d5_9) rfl kz) ?_
      show EndsK p e below _ (T11.setTop (mkF m 10 #[.val (.ref sb), .val (.ref bb), .val (.int (6 : Int32)), .val (.int (4 : Int32)), .val (.ref b3)] [(.int (4 : Int32))]))
      refine EndsK.go (fun _ kz => XS.iloadN X11.here hx rfl (hb hby d5_10) rfl kz) ?_
      show EndsK p e below _ (T11.setTop (mkF m 11 #[.val (.ref sb), .val (.ref bb), .val (.int (6 : Int32)), .val (.int (4 : Int32)), .val (.ref b3)] [(.int (6 : Int32)), (.int (4 : Int32))]))
      refine EndsK.go (fun _ kz => XS.icmpNo X11.here hx rfl (hb hby d5_11) rfl (tlt (by decide : (4 : Int32) < (6 : Int32))).2.1 kz) ?_
      show EndsK p e below _ (T11.setTop (mkF m 14 #[.val (.ref sb), .val (.ref bb), .val (.int (6 : Int32)), .val (.int (4 : Int32)), .val (.ref b3)] []))
      refine EndsK.go (fun _ kz => XS.aloadN X11.here hx rfl (hb hby d5_14) rfl rfl kz) ?_
      show EndsK p e below _ (T11.setTop (mkF m 15 #[.val (.ref sb), .val (.ref bb), .val (.int (6 : Int32)), .val (.int (4 : Int32)), .val (.ref b3)] [(.ref bb)]))
      refine EndsK.go (fun _ kz => XS.iloadN X11.here hx rfl (hb hby d5_15) rfl kz) ?_
      show EndsK p e below _ (T11.setTop (mkF m 16 #[.val (.ref sb), .val (.ref bb), .val (.int (6 : Int32)), .val (.int (4 : Int32)), .val (.ref b3)] [(.int (4 : Int32)), (.ref bb)]))
      refine EndsK.go (fun tz kz => X11.aaload hx (j := (4 : Int32)) (v := (.ref b4)) (by rw [e11]; exact A1.1) (State.isArrayOf_alike hZ.alike A1.2.1) rfl A1.2.2 w4.1 w4.2 (g := (mkF m 16 #[.val (.ref sb), .val (.ref bb), .val (.int (6 : Int32)), .val (.int (4 : Int32)), .val (.ref b3)] [(.int (4 : Int32)), (.ref bb)])) rfl rfl (hb hby d5_16) tz kz) ?_
      show EndsK p e below _ (T11.setTop (mkF m 17 #[.val (.ref sb), .val (.ref bb), .val (.int (6 : Int32)), .val (.int (4 : Int32)), .val (.ref b3)] [(.ref b4)]))
      refine EndsK.go (fun _ kz => XS.astore X11.here hx rfl (hb hby d5_17) rfl rfl (l' := #[.val (.ref sb), .val (.ref bb), .val (.int (6 : Int32)), .val (.int (4 : Int32)), .val (.ref b4)]) rfl kz) ?_
      show EndsK p e below _ (T11.setTop (mkF m 19 #[.val (.ref sb), .val (.ref bb), .val (.int (6 : Int32)), .val (.int (4 : Int32)), .val (.ref b4)] []))
      refine EndsK.go (fun _ kz => XS.aload X11.here hx rfl (hb hby d5_19) rfl rfl kz) ?_
      show EndsK p e below _ (T11.setTop (mkF m 21 #[.val (.ref sb), .val (.ref bb), .val (.int (6 : Int32)), .val (.int (4 : Int32)), .val (.ref b4)] [(.ref b4)]))
      obtain ⟨T12, X12, e12, st12⟩ := getF X11 hx hZ hown (host := "") (Or.inl (hw _ (List.mem_of_getElem? (i := 51) rfl))) Via.refl e11 (Fb4.ext E1) (g := (mkF m 21 #[.val (.ref sb), .val (.ref bb), .val (.int (6 : Int32)), .val (.int (4 : Int32)), .val (.ref b4)] [(.ref b4)])) rfl rfl (hb hby d5_21)
      refine EndsK.go st12 ?_
      show EndsK p e below _ (T12.setTop (mkF m 24 #[.val (.ref sb), .val (.ref bb), .val (.int (6 : Int32)), .val (.int (4 : Int32)), .val (.ref b4)] [(.ref s4)]))
      refine EndsK.go (fun _ kz => XS.aloadN X12.here hx rfl (hb hby d5_24) rfl rfl kz) ?_
      show EndsK p e below _ (T12.setTop (mkF m 25 #[.val (.ref sb), .val (.ref bb), .val (.int (6 : Int32)), .val (.int (4 : Int32)), .val (.ref b4)] [(.ref sb), (.ref s4)]))
      obtain ⟨cq13, kq13, qa13, qb13, qc13⟩ := isOf hZ e12 (Es4.ext E1)
      obtain ⟨_, _, ⟨T13, L13, k13, n13⟩, -, X13, ⟨Lc13, hQ13, l13, y13, z13⟩, st13⟩ := X12.virtualBack hx (y := (⟨"java/lang/String", "equals", "(Ljava/lang/Object;)Z"⟩ : MethodName)) (z := (⟨"java/lang/String", "equals", "(Ljava/lang/Object;)Z"⟩ : MethodName)) hown (mvT hZ (hw _ (List.mem_of_getElem? (i := 53) rfl))) (mvT hZ (hw _ (List.mem_of_getElem? (i := 54) rfl))) (notFace_of_selects (args := #[]) (mvT hZ (hw _ (List.mem_of_getElem? (i := 56) rfl)))) (mvT hZ (hw _ (List.mem_of_getElem? (i := 56) rfl))) (mvT hZ (hw _ (List.mem_of_getElem? (i := 55) rfl))) (by decide) (backOf (W := 0) (rm_seq11 l Z a0 hw [] s4 sb v4 vb c4 cb zc (62 : Int32) q0 h1 n0 Z1 (Es4.ext E1) (Fc4.ext E1) (Fv4.ext E1) hne4 (Et.ext E1) (Ftc.ext E1) (Ftv.ext E1) (SC.ext E1) hzc (Av4.ext E1) (Ab.ext E1) zv4 zb uv4_0 ub0) hZ (hw _ (List.mem_of_getElem? (i := 57) rfl)) (hw _ (List.mem_of_getElem? (i := 7) rfl)) (by decide) (by decide)) qa13 qc13 (g := (mkF m 25 #[.val (.ref sb), .val (.ref bb), .val (.int (6 : Int32)), .val (.int (4 : Int32)), .val (.ref b4)] [(.ref sb), (.ref s4)])) rfl (by rw [hml]; rfl) (Steps.refl _) (argsL := [(.ref sb)]) (rest := []) (lenOf pd2 rfl) rfl (by show 2 * 0 + _ ≤ _; exact Nat.le_of_eq rfl) (hb hby d5_25) (fun _ _ => ⟨rfl, e12, (by decide : 0 + 1 + 0 + 0 + 0 + 0 + 0 ≤ _), (by decide : 0 + 6 + 0 + 0 + 0 + 0 + 0 ≤ _)⟩)
      dsimp only [Pt.U, Pt.locs, Pt.cells, Pt.slots] at X13 l13 y13 z13 st13 hQ13
      subst l13 y13 z13
      obtain ⟨rfl, N13, e13⟩ := hQ13
      have M13 := Fr.app M11 N13
      refine EndsK.tr st13 ?_
      show EndsK p e below _ (T13.setTop (mkF m 28 #[.val (.ref sb), .val (.ref bb), .val (.int (6 : Int32)), .val (.int (4 : Int32)), .val (.ref b4)] [(.int (lf1 (62 : Int32) q0))]))
      by_cases H28_14 : (lf1 (62 : Int32) q0) = (0 : Int32)
      · refine EndsK.go (fun _ kz => XS.ifYes X13.here hx rfl (pc0 := 28) (pc' := 34) rfl (hb hby d5_28) rfl ((if0 _ _).trans (teq H28_14).1) (by decide) (by decide) kz) ?_
        show EndsK p e below _ (T13.setTop (mkF m 34 #[.val (.ref sb), .val (.ref bb), .val (.int (6 : Int32)), .val (.int (4 : Int32)), .val (.ref b4)] []))
        refine EndsK.go (fun _ kz => XS.iinc X13.here hx rfl (hb hby d5_34) rfl (l' := #[.val (.ref sb), .val (.ref bb), .val (.int (6 : Int32)), .val (.int (5 : Int32)), .val (.ref b4)]) rfl kz) ?_
        show EndsK p e below _ (T13.setTop (mkF m 37 #[.val (.ref sb), .val (.ref bb), .val (.int (6 : Int32)), .val (.int (5 : Int32)), .val (.ref b4)] []))
        refine EndsK.go (fun _ kz => XS.goto X13.here hx rfl (pc0 := 37) (pc' := 9) rfl (hb hby d5_37) (by decide) (by decide) kz) ?_
        show EndsK p e below _ (T13.setTop (mkF m 9 #[.val (.ref sb), .val (.ref bb), .val (.int (6 : Int32)), .val (.int (5 : Int32)), .val (.ref b4)] []))
        refine EndsK.go (fun _ kz => XS.iloadN X13.here hx rfl (hb hby d5_9) rfl kz) ?_
        show EndsK p e below _ (T13.setTop (mkF m 10 #[.val (.ref sb), .val (.ref bb), .val (.int (6 : Int32)), .val (.int (5 : Int32)), .val (.ref b4)] [(.int (5 : Int32))]))
        refine EndsK.go (fun _ kz => XS.iloadN X13.here hx rfl (hb hby d5_10) rfl kz) ?_
        show EndsK p e below _ (T13.setTop (mkF m 11 #[.val (.ref sb), .val (.ref bb), .val (.int (6 : Int32)), .val (.int (5 : Int32)), .val (.ref b4)] [(.int (6 : Int32)), (.int (5 : Int32))]))
        refine EndsK.go (fun _ kz => XS.icmpNo X13.here hx rfl (hb hby d5_11) rfl (tlt (by decide : (5 : Int32) < (6 : Int32))).2.1 kz) ?_
        show EndsK p e below _ (T13.setTop (mkF m 14 #[.val (.ref sb), .val (.ref bb), .val (.int (6 : Int32)), .val (.int (5 : Int32)), .val (.ref b4)] []))
        refine EndsK.go (fun _ kz => XS.aloadN X13.here hx rfl (hb hby d5_14) rfl rfl kz) ?_
        show EndsK p e below _ (T13.setTop (mkF m 15 #[.val (.ref sb), .val (.ref bb), .val (.int (6 : Int32)), .val (.int (5 : Int32)), .val (.ref b4)] [(.ref bb)]))
        refine EndsK.go (fun _ kz => XS.iloadN X13.here hx rfl (hb hby d5_15) rfl kz) ?_
        show EndsK p e below _ (T13.setTop (mkF m 16 #[.val (.ref sb), .val (.ref bb), .val (.int (6 : Int32)), .val (.int (5 : Int32)), .val (.ref b4)] [(.int (5 : Int32)), (.ref bb)]))
        refine EndsK.go (fun tz kz => X13.aaload hx (j := (5 : Int32)) (v := (.ref b5)) (by rw [e13]; exact A1.1) (State.isArrayOf_alike hZ.alike A1.2.1) rfl A1.2.2 w5.1 w5.2 (g := (mkF m 16 #[.val (.ref sb), .val (.ref bb), .val (.int (6 : Int32)), .val (.int (5 : Int32)), .val (.ref b4)] [(.int (5 : Int32)), (.ref bb)])) rfl rfl (hb hby d5_16) tz kz) ?_
        show EndsK p e below _ (T13.setTop (mkF m 17 #[.val (.ref sb), .val (.ref bb), .val (.int (6 : Int32)), .val (.int (5 : Int32)), .val (.ref b4)] [(.ref b5)]))
        refine EndsK.go (fun _ kz => XS.astore X13.here hx rfl (hb hby d5_17) rfl rfl (l' := #[.val (.ref sb), .val (.ref bb), .val (.int (6 : Int32)), .val (.int (5 : Int32)), .val (.ref b5)]) rfl kz) ?_
        show EndsK p e below _ (T13.setTop (mkF m 19 #[.val (.ref sb), .val (.ref bb), .val (.int (6 : Int32)), .val (.int (5 : Int32)), .val (.ref b5)] []))
        refine EndsK.go (fun _ kz => XS.aload X13.here hx rfl (hb hby d5_19) rfl rfl kz) ?_
        show EndsK p e below _ (T13.setTop (mkF m 21 #[.val (.ref sb), .val (.ref bb), .val (.int (6 : Int32)), .val (.int (5 : Int32)), .val (.ref b5)] [(.ref b5)]))
        obtain ⟨T15, X15, e15, st15⟩ := getF X13 hx hZ hown (host := "") (Or.inl (hw _ (List.mem_of_getElem? (i := 51) rfl))) Via.refl e13 (Fb5.ext E1) (g := (mkF m 21 #[.val (.ref sb), .val (.ref bb), .val (.int (6 : Int32)), .val (.int (5 : Int32)), .val (.ref b5)] [(.ref b5)])) rfl rfl (hb hby d5_21)
        refine EndsK.go st15 ?_
        show EndsK p e below _ (T15.setTop (mkF m 24 #[.val (.ref sb), .val (.ref bb), .val (.int (6 : Int32)), .val (.int (5 : Int32)), .val (.ref b5)] [(.ref s5)]))
        refine EndsK.go (fun _ kz => XS.aloadN X15.here hx rfl (hb hby d5_24) rfl rfl kz) ?_
        show EndsK p e below _ (T15.setTop (mkF m 25 #[.val (.ref sb), .val (.ref bb), .val (.int (6 : Int32)), .val (.int (5 : Int32)), .val (.ref b5)] [(.ref sb), (.ref s5)]))
        obtain ⟨cq16, kq16, qa16, qb16, qc16⟩ := isOf hZ e15 (Es5.ext E1)
        obtain ⟨_, _, ⟨T16, L16, k16, n16⟩, -, X16, ⟨Lc16, hQ16, l16, y16, z16⟩, st16⟩ := X15.virtualBack hx (y := (⟨"java/lang/String", "equals", "(Ljava/lang/Object;)Z"⟩ : MethodName)) (z := (⟨"java/lang/String", "equals", "(Ljava/lang/Object;)Z"⟩ : MethodName)) hown (mvT hZ (hw _ (List.mem_of_getElem? (i := 53) rfl))) (mvT hZ (hw _ (List.mem_of_getElem? (i := 54) rfl))) (notFace_of_selects (args := #[]) (mvT hZ (hw _ (List.mem_of_getElem? (i := 56) rfl)))) (mvT hZ (hw _ (List.mem_of_getElem? (i := 56) rfl))) (mvT hZ (hw _ (List.mem_of_getElem? (i := 55) rfl))) (by decide) (backOf (W := 0) (rm_seq21 l Z a0 hw [] s5 sb v5 vb c5 cb zc  h1 n0 Z1 (Es5.ext E1) (Fc5.ext E1) (Fv5.ext E1) hne5 (Et.ext E1) (Ftc.ext E1) (Ftv.ext E1) (SC.ext E1) hzc (Av5.ext E1) (Ab.ext E1) zv5 zb ) hZ (hw _ (List.mem_of_getElem? (i := 57) rfl)) (hw _ (List.mem_of_getElem? (i := 7) rfl)) (by decide) (by decide)) qa16 qc16 (g := (mkF m 25 #[.val (.ref sb), .val (.ref bb), .val (.int (6 : Int32)), .val (.int (5 : Int32)), .val (.ref b5)] [(.ref sb), (.ref s5)])) rfl (by rw [hml]; rfl) (Steps.refl _) (argsL := [(.ref sb)]) (rest := []) (lenOf pd2 rfl) rfl (by show 2 * 0 + _ ≤ _; exact Nat.le_of_eq rfl) (hb hby d5_25) (fun _ _ => ⟨rfl, e15, (by decide : 0 + 1 + 0 + 0 + 0 + 0 + 0 + 0 ≤ _), (by decide : 0 + 6 + 0 + 0 + 0 + 0 + 0 + 0 ≤ _)⟩)
        dsimp only [Pt.U, Pt.locs, Pt.cells, Pt.slots] at X16 l16 y16 z16 st16 hQ16
        subst l16 y16 z16
        obtain ⟨rfl, N16, e16⟩ := hQ16
        have M16 := Fr.app M13 N16
        refine EndsK.tr st16 ?_
        show EndsK p e below _ (T16.setTop (mkF m 28 #[.val (.ref sb), .val (.ref bb), .val (.int (6 : Int32)), .val (.int (5 : Int32)), .val (.ref b5)] [(.int (0 : Int32))]))
        refine EndsK.go (fun _ kz => XS.ifYes X16.here hx rfl (pc0 := 28) (pc' := 34) rfl (hb hby d5_28) rfl ((if0 _ _).trans (teq (rfl : (0 : Int32) = (0 : Int32))).1) (by decide) (by decide) kz) ?_
        show EndsK p e below _ (T16.setTop (mkF m 34 #[.val (.ref sb), .val (.ref bb), .val (.int (6 : Int32)), .val (.int (5 : Int32)), .val (.ref b5)] []))
        refine EndsK.go (fun _ kz => XS.iinc X16.here hx rfl (hb hby d5_34) rfl (l' := #[.val (.ref sb), .val (.ref bb), .val (.int (6 : Int32)), .val (.int (6 : Int32)), .val (.ref b5)]) rfl kz) ?_
        show EndsK p e below _ (T16.setTop (mkF m 37 #[.val (.ref sb), .val (.ref bb), .val (.int (6 : Int32)), .val (.int (6 : Int32)), .val (.ref b5)] []))
        refine EndsK.go (fun _ kz => XS.goto X16.here hx rfl (pc0 := 37) (pc' := 9) rfl (hb hby d5_37) (by decide) (by decide) kz) ?_
        show EndsK p e below _ (T16.setTop (mkF m 9 #[.val (.ref sb), .val (.ref bb), .val (.int (6 : Int32)), .val (.int (6 : Int32)), .val (.ref b5)] []))
        refine EndsK.go (fun _ kz => XS.iloadN X16.here hx rfl (hb hby d5_9) rfl kz) ?_
        show EndsK p e below _ (T16.setTop (mkF m 10 #[.val (.ref sb), .val (.ref bb), .val (.int (6 : Int32)), .val (.int (6 : Int32)), .val (.ref b5)] [(.int (6 : Int32))]))
        refine EndsK.go (fun _ kz => XS.iloadN X16.here hx rfl (hb hby d5_10) rfl kz) ?_
        show EndsK p e below _ (T16.setTop (mkF m 11 #[.val (.ref sb), .val (.ref bb), .val (.int (6 : Int32)), .val (.int (6 : Int32)), .val (.ref b5)] [(.int (6 : Int32)), (.int (6 : Int32))]))
        refine EndsK.go (fun _ kz => XS.icmpYes X16.here hx rfl (pc0 := 11) (pc' := 40) rfl (hb hby d5_11) rfl (flt (by decide : ¬ ((6 : Int32) < (6 : Int32)))).2.1 (by decide) (by decide) kz) ?_
        show EndsK p e below _ (T16.setTop (mkF m 40 #[.val (.ref sb), .val (.ref bb), .val (.int (6 : Int32)), .val (.int (6 : Int32)), .val (.ref b5)] []))
        refine EndsK.go (fun _ kz => XS.aconstNull X16.here hx rfl (hb hby d5_40) kz) ?_
        show EndsK p e below _ (T16.setTop (mkF m 41 #[.val (.ref sb), .val (.ref bb), .val (.int (6 : Int32)), .val (.int (6 : Int32)), .val (.ref b5)] [.null]))
        exact endR X16 hx Bd.returns rfl rfl (hb hby d5_41) hlk ⟨(congrArg some (by simp [ofL, H28_4, H28_9, H28_14] : ofL [((lf1 (61 : Int32) q0), .ref b0), ((0 : Int32), .ref b1), ((lf1 (60 : Int32) q0), .ref b2), ((0 : Int32), .ref b3), ((lf1 (62 : Int32) q0), .ref b4), ((0 : Int32), .ref b5)] = .null)).symm, M16, by rw [e16]; exact E1⟩ (by decide) (by decide)
      · refine EndsK.go (fun _ kz => XS.ifNo X13.here hx rfl (hb hby d5_28) rfl ((if0 _ _).trans (feq H28_14).1) kz) ?_
        show EndsK p e below _ (T13.setTop (mkF m 31 #[.val (.ref sb), .val (.ref bb), .val (.int (6 : Int32)), .val (.int (4 : Int32)), .val (.ref b4)] []))
        refine EndsK.go (fun _ kz => XS.aload X13.here hx rfl (hb hby d5_31) rfl rfl kz) ?_
        show EndsK p e below _ (T13.setTop (mkF m 33 #[.val (.ref sb), .val (.ref bb), .val (.int (6 : Int32)), .val (.int (4 : Int32)), .val (.ref b4)] [(.ref b4)]))
        exact endR X13 hx Bd.returns rfl rfl (hb hby d5_33) hlk ⟨(congrArg some (by simp [ofL, H28_4, H28_9, H28_14] : ofL [((lf1 (61 : Int32) q0), .ref b0), ((0 : Int32), .ref b1), ((lf1 (60 : Int32) q0), .ref b2), ((0 : Int32), .ref b3), ((lf1 (62 : Int32) q0), .ref b4), ((0 : Int32), .ref b5)] = (.ref b4))).symm, M13, by rw [e13]; exact E1⟩ (by decide) (by decide)
    · refine EndsK.go (fun _ kz => XS.ifNo X8.here hx rfl (hb hby d5_28) rfl ((if0 _ _).trans (feq H28_9).1) kz) ?_
      show EndsK p e below _ (T8.setTop (mkF m 31 #[.val (.ref sb), .val (.ref bb), .val (.int (6 : Int32)), .val (.int (2 : Int32)), .val (.ref b2)] []))
      refine EndsK.go (fun _ kz => XS.aload X8.here hx rfl (hb hby d5_31) rfl rfl kz) ?_
      show EndsK p e below _ (T8.setTop (mkF m 33 #[.val (.ref sb), .val (.ref bb), .val (.int (6 : Int32)), .val (.int (2 : Int32)), .val (.ref b2)] [(.ref b2)]))
      exact endR X8 hx Bd.returns rfl rfl (hb hby d5_33) hlk ⟨(congrArg some (by simp [ofL, H28_4, H28_9] : ofL [((lf1 (61 : Int32) q0), .ref b0), ((0 : Int32), .ref b1), ((lf1 (60 : Int32) q0), .ref b2), ((0 : Int32), .ref b3), ((lf1 (62 : Int32) q0), .ref b4), ((0 : Int32), .ref b5)] = (.ref b2))).symm, M8, by rw [e8]; exact E1⟩ (by decide) (by decide)
  · refine EndsK.go (fun _ kz => XS.ifNo X3.here hx rfl (hb hby d5_28) rfl ((if0 _ _).trans (feq H28_4).1) kz) ?_
    show EndsK p e below _ (T3.setTop (mkF m 31 #[.val (.ref sb), .val (.ref bb), .val (.int (6 : Int32)), .val (.int (0 : Int32)), .val (.ref b0)] []))
    refine EndsK.go (fun _ kz => XS.aload X3.here hx rfl (hb hby d5_31) rfl rfl kz) ?_
    show EndsK p e below _ (T3.setTop (mkF m 33 #[.val (.ref sb), .val (.ref bb), .val (.int (6 : Int32)), .val (.int (0 : Int32)), .val (.ref b0)] [(.ref b0)]))
    exact endR X3 hx Bd.returns rfl rfl (hb hby d5_33) hlk ⟨(congrArg some (by simp [ofL, H28_4] : ofL [((lf1 (61 : Int32) q0), .ref b0), ((0 : Int32), .ref b1), ((lf1 (60 : Int32) q0), .ref b2), ((0 : Int32), .ref b3), ((lf1 (62 : Int32) q0), .ref b4), ((0 : Int32), .ref b5)] = (.ref b0))).symm, M3, by rw [e3]; exact E1⟩ (by decide) (by decide)
theorem ef_of2 (m : MethodId) (sb : Addr) (vb : Addr) (cb : Cell) (zc : Int32) (q0 : Int32) (q1 : Int32) (av : Addr) (cv : Cell) (b0 : Addr) (b1 : Addr) (b2 : Addr) (b3 : Addr) (b4 : Addr) (b5 : Addr) (s0 : Addr) (s1 : Addr) (s2 : Addr) (s3 : Addr) (s4 : Addr) (s5 : Addr) (v0 : Addr) (v1 : Addr) (v2 : Addr) (v3 : Addr) (v4 : Addr) (v5 : Addr) (c0 : Cell) (c1 : Cell) (c2 : Cell) (c3 : Cell) (c4 : Cell) (c5 : Cell) : entryFrame m #[(.ref sb)] 5 = mkF m 0 #[.val (.ref sb), .unset, .unset, .unset, .unset] [] := by first | (simp [entryFrame, mkF, argsToLocals, Value.category]; done) | rfl
def Q_of2 (Z : State) (sb : Addr) (vb : Addr) (cb : Cell) (zc : Int32) (q0 : Int32) (q1 : Int32) (av : Addr) (cv : Cell) (b0 : Addr) (b1 : Addr) (b2 : Addr) (b3 : Addr) (b4 : Addr) (b5 : Addr) (s0 : Addr) (s1 : Addr) (s2 : Addr) (s3 : Addr) (s4 : Addr) (s5 : Addr) (v0 : Addr) (v1 : Addr) (v2 : Addr) (v3 : Addr) (v4 : Addr) (v5 : Addr) (c0 : Cell) (c1 : Cell) (c2 : Cell) (c3 : Cell) (c4 : Cell) (c5 : Cell) (h0 : Heap) (n0 : Nat) (vz : Option Value) (hz : Heap) (Lz : List Loc) : Prop := vz = some (ofL [((0 : Int32), .ref b0), ((lf2 (33 : Int32) (61 : Int32) q0 q1), .ref b1), ((0 : Int32), .ref b2), ((lf2 (60 : Int32) (61 : Int32) q0 q1), .ref b3), ((0 : Int32), .ref b4), ((lf2 (62 : Int32) (61 : Int32) q0 q1), .ref b5)]) ∧ Fr n0 Lz ∧ Ext h0 hz
set_option maxRecDepth 65536 in
set_option maxHeartbeats 40000000 in
theorem rm_of2 (l : Launch) (Z : State) (a0 : Array Value) (hw : ∀ d ∈ tables_1, d.before a0 Z = true) (ws : List Jvm.Cond) (sb : Addr) (vb : Addr) (cb : Cell) (zc : Int32) (q0 : Int32) (q1 : Int32) (av : Addr) (cv : Cell) (b0 : Addr) (b1 : Addr) (b2 : Addr) (b3 : Addr) (b4 : Addr) (b5 : Addr) (s0 : Addr) (s1 : Addr) (s2 : Addr) (s3 : Addr) (s4 : Addr) (s5 : Addr) (v0 : Addr) (v1 : Addr) (v2 : Addr) (v3 : Addr) (v4 : Addr) (v5 : Addr) (c0 : Cell) (c1 : Cell) (c2 : Cell) (c3 : Cell) (c4 : Cell) (c5 : Cell) (h0 : Heap) (n0 : Nat) (Z0 : n0 ≤ h0.size) (hne0 : ¬ s0 = sb) (hne1 : ¬ s1 = sb) (hne2 : ¬ s2 = sb) (hne3 : ¬ s3 = sb) (hne4 : ¬ s4 = sb) (hne5 : ¬ s5 = sb) (Et : Exa Z h0 sb "java/lang/String") (Ftc : Fld Z h0 sb "java/lang/String" "coder" "B" (.int (0 : Int32))) (Ftv : Fld Z h0 sb "java/lang/String" "value" "[B" (.ref vb)) (SC : Sta Z h0 "java/lang/String" "COMPACT_STRINGS" "Z" (.int zc)) (hzc : ¬ (zc = (0 : Int32))) (Ab : Arr Z h0 vb cb .byte) (zb : cb.slots.size.toInt32 = (2 : Int32)) (ub0 : ¬ ((0 : Int32) < 0 ∨ cb.slots.size ≤ (0 : Int32).toNatClampNeg) ∧ cb.slots[(0 : Int32).toNatClampNeg]? = some (.int q0)) (ub1 : ¬ ((1 : Int32) < 0 ∨ cb.slots.size ≤ (1 : Int32).toNatClampNeg) ∧ cb.slots[(1 : Int32).toNatClampNeg]? = some (.int q1)) (SV : Sta Z h0 "com/example/windrow/windrow/Condition$Comparison" "$VALUES" "[Lcom/example/windrow/windrow/Condition$Comparison;" (.ref av)) (AV : Arr Z h0 av cv (.object "com/example/windrow/windrow/Condition$Comparison")) (EV : Exa Z h0 av "[Lcom/example/windrow/windrow/Condition$Comparison;") (FV : FitC Z cv) (hsz : cv.slots.size = 6) (w0 : ¬ ((0 : Int32) < 0 ∨ cv.slots.size ≤ (0 : Int32).toNatClampNeg) ∧ cv.slots[(0 : Int32).toNatClampNeg]? = some (.ref b0)) (Fb0 : Fld Z h0 b0 "com/example/windrow/windrow/Condition$Comparison" "symbol" "Ljava/lang/String;" (.ref s0)) (Es0 : Exa Z h0 s0 "java/lang/String") (Fc0 : Fld Z h0 s0 "java/lang/String" "coder" "B" (.int (0 : Int32))) (Fv0 : Fld Z h0 s0 "java/lang/String" "value" "[B" (.ref v0)) (Av0 : Arr Z h0 v0 c0 .byte) (zv0 : c0.slots.size.toInt32 = (1 : Int32)) (uv0_0 : ¬ ((0 : Int32) < 0 ∨ c0.slots.size ≤ (0 : Int32).toNatClampNeg) ∧ c0.slots[(0 : Int32).toNatClampNeg]? = some (.int (61 : Int32))) (w1 : ¬ ((1 : Int32) < 0 ∨ cv.slots.size ≤ (1 : Int32).toNatClampNeg) ∧ cv.slots[(1 : Int32).toNatClampNeg]? = some (.ref b1)) (Fb1 : Fld Z h0 b1 "com/example/windrow/windrow/Condition$Comparison" "symbol" "Ljava/lang/String;" (.ref s1)) (Es1 : Exa Z h0 s1 "java/lang/String") (Fc1 : Fld Z h0 s1 "java/lang/String" "coder" "B" (.int (0 : Int32))) (Fv1 : Fld Z h0 s1 "java/lang/String" "value" "[B" (.ref v1)) (Av1 : Arr Z h0 v1 c1 .byte) (zv1 : c1.slots.size.toInt32 = (2 : Int32)) (uv1_0 : ¬ ((0 : Int32) < 0 ∨ c1.slots.size ≤ (0 : Int32).toNatClampNeg) ∧ c1.slots[(0 : Int32).toNatClampNeg]? = some (.int (33 : Int32))) (uv1_1 : ¬ ((1 : Int32) < 0 ∨ c1.slots.size ≤ (1 : Int32).toNatClampNeg) ∧ c1.slots[(1 : Int32).toNatClampNeg]? = some (.int (61 : Int32))) (w2 : ¬ ((2 : Int32) < 0 ∨ cv.slots.size ≤ (2 : Int32).toNatClampNeg) ∧ cv.slots[(2 : Int32).toNatClampNeg]? = some (.ref b2)) (Fb2 : Fld Z h0 b2 "com/example/windrow/windrow/Condition$Comparison" "symbol" "Ljava/lang/String;" (.ref s2)) (Es2 : Exa Z h0 s2 "java/lang/String") (Fc2 : Fld Z h0 s2 "java/lang/String" "coder" "B" (.int (0 : Int32))) (Fv2 : Fld Z h0 s2 "java/lang/String" "value" "[B" (.ref v2)) (Av2 : Arr Z h0 v2 c2 .byte) (zv2 : c2.slots.size.toInt32 = (1 : Int32)) (uv2_0 : ¬ ((0 : Int32) < 0 ∨ c2.slots.size ≤ (0 : Int32).toNatClampNeg) ∧ c2.slots[(0 : Int32).toNatClampNeg]? = some (.int (60 : Int32))) (w3 : ¬ ((3 : Int32) < 0 ∨ cv.slots.size ≤ (3 : Int32).toNatClampNeg) ∧ cv.slots[(3 : Int32).toNatClampNeg]? = some (.ref b3)) (Fb3 : Fld Z h0 b3 "com/example/windrow/windrow/Condition$Comparison" "symbol" "Ljava/lang/String;" (.ref s3)) (Es3 : Exa Z h0 s3 "java/lang/String") (Fc3 : Fld Z h0 s3 "java/lang/String" "coder" "B" (.int (0 : Int32))) (Fv3 : Fld Z h0 s3 "java/lang/String" "value" "[B" (.ref v3)) (Av3 : Arr Z h0 v3 c3 .byte) (zv3 : c3.slots.size.toInt32 = (2 : Int32)) (uv3_0 : ¬ ((0 : Int32) < 0 ∨ c3.slots.size ≤ (0 : Int32).toNatClampNeg) ∧ c3.slots[(0 : Int32).toNatClampNeg]? = some (.int (60 : Int32))) (uv3_1 : ¬ ((1 : Int32) < 0 ∨ c3.slots.size ≤ (1 : Int32).toNatClampNeg) ∧ c3.slots[(1 : Int32).toNatClampNeg]? = some (.int (61 : Int32))) (w4 : ¬ ((4 : Int32) < 0 ∨ cv.slots.size ≤ (4 : Int32).toNatClampNeg) ∧ cv.slots[(4 : Int32).toNatClampNeg]? = some (.ref b4)) (Fb4 : Fld Z h0 b4 "com/example/windrow/windrow/Condition$Comparison" "symbol" "Ljava/lang/String;" (.ref s4)) (Es4 : Exa Z h0 s4 "java/lang/String") (Fc4 : Fld Z h0 s4 "java/lang/String" "coder" "B" (.int (0 : Int32))) (Fv4 : Fld Z h0 s4 "java/lang/String" "value" "[B" (.ref v4)) (Av4 : Arr Z h0 v4 c4 .byte) (zv4 : c4.slots.size.toInt32 = (1 : Int32)) (uv4_0 : ¬ ((0 : Int32) < 0 ∨ c4.slots.size ≤ (0 : Int32).toNatClampNeg) ∧ c4.slots[(0 : Int32).toNatClampNeg]? = some (.int (62 : Int32))) (w5 : ¬ ((5 : Int32) < 0 ∨ cv.slots.size ≤ (5 : Int32).toNatClampNeg) ∧ cv.slots[(5 : Int32).toNatClampNeg]? = some (.ref b5)) (Fb5 : Fld Z h0 b5 "com/example/windrow/windrow/Condition$Comparison" "symbol" "Ljava/lang/String;" (.ref s5)) (Es5 : Exa Z h0 s5 "java/lang/String") (Fc5 : Fld Z h0 s5 "java/lang/String" "coder" "B" (.int (0 : Int32))) (Fv5 : Fld Z h0 s5 "java/lang/String" "value" "[B" (.ref v5)) (Av5 : Arr Z h0 v5 c5 .byte) (zv5 : c5.slots.size.toInt32 = (2 : Int32)) (uv5_0 : ¬ ((0 : Int32) < 0 ∨ c5.slots.size ≤ (0 : Int32).toNatClampNeg) ∧ c5.slots[(0 : Int32).toNatClampNeg]? = some (.int (62 : Int32))) (uv5_1 : ¬ ((1 : Int32) < 0 ∨ c5.slots.size ≤ (1 : Int32).toNatClampNeg) ∧ c5.slots[(1 : Int32).toNatClampNeg]? = some (.int (61 : Int32))) :
    MetFree l (⟨"com/example/windrow/windrow/Condition$Comparison", "of", "(Ljava/lang/String;)Lcom/example/windrow/windrow/Condition$Comparison;"⟩ : MethodName) (head1 (Jvm.Cond.code (⟨"com/example/windrow/windrow/Condition$Comparison", "of", "(Ljava/lang/String;)Lcom/example/windrow/windrow/Condition$Comparison;"⟩ : MethodName) prog_20_method_4_code 5 (some (.object "com/example/windrow/windrow/Condition$Comparison")) :: ws) ({ frames := 2, cells := 1, slots := 6, locals := 30 } : Room)) (fun az Uz => az = #[(.ref sb)] ∧ Z.Warmed39 Uz.vm ∧ Uz.heap = h0) (fun _ _ _ _ _ => True) (fun _ Uz oz Ut => ∃ vz Lz, oz = .returned vz ∧ Q_of2 Z sb vb cb zc q0 q1 av cv b0 b1 b2 b3 b4 b5 s0 s1 s2 s3 s4 s5 v0 v1 v2 v3 v4 v5 c0 c1 c2 c3 c4 c5 h0 n0 vz Ut.heap Lz ∧ FrameEnd Uz oz Ut Lz (({ frames := 2, cells := 1, slots := 6, locals := 30 } : Room)).cells (({ frames := 2, cells := 1, slots := 6, locals := 30 } : Room)).slots) := by
  refine MetFree.of_bodySF (plainFor_of_name pn3) hisR ?_
  intro p e s m args below meth c s₁ Bd hml0 hP hK
  obtain ⟨rfl, hZ, hh⟩ := hP
  have hx := Bd.exec
  have hby := Bd.bytes
  have hml : c.maxLocals = 5 := hml0
  have hown : s.vm.findClass "com/example/windrow/windrow/Condition$Comparison" = some m.cls := findClass_of_methodNamed Bd.named
  have hnm := (name_of_methodNamed Bd.named Bd.method).1
  have hlk : meth.locks = false := Bd.notSynchronized
  have X0 : Stand p l e ({ frames := 2, cells := 1, slots := 6, locals := 30 } : Room) s m #[(.ref sb)] below meth c s₁ [] 0 0 := Stand.of_body Bd
  have e0 : s₁.heap = h0 := by rw [← hh, Bd.state]; rfl
  have N0 := Fr.nil n0
  show EndsK p e below (OQ s (Q_of2 Z sb vb cb zc q0 q1 av cv b0 b1 b2 b3 b4 b5 s0 s1 s2 s3 s4 s5 v0 v1 v2 v3 v4 v5 c0 c1 c2 c3 c4 c5 h0 n0) (({ frames := 2, cells := 1, slots := 6, locals := 30 } : Room)).cells (({ frames := 2, cells := 1, slots := 6, locals := 30 } : Room)).slots) (s₁.setTop (entryFrame m #[(.ref sb)] 5))
  refine EndsK.start (ef_of2 m sb vb cb zc q0 q1 av cv b0 b1 b2 b3 b4 b5 s0 s1 s2 s3 s4 s5 v0 v1 v2 v3 v4 v5 c0 c1 c2 c3 c4 c5) ?_
  show EndsK p e below _ (s₁.setTop (mkF m 0 #[.val (.ref sb), .unset, .unset, .unset, .unset] []))
  obtain ⟨_, _, ⟨T1, L1, k1, n1⟩, -, X1, ⟨Lc1, hQ1, l1, y1, z1⟩, st1⟩ := Jvm.LawKit.callS X0 hx (y := (⟨"com/example/windrow/windrow/Condition$Comparison", "values", "()[Lcom/example/windrow/windrow/Condition$Comparison;"⟩ : MethodName)) hown (mvT hZ (hw _ (List.mem_of_getElem? (i := 30) rfl))) (mvT hZ (hw _ (List.mem_of_getElem? (i := 31) rfl))) (mvT hZ (hw _ (List.mem_of_getElem? (i := 28) rfl))) (mvT hZ (hw _ (List.mem_of_getElem? (i := 32) rfl))) (by decide) (backOf (W := 0) (rm_vals l Z a0 hw [] av cv h0 n0 Z0 SV AV EV FV hsz) hZ (hw _ (List.mem_of_getElem? (i := 32) rfl)) (hw _ (List.mem_of_getElem? (i := 28) rfl)) (by decide) (by decide)) (g := (mkF m 0 #[.val (.ref sb), .unset, .unset, .unset, .unset] [])) rfl (by rw [hml]; rfl) (argsL := []) (rest := []) (lenOf pd1 rfl) rfl (by show 2 * 0 + _ ≤ _; exact Nat.le_of_eq rfl) (hb hby d5_0) (fun _ _ => ⟨rfl, e0, (by decide : 0 + 1 ≤ _), (by decide : 0 + 6 ≤ _)⟩)
  dsimp only [Pt.U, Pt.locs, Pt.cells, Pt.slots] at X1 l1 y1 z1 st1 hQ1
  subst l1 y1 z1
  obtain ⟨bb, rfl, N1, E1, A1⟩ := hQ1
  have M1 := Fr.app N0 N1
  obtain ⟨h1, e1⟩ : ∃ z, T1.heap = z := ⟨_, rfl⟩
  rw [e1] at E1 A1
  have Z1 : n0 ≤ h1.size := Nat.le_trans Z0 E1.1
  have hs6 : (cloneOf cv).slots.size.toInt32 = (6 : Int32) := by show cv.slots.size.toInt32 = _; rw [hsz]; rfl
  refine EndsK.go st1 ?_
  show EndsK p e below _ (T1.setTop (mkF m 3 #[.val (.ref sb), .unset, .unset, .unset, .unset] [(.ref bb)]))
  refine EndsK.go (fun _ kz => XS.astoreN X1.here hx rfl (hb hby d5_3) rfl rfl (l' := #[.val (.ref sb), .val (.ref bb), .unset, .unset, .unset]) rfl kz) ?_
  show EndsK p e below _ (T1.setTop (mkF m 4 #[.val (.ref sb), .val (.ref bb), .unset, .unset, .unset] []))
  refine EndsK.go (fun _ kz => XS.aloadN X1.here hx rfl (hb hby d5_4) rfl rfl kz) ?_
  show EndsK p e below _ (T1.setTop (mkF m 5 #[.val (.ref sb), .val (.ref bb), .unset, .unset, .unset] [(.ref bb)]))
  refine EndsK.go (fun tz kz => X1.arraylength hx (by rw [e1]; exact A1.1) (State.isArrayOf_alike hZ.alike A1.2.1) (g := (mkF m 5 #[.val (.ref sb), .val (.ref bb), .unset, .unset, .unset] [(.ref bb)])) rfl rfl (hb hby d5_5) tz kz) ?_
  rw [hs6]
  show EndsK p e below _ (T1.setTop (mkF m 6 #[.val (.ref sb), .val (.ref bb), .unset, .unset, .unset] [(.int (6 : Int32))]))
  refine EndsK.go (fun _ kz => XS.istoreN X1.here hx rfl (hb hby d5_6) rfl (l' := #[.val (.ref sb), .val (.ref bb), .val (.int (6 : Int32)), .unset, .unset]) rfl kz) ?_
  show EndsK p e below _ (T1.setTop (mkF m 7 #[.val (.ref sb), .val (.ref bb), .val (.int (6 : Int32)), .unset, .unset] []))
  refine EndsK.go (fun _ kz => XS.iconst X1.here hx rfl (hb hby d5_7) kz) ?_
  show EndsK p e below _ (T1.setTop (mkF m 8 #[.val (.ref sb), .val (.ref bb), .val (.int (6 : Int32)), .unset, .unset] [(.int (0 : Int32))]))
  refine EndsK.go (fun _ kz => XS.istoreN X1.here hx rfl (hb hby d5_8) rfl (l' := #[.val (.ref sb), .val (.ref bb), .val (.int (6 : Int32)), .val (.int (0 : Int32)), .unset]) rfl kz) ?_
  show EndsK p e below _ (T1.setTop (mkF m 9 #[.val (.ref sb), .val (.ref bb), .val (.int (6 : Int32)), .val (.int (0 : Int32)), .unset] []))
  refine EndsK.go (fun _ kz => XS.iloadN X1.here hx rfl (hb hby d5_9) rfl kz) ?_
  show EndsK p e below _ (T1.setTop (mkF m 10 #[.val (.ref sb), .val (.ref bb), .val (.int (6 : Int32)), .val (.int (0 : Int32)), .unset] [(.int (0 : Int32))]))
  refine EndsK.go (fun _ kz => XS.iloadN X1.here hx rfl (hb hby d5_10) rfl kz) ?_
  show EndsK p e below _ (T1.setTop (mkF m 11 #[.val (.ref sb), .val (.ref bb), .val (.int (6 : Int32)), .val (.int (0 : Int32)), .unset] [(.int (6 : Int32)), (.int (0 : Int32))]))
  refine EndsK.go (fun _ kz => XS.icmpNo X1.here hx rfl (hb hby d5_11) rfl (tlt (by decide : (0 : Int32) < (6 : Int32))).2.1 kz) ?_
  show EndsK p e below _ (T1.setTop (mkF m 14 #[.val (.ref sb), .val (.ref bb), .val (.int (6 : Int32)), .val (.int (0 : Int32)), .unset] []))
  refine EndsK.go (fun _ kz => XS.aloadN X1.here hx rfl (hb hby d5_14) rfl rfl kz) ?_
  show EndsK p e below _ (T1.setTop (mkF m 15 #[.val (.ref sb), .val (.ref bb), .val (.int (6 : Int32)), .val (.int (0 : Int32)), .unset] [(.ref bb)]))
  refine EndsK.go (fun _ kz => XS.iloadN X1.here hx rfl (hb hby d5_15) rfl kz) ?_
  show EndsK p e below _ (T1.setTop (mkF m 16 #[.val (.ref sb), .val (.ref bb), .val (.int (6 : Int32)), .val (.int (0 : Int32)), .unset] [(.int (0 : Int32)), (.ref bb)]))
  refine EndsK.go (fun tz kz => X1.aaload hx (j := (0 : Int32)) (v := (.ref b0)) (by rw [e1]; exact A1.1) (State.isArrayOf_alike hZ.alike A1.2.1) rfl A1.2.2 w0.1 w0.2 (g := (mkF m 16 #[.val (.ref sb), .val (.ref bb), .val (.int (6 : Int32)), .val (.int (0 : Int32)), .unset] [(.int (0 : Int32)), (.ref bb)])) rfl rfl (hb hby d5_16) tz kz) ?_
  show EndsK p e below _ (T1.setTop (mkF m 17 #[.val (.ref sb), .val (.ref bb), .val (.int (6 : Int32)), .val (.int (0 : Int32)), .unset] [(.ref b0)]))
  refine EndsK.go (fun _ kz => XS.astore X1.here hx rfl (hb hby d5_17) rfl rfl (l' := #[.val (.ref sb), .val (.ref bb), .val (.int (6 : Int32)), .val (.int (0 : Int32)), .val (.ref b0)]) rfl kz) ?_
  show EndsK p e below _ (T1.setTop (mkF m 19 #[.val (.ref sb), .val (.ref bb), .val (.int (6 : Int32)), .val (.int (0 : Int32)), .val (.ref b0)] []))
  refine EndsK.go (fun _ kz => XS.aload X1.here hx rfl (hb hby d5_19) rfl rfl kz) ?_
  show EndsK p e below _ (T1.setTop (mkF m 21 #[.val (.ref sb), .val (.ref bb), .val (.int (6 : Int32)), .val (.int (0 : Int32)), .val (.ref b0)] [(.ref b0)]))
  obtain ⟨T2, X2, e2, st2⟩ := getF X1 hx hZ hown (host := "") (Or.inl (hw _ (List.mem_of_getElem? (i := 51) rfl))) Via.refl e1 (Fb0.ext E1) (g := (mkF m 21 #[.val (.ref sb), .val (.ref bb), .val (.int (6 : Int32)), .val (.int (0 : Int32)), .val (.ref b0)] [(.ref b0)])) rfl rfl (hb hby d5_21)
  refine EndsK.go st2 ?_
  show EndsK p e below _ (T2.setTop (mkF m 24 #[.val (.ref sb), .val (.ref bb), .val (.int (6 : Int32)), .val (.int (0 : Int32)), .val (.ref b0)] [(.ref s0)]))
  refine EndsK.go (fun _ kz => XS.aloadN X2.here hx rfl (hb hby d5_24) rfl rfl kz) ?_
  show EndsK p e below _ (T2.setTop (mkF m 25 #[.val (.ref sb), .val (.ref bb), .val (.int (6 : Int32)), .val (.int (0 : Int32)), .val (.ref b0)] [(.ref sb), (.ref s0)]))
  obtain ⟨cq3, kq3, qa3, qb3, qc3⟩ := isOf hZ e2 (Es0.ext E1)
  obtain ⟨_, _, ⟨T3, L3, k3, n3⟩, -, X3, ⟨Lc3, hQ3, l3, y3, z3⟩, st3⟩ := X2.virtualBack hx (y := (⟨"java/lang/String", "equals", "(Ljava/lang/Object;)Z"⟩ : MethodName)) (z := (⟨"java/lang/String", "equals", "(Ljava/lang/Object;)Z"⟩ : MethodName)) hown (mvT hZ (hw _ (List.mem_of_getElem? (i := 53) rfl))) (mvT hZ (hw _ (List.mem_of_getElem? (i := 54) rfl))) (notFace_of_selects (args := #[]) (mvT hZ (hw _ (List.mem_of_getElem? (i := 56) rfl)))) (mvT hZ (hw _ (List.mem_of_getElem? (i := 56) rfl))) (mvT hZ (hw _ (List.mem_of_getElem? (i := 55) rfl))) (by decide) (backOf (W := 0) (rm_seq12 l Z a0 hw [] s0 sb v0 vb c0 cb zc  h1 n0 Z1 (Es0.ext E1) (Fc0.ext E1) (Fv0.ext E1) hne0 (Et.ext E1) (Ftc.ext E1) (Ftv.ext E1) (SC.ext E1) hzc (Av0.ext E1) (Ab.ext E1) zv0 zb ) hZ (hw _ (List.mem_of_getElem? (i := 57) rfl)) (hw _ (List.mem_of_getElem? (i := 7) rfl)) (by decide) (by decide)) qa3 qc3 (g := (mkF m 25 #[.val (.ref sb), .val (.ref bb), .val (.int (6 : Int32)), .val (.int (0 : Int32)), .val (.ref b0)] [(.ref sb), (.ref s0)])) rfl (by rw [hml]; rfl) (Steps.refl _) (argsL := [(.ref sb)]) (rest := []) (lenOf pd2 rfl) rfl (by show 2 * 0 + _ ≤ _; exact Nat.le_of_eq rfl) (hb hby d5_25) (fun _ _ => ⟨rfl, e2, (by decide : 0 + 1 + 0 ≤ _), (by decide : 0 + 6 + 0 ≤ _)⟩)
  dsimp only [Pt.U, Pt.locs, Pt.cells, Pt.slots] at X3 l3 y3 z3 st3 hQ3
  subst l3 y3 z3
  obtain ⟨rfl, N3, e3⟩ := hQ3
  have M3 := Fr.app M1 N3
  refine EndsK.tr st3 ?_
  show EndsK p e below _ (T3.setTop (mkF m 28 #[.val (.ref sb), .val (.ref bb), .val (.int (6 : Int32)), .val (.int (0 : Int32)), .val (.ref b0)] [(.int (0 : Int32))]))
  refine EndsK.go (fun _ kz => XS.ifYes X3.here hx rfl (pc0 := 28) (pc' := 34) rfl (hb hby d5_28) rfl ((if0 _ _).trans (teq (rfl : (0 : Int32) = (0 : Int32))).1) (by decide) (by decide) kz) ?_
  show EndsK p e below _ (T3.setTop (mkF m 34 #[.val (.ref sb), .val (.ref bb), .val (.int (6 : Int32)), .val (.int (0 : Int32)), .val (.ref b0)] []))
  refine EndsK.go (fun _ kz => XS.iinc X3.here hx rfl (hb hby d5_34) rfl (l' := #[.val (.ref sb), .val (.ref bb), .val (.int (6 : Int32)), .val (.int (1 : Int32)), .val (.ref b0)]) rfl kz) ?_
  show EndsK p e below _ (T3.setTop (mkF m 37 #[.val (.ref sb), .val (.ref bb), .val (.int (6 : Int32)), .val (.int (1 : Int32)), .val (.ref b0)] []))
  refine EndsK.go (fun _ kz => XS.goto X3.here hx rfl (pc0 := 37) (pc' := 9) rfl (hb hby d5_37) (by decide) (by decide) kz) ?_
  show EndsK p e below _ (T3.setTop (mkF m 9 #[.val (.ref sb), .val (.ref bb), .val (.int (6 : Int32)), .val (.int (1 : Int32)), .val (.ref b0)] []))
  refine EndsK.go (fun _ kz => XS.iloadN X3.here hx rfl (hb hby d5_9) rfl kz) ?_
  show EndsK p e below _ (T3.setTop (mkF m 10 #[.val (.ref sb), .val (.ref bb), .val (.int (6 : Int32)), .val (.int (1 : Int32)), .val (.ref b0)] [(.int (1 : Int32))]))
  refine EndsK.go (fun _ kz => XS.iloadN X3.here hx rfl (hb hby d5_10) rfl kz) ?_
  show EndsK p e below _ (T3.setTop (mkF m 11 #[.val (.ref sb), .val (.ref bb), .val (.int (6 : Int32)), .val (.int (1 : Int32)), .val (.ref b0)] [(.int (6 : Int32)), (.int (1 : Int32))]))
  refine EndsK.go (fun _ kz => XS.icmpNo X3.here hx rfl (hb hby d5_11) rfl (tlt (by decide : (1 : Int32) < (6 : Int32))).2.1 kz) ?_
  show EndsK p e below _ (T3.setTop (mkF m 14 #[.val (.ref sb), .val (.ref bb), .val (.int (6 : Int32)), .val (.int (1 : Int32)), .val (.ref b0)] []))
  refine EndsK.go (fun _ kz => XS.aloadN X3.here hx rfl (hb hby d5_14) rfl rfl kz) ?_
  show EndsK p e below _ (T3.setTop (mkF m 15 #[.val (.ref sb), .val (.ref bb), .val (.int (6 : Int32)), .val (.int (1 : Int32)), .val (.ref b0)] [(.ref bb)]))
  refine EndsK.go (fun _ kz => XS.iloadN X3.here hx rfl (hb hby d5_15) rfl kz) ?_
  show EndsK p e below _ (T3.setTop (mkF m 16 #[.val (.ref sb), .val (.ref bb), .val (.int (6 : Int32)), .val (.int (1 : Int32)), .val (.ref b0)] [(.int (1 : Int32)), (.ref bb)]))
  refine EndsK.go (fun tz kz => X3.aaload hx (j := (1 : Int32)) (v := (.ref b1)) (by rw [e3]; exact A1.1) (State.isArrayOf_alike hZ.alike A1.2.1) rfl A1.2.2 w1.1 w1.2 (g := (mkF m 16 #[.val (.ref sb), .val (.ref bb), .val (.int (6 : Int32)), .val (.int (1 : Int32)), .val (.ref b0)] [(.int (1 : Int32)), (.ref bb)])) rfl rfl (hb hby d5_16) tz kz) ?_
  show EndsK p e below _ (T3.setTop (mkF m 17 #[.val (.ref sb), .val (.ref bb), .val (.int (6 : Int32)), .val (.int (1 : Int32)), .val (.ref b0)] [(.ref b1)]))
  refine EndsK.go (fun _ kz => XS.astore X3.here hx rfl (hb hby d5_17) rfl rfl (l' := #[.val (.ref sb), .val (.ref bb), .val (.int (6 : Int32)), .val (.int (1 : Int32)), .val (.ref b1)]) rfl kz) ?_
  show EndsK p e below _ (T3.setTop (mkF m 19 #[.val (.ref sb), .val (.ref bb), .val (.int (6 : Int32)), .val (.int (1 : Int32)), .val (.ref b1)] []))
  refine EndsK.go (fun _ kz => XS.aload X3.here hx rfl (hb hby d5_19) rfl rfl kz) ?_
  show EndsK p e below _ (T3.setTop (mkF m 21 #[.val (.ref sb), .val (.ref bb), .val (.int (6 : Int32)), .val (.int (1 : Int32)), .val (.ref b1)] [(.ref b1)]))
  obtain ⟨T4, X4, e4, st4⟩ := getF X3 hx hZ hown (host := "") (Or.inl (hw _ (List.mem_of_getElem? (i := 51) rfl))) Via.refl e3 (Fb1.ext E1) (g := (mkF m 21 #[.val (.ref sb), .val (.ref bb), .val (.int (6 : Int32)), .val (.int (1 : Int32)), .val (.ref b1)] [(.ref b1)])) rfl rfl (hb hby d5_21)
  refine EndsK.go st4 ?_
  show EndsK p e below _ (T4.setTop (mkF m 24 #[.val (.ref sb), .val (.ref bb), .val (.int (6 : Int32)), .val (.int (1 : Int32)), .val (.ref b1)] [(.ref s1)]))
  refine EndsK.go (fun _ kz => XS.aloadN X4.here hx rfl (hb hby d5_24) rfl rfl kz) ?_
  show EndsK p e below _ (T4.setTop (mkF m 25 #[.val (.ref sb), .val (.ref bb), .val (.int (6 : Int32)), .val (.int (1 : Int32)), .val (.ref b1)] [(.ref sb), (.ref s1)]))
  obtain ⟨cq5, kq5, qa5, qb5, qc5⟩ := isOf hZ e4 (Es1.ext E1)
  obtain ⟨_, _, ⟨T5, L5, k5, n5⟩, -, X5, ⟨Lc5, hQ5, l5, y5, z5⟩, st5⟩ := X4.virtualBack hx (y := (⟨"java/lang/String", "equals", "(Ljava/lang/Object;)Z"⟩ : MethodName)) (z := (⟨"java/lang/String", "equals", "(Ljava/lang/Object;)Z"⟩ : MethodName)) hown (mvT hZ (hw _ (List.mem_of_getElem? (i := 53) rfl))) (mvT hZ (hw _ (List.mem_of_getElem? (i := 54) rfl))) (notFace_of_selects (args := #[]) (mvT hZ (hw _ (List.mem_of_getElem? (i := 56) rfl)))) (mvT hZ (hw _ (List.mem_of_getElem? (i := 56) rfl))) (mvT hZ (hw _ (List.mem_of_getElem? (i := 55) rfl))) (by decide) (backOf (W := 0) (rm_seq22 l Z a0 hw [] s1 sb v1 vb c1 cb zc (33 : Int32) (61 : Int32) q0 q1 h1 n0 Z1 (Es1.ext E1) (Fc1.ext E1) (Fv1.ext E1) hne1 (Et.ext E1) (Ftc.ext E1) (Ftv.ext E1) (SC.ext E1) hzc (Av1.ext E1) (Ab.ext E1) zv1 zb uv1_0 ub0 uv1_1 ub1) hZ (hw _ (List.mem_of_getElem? (i := 57) rfl)) (hw _ (List.mem_of_getElem? (i := 7) rfl)) (by decide) (by decide)) qa5 qc5 (g := (mkF m 25 #[.val (.ref sb), .val (.ref bb), .val (.int (6 : Int32)), .val (.int (1 : Int32)), .val (.ref b1)] [(.ref sb), (.ref s1)])) rfl (by rw [hml]; rfl) (Steps.refl _) (argsL := [(.ref sb)]) (rest := []) (lenOf pd2 rfl) rfl (by show 2 * 0 + _ ≤ _; exact Nat.le_of_eq rfl) (hb hby d5_25) (fun _ _ => ⟨rfl, e4, (by decide : 0 + 1 + 0 + 0 ≤ _), (by decide : 0 + 6 + 0 + 0 ≤ _)⟩)
  dsimp only [Pt.U, Pt.locs, Pt.cells, Pt.slots] at X5 l5 y5 z5 st5 hQ5
  subst l5 y5 z5
  obtain ⟨rfl, N5, e5⟩ := hQ5
  have M5 := Fr.app M3 N5
  refine EndsK.tr st5 ?_
  show EndsK p e below _ (T5.setTop (mkF m 28 #[.val (.ref sb), .val (.ref bb), .val (.int (6 : Int32)), .val (.int (1 : Int32)), .val (.ref b1)] [(.int (lf2 (33 : Int32) (61 : Int32) q0 q1))]))
  by_cases H28_6 : (lf2 (33 : Int32) (61 : Int32) q0 q1) = (0 : Int32)
  · refine EndsK.go (fun _ kz => XS.ifYes X5.here hx rfl (pc0 := 28) (pc' := 34) rfl (hb hby d5_28) rfl ((if0 _ _).trans (teq H28_6).1) (by decide) (by decide) kz) ?_
    show EndsK p e below _ (T5.setTop (mkF m 34 #[.val (.ref sb), .val (.ref bb), .val (.int (6 : Int32)), .val (.int (1 : Int32)), .val (.ref b1)] []))
    refine EndsK.go (fun _ kz => XS.iinc X5.here hx rfl (hb hby d5_34) rfl (l' := #[.val (.ref sb), .val (.ref bb), .val (.int (6 : Int32)), .val (.int (2 : Int32)), .val (.ref b1)]) rfl kz) ?_
    show EndsK p e below _ (T5.setTop (mkF m 37 #[.val (.ref sb), .val (.ref bb), .val (.int (6 : Int32)), .val (.int (2 : Int32)), .val (.ref b1)] []))
    refine EndsK.go (fun _ kz => XS.goto X5.here hx rfl (pc0 := 37) (pc' := 9) rfl (hb hby d5_37) (by decide) (by decide) kz) ?_
    show EndsK p e below _ (T5.setTop (mkF m 9 #[.val (.ref sb), .val (.ref bb), .val (.int (6 : Int32)), .val (.int (2 : Int32)), .val (.ref b1)] []))
    refine EndsK.go (fun _ kz => XS.iloadN X5.here hx rfl (hb hby d5_9) rfl kz) ?_
    show EndsK p e below _ (T5.setTop (mkF m 10 #[.val (.ref sb), .val (.ref bb), .val (.int (6 : Int32)), .val (.int (2 : Int32)), .val (.ref b1)] [(.int (2 : Int32))]))
    refine EndsK.go (fun _ kz => XS.iloadN X5.here hx rfl (hb hby d5_10) rfl kz) ?_
    show EndsK p e below _ (T5.setTop (mkF m 11 #[.val (.ref sb), .val (.ref bb), .val (.int (6 : Int32)), .val (.int (2 : Int32)), .val (.ref b1)] [(.int (6 : Int32)), (.int (2 : Int32))]))
    refine EndsK.go (fun _ kz => XS.icmpNo X5.here hx rfl (hb hby d5_11) rfl (tlt (by decide : (2 : Int32) < (6 : Int32))).2.1 kz) ?_
    show EndsK p e below _ (T5.setTop (mkF m 14 #[.val (.ref sb), .val (.ref bb), .val (.int (6 : Int32)), .val (.int (2 : Int32)), .val (.ref b1)] []))
    refine EndsK.go (fun _ kz => XS.aloadN X5.here hx rfl (hb hby d5_14) rfl rfl kz) ?_
    show EndsK p e below _ (T5.setTop (mkF m 15 #[.val (.ref sb), .val (.ref bb), .val (.int (6 : Int32)), .val (.int (2 : Int32)), .val (.ref b1)] [(.ref bb)]))
    refine EndsK.go (fun _ kz => XS.iloadN X5.here hx rfl (hb hby d5_15) rfl kz) ?_
    show EndsK p e below _ (T5.setTop (mkF m 16 #[.val (.ref sb), .val (.ref bb), .val (.int (6 : Int32)), .val (.int (2 : Int32)), .val (.ref b1)] [(.int (2 : Int32)), (.ref bb)]))
    refine EndsK.go (fun tz kz => X5.aaload hx (j := (2 : Int32)) (v := (.ref b2)) (by rw [e5]; exact A1.1) (State.isArrayOf_alike hZ.alike A1.2.1) rfl A1.2.2 w2.1 w2.2 (g := (mkF m 16 #[.val (.ref sb), .val (.ref bb), .val (.int (6 : Int32)), .val (.int (2 : Int32)), .val (.ref b1)] [(.int (2 : Int32)), (.ref bb)])) rfl rfl (hb hby d5_16) tz kz) ?_
    show EndsK p e below _ (T5.setTop (mkF m 17 #[.val (.ref sb), .val (.ref bb), .val (.int (6 : Int32)), .val (.int (2 : Int32)), .val (.ref b1)] [(.ref b2)]))
    refine EndsK.go (fun _ kz => XS.astore X5.here hx rfl (hb hby d5_17) rfl rfl (l' := #[.val (.ref sb), .val (.ref bb), .val (.int (6 : Int32)), .val (.int (2 : Int32)), .val (.ref b2)]) rfl kz) ?_
    show EndsK p e below _ (T5.setTop (mkF m 19 #[.val (.ref sb), .val (.ref bb), .val (.int (6 : Int32)), .val (.int (2 : Int32)), .val (.ref b2)] []))
    refine EndsK.go (fun _ kz => XS.aload X5.here hx rfl (hb hby d5_19) rfl rfl kz) ?_
    show EndsK p e below _ (T5.setTop (mkF m 21 #[.val (.ref sb), .val (.ref bb), .val (.int (6 : Int32)), .val (.int (2 : Int32)), .val (.ref b2)] [(.ref b2)]))
    obtain ⟨T7, X7, e7, st7⟩ := getF X5 hx hZ hown (host := "") (Or.inl (hw _ (List.mem_of_getElem? (i := 51) rfl))) Via.refl e5 (Fb2.ext E1) (g := (mkF m 21 #[.val (.ref sb), .val (.ref bb), .val (.int (6 : Int32)), .val (.int (2 : Int32)), .val (.ref b2)] [(.ref b2)])) rfl rfl (hb hby d5_21)
    refine EndsK.go st7 ?_
    show EndsK p e below _ (T7.setTop (mkF m 24 #[.val (.ref sb), .val (.ref bb), .val (.int (6 : Int32)), .val (.int (2 : Int32)), .val (.ref b2)] [(.ref s2)]))
    refine EndsK.go (fun _ kz => XS.aloadN X7.here hx rfl (hb hby d5_24) rfl rfl kz) ?_
    show EndsK p e below _ (T7.setTop (mkF m 25 #[.val (.ref sb), .val (.ref bb), .val (.int (6 : Int32)), .val (.int (2 : Int32)), .val (.ref b2)] [(.ref sb), (.ref s2)]))
    obtain ⟨cq8, kq8, qa8, qb8, qc8⟩ := isOf hZ e7 (Es2.ext E1)
    obtain ⟨_, _, ⟨T8, L8, k8, n8⟩, -, X8, ⟨Lc8, hQ8, l8, y8, z8⟩, st8⟩ := X7.virtualBack hx (y := (⟨"java/lang/String", "equals", "(Ljava/lang/Object;)Z"⟩ : MethodName)) (z := (⟨"java/lang/String", "equals", "(Ljava/lang/Object;)Z"⟩ : MethodName)) hown (mvT hZ (hw _ (List.mem_of_getElem? (i := 53) rfl))) (mvT hZ (hw _ (List.mem_of_getElem? (i := 54) rfl))) (notFace_of_selects (args := #[]) (mvT hZ (hw _ (List.mem_of_getElem? (i := 56) rfl)))) (mvT hZ (hw _ (List.mem_of_getElem? (i := 56) rfl))) (mvT hZ (hw _ (List.mem_of_getElem? (i := 55) rfl))) (by decide) (backOf (W := 0) (rm_seq12 l Z a0 hw [] s2 sb v2 vb c2 cb zc  h1 n0 Z1 (Es2.ext E1) (Fc2.ext E1) (Fv2.ext E1) hne2 (Et.ext E1) (Ftc.ext E1) (Ftv.ext E1) (SC.ext E1) hzc (Av2.ext E1) (Ab.ext E1) zv2 zb ) hZ (hw _ (List.mem_of_getElem? (i := 57) rfl)) (hw _ (List.mem_of_getElem? (i := 7) rfl)) (by decide) (by decide)) qa8 qc8 (g := (mkF m 25 #[.val (.ref sb), .val (.ref bb), .val (.int (6 : Int32)), .val (.int (2 : Int32)), .val (.ref b2)] [(.ref sb), (.ref s2)])) rfl (by rw [hml]; rfl) (Steps.refl _) (argsL := [(.ref sb)]) (rest := []) (lenOf pd2 rfl) rfl (by show 2 * 0 + _ ≤ _; exact Nat.le_of_eq rfl) (hb hby d5_25) (fun _ _ => ⟨rfl, e7, (by decide : 0 + 1 + 0 + 0 + 0 ≤ _), (by decide : 0 + 6 + 0 + 0 + 0 ≤ _)⟩)
    dsimp only [Pt.U, Pt.locs, Pt.cells, Pt.slots] at X8 l8 y8 z8 st8 hQ8
    subst l8 y8 z8
    obtain ⟨rfl, N8, e8⟩ := hQ8
    have M8 := Fr.app M5 N8
    refine EndsK.tr st8 ?_
    show EndsK p e below _ (T8.setTop (mkF m 28 #[.val (.ref sb), .val (.ref bb), .val (.int (6 : Int32)), .val (.int (2 : Int32)), .val (.ref b2)] [(.int (0 : Int32))]))
    refine EndsK.go (fun _ kz => XS.ifYes X8.here hx rfl (pc0 := 28) (pc' := 34) rfl (hb hby d5_28) rfl ((if0 _ _).trans (teq (rfl : (0 : Int32) = (0 : Int32))).1) (by decide) (by decide) kz) ?_
    show EndsK p e below _ (T8.setTop (mkF m 34 #[.val (.ref sb), .val (.ref bb), .val (.int (6 : Int32)), .val (.int (2 : Int32)), .val (.ref b2)] []))
    refine EndsK.go (fun _ kz => XS.iinc X8.here hx rfl (hb hby d5_34) rfl (l' := #[.val (.ref sb), .val (.ref bb), .val (.int (6 : Int32)), .val (.int (3 : Int32)), .val (.ref b2)]) rfl kz) ?_
    show EndsK p e below _ (T8.setTop (mkF m 37 #[.val (.ref sb), .val (.ref bb), .val (.int (6 : Int32)), .val (.int (3 : Int32)), .val (.ref b2)] []))
    refine EndsK.go (fun _ kz => XS.goto X8.here hx rfl (pc0 := 37) (pc' := 9) rfl (hb hby d5_37) (by decide) (by decide) kz) ?_
    show EndsK p e below _ (T8.setTop (mkF m 9 #[.val (.ref sb), .val (.ref bb), .val (.int (6 : Int32)), .val (.int (3 : Int32)), .val (.ref b2)] []))
    refine EndsK.go (fun _ kz => XS.iloadN X8.here hx rfl (hb hby d5_9) rfl kz) ?_
    show EndsK p e below _ (T8.setTop (mkF m 10 #[.val (.ref sb), .val (.ref bb), .val (.int (6 : Int32)), .val (.int (3 : Int32)), .val (.ref b2)] [(.int (3 : Int32))]))
    refine EndsK.go (fun _ kz => XS.iloadN X8.here hx rfl (hb hby d5_10) rfl kz) ?_
    show EndsK p e below _ (T8.setTop (mkF m 11 #[.val (.ref sb), .val (.ref bb), .val (.int (6 : Int32)), .val (.int (3 : Int32)), .val (.ref b2)] [(.int (6 : Int32)), (.int (3 : Int32))]))
    refine EndsK.go (fun _ kz => XS.icmpNo X8.here hx rfl (hb hby d5_11) rfl (tlt (by decide : (3 : Int32) < (6 : Int32))).2.1 kz) ?_
    show EndsK p e below _ (T8.setTop (mkF m 14 #[.val (.ref sb), .val (.ref bb), .val (.int (6 : Int32)), .val (.int (3 : Int32)), .val (.ref b2)] []))
    refine EndsK.go (fun _ kz => XS.aloadN X8.here hx rfl (hb hby d5_14) rfl rfl kz) ?_
    show EndsK p e below _ (T8.setTop (mkF m 15 #[.val (.ref sb), .val (.ref bb), .val (.int (6 : Int32)), .val (.int (3 : Int32)), .val (.ref b2)] [(.ref bb)]))
    refine EndsK.go (fun _ kz => XS.iloadN X8.here hx rfl (hb hby d5_15) rfl kz) ?_
    show EndsK p e below _ (T8.setTop (mkF m 16 #[.val (.ref sb), .val (.ref bb), .val (.int (6 : Int32)), .val (.int (3 : Int32)), .val (.ref b2)] [(.int (3 : Int32)), (.ref bb)]))
    refine EndsK.go (fun tz kz => X8.aaload hx (j := (3 : Int32)) (v := (.ref b3)) (by rw [e8]; exact A1.1) (State.isArrayOf_alike hZ.alike A1.2.1) rfl A1.2.2 w3.1 w3.2 (g := (mkF m 16 #[.val (.ref sb), .val (.ref bb), .val (.int (6 : Int32)), .val (.int (3 : Int32)), .val (.ref b2)] [(.int (3 : Int32)), (.ref bb)])) rfl rfl (hb hby d5_16) tz kz) ?_
    show EndsK p e below _ (T8.setTop (mkF m 17 #[.val (.ref sb), .val (.ref bb), .val (.int (6 : Int32)), .val (.int (3 : Int32)), .val (.ref b2)] [(.ref b3)]))
    refine EndsK.go (fun _ kz => XS.astore X8.here hx rfl (hb hby d5_17) rfl rfl (l' := #[.val (.ref sb), .val (.ref bb), .val (.int (6 : Int32)), .val (.int (3 : Int32)), .val (.ref b3)]) rfl kz) ?_
    show EndsK p e below _ (T8.setTop (mkF m 19 #[.val (.ref sb), .val (.ref bb), .val (.int (6 : Int32)), .val (.int (3 : Int32)), .val (.ref b3)] []))
    refine EndsK.go (fun _ kz => XS.aload X8.here hx rfl (hb hby d5_19) rfl rfl kz) ?_
    show EndsK p e below _ (T8.setTop (mkF m 21 #[.val (.ref sb), .val (.ref bb), .val (.int (6 : Int32)), .val (.int (3 : Int32)), .val (.ref b3)] [(.ref b3)]))
    obtain ⟨T9, X9, e9, st9⟩ := getF X8 hx hZ hown (host := "") (Or.inl (hw _ (List.mem_of_getElem? (i := 51) rfl))) Via.refl e8 (Fb3.ext E1) (g := (mkF m 21 #[.val (.ref sb), .val (.ref bb), .val (.int (6 : Int32)), .val (.int (3 : Int32)), .val (.ref b3)] [(.ref b3)])) rfl rfl (hb hby d5_21)
    refine EndsK.go st9 ?_
    show EndsK p e below _ (T9.setTop (mkF m 24 #[.val (.ref sb), .val (.ref bb), .val (.int (6 : Int32)), .val (.int (3 : Int32)), .val (.ref b3)] [(.ref s3)]))
    refine EndsK.go (fun _ kz => XS.aloadN X9.here hx rfl (hb hby d5_24) rfl rfl kz) ?_
    show EndsK p e below _ (T9.setTop (mkF m 25 #[.val (.ref sb), .val (.ref bb), .val (.int (6 : Int32)), .val (.int (3 : Int32)), .val (.ref b3)] [(.ref sb), (.ref s3)]))
    obtain ⟨cq10, kq10, qa10, qb10, qc10⟩ := isOf hZ e9 (Es3.ext E1)
    obtain ⟨_, _, ⟨T10, L10, k10, n10⟩, -, X10, ⟨Lc10, hQ10, l10, y10, z10⟩, st10⟩ := X9.virtualBack hx (y := (⟨"java/lang/String", "equals", "(Ljava/lang/Object;)Z"⟩ : MethodName)) (z := (⟨"java/lang/String", "equals", "(Ljava/lang/Object;)Z"⟩ : MethodName)) hown (mvT hZ (hw _ (List.mem_of_getElem? (i := 53) rfl))) (mvT hZ (hw _ (List.mem_of_getElem? (i := 54) rfl))) (notFace_of_selects (args := #[]) (mvT hZ (hw _ (List.mem_of_getElem? (i := 56) rfl)))) (mvT hZ (hw _ (List.mem_of_getElem? (i := 56) rfl))) (mvT hZ (hw _ (List.mem_of_getElem? (i := 55) rfl))) (by decide) (backOf (W := 0) (rm_seq22 l Z a0 hw [] s3 sb v3 vb c3 cb zc (60 : Int32) (61 : Int32) q0 q1 h1 n0 Z1 (Es3.ext E1) (Fc3.ext E1) (Fv3.ext E1) hne3 (Et.ext E1) (Ftc.ext E1) (Ftv.ext E1) (SC.ext E1) hzc (Av3.ext E1) (Ab.ext E1) zv3 zb uv3_0 ub0 uv3_1 ub1) hZ (hw _ (List.mem_of_getElem? (i := 57) rfl)) (hw _ (List.mem_of_getElem? (i := 7) rfl)) (by decide) (by decide)) qa10 qc10 (g := (mkF m 25 #[.val (.ref sb), .val (.ref bb), .val (.int (6 : Int32)), .val (.int (3 : Int32)), .val (.ref b3)] [(.ref sb), (.ref s3)])) rfl (by rw [hml]; rfl) (Steps.refl _) (argsL := [(.ref sb)]) (rest := []) (lenOf pd2 rfl) rfl (by show 2 * 0 + _ ≤ _; exact Nat.le_of_eq rfl) (hb hby d5_25) (fun _ _ => ⟨rfl, e9, (by decide : 0 + 1 + 0 + 0 + 0 + 0 ≤ _), (by decide : 0 + 6 + 0 + 0 + 0 + 0 ≤ _)⟩)
    dsimp only [Pt.U, Pt.locs, Pt.cells, Pt.slots] at X10 l10 y10 z10 st10 hQ10
    subst l10 y10 z10
    obtain ⟨rfl, N10, e10⟩ := hQ10
    have M10 := Fr.app M8 N10
    refine EndsK.tr st10 ?_
    show EndsK p e below _ (T10.setTop (mkF m 28 #[.val (.ref sb), .val (.ref bb), .val (.int (6 : Int32)), .val (.int (3 : Int32)), .val (.ref b3)] [(.int (lf2 (60 : Int32) (61 : Int32) q0 q1))]))
    by_cases H28_11 : (lf2 (60 : Int32) (61 : Int32) q0 q1) = (0 : Int32)
    · refine EndsK.go (fun _ kz => XS.ifYes X10.here hx rfl (pc0 := 28) (pc' := 34) rfl (hb hby d5_28) rfl ((if0 _ _).trans (teq H28_11).1) (by decide) (by decide) kz) ?_
      show EndsK p e below _ (T10.setTop (mkF m 34 #[.val (.ref sb), .val (.ref bb), .val (.int (6 : Int32)), .val (.int (3 : Int32)), .val (.ref b3)] []))
      refine EndsK.go (fun _ kz => XS.iinc X10.here hx rfl (hb hby d5_34) rfl (l' := #[.val (.ref sb), .val (.ref bb), .val (.int (6 : Int32)), .val (.int (4 : Int32)), .val (.ref b3)]) rfl kz) ?_
      show EndsK p e below _ (T10.setTop (mkF m 37 #[.val (.ref sb), .val (.ref bb), .val (.int (6 : Int32)), .val (.int (4 : Int32)), .val (.ref b3)] []))
      refine EndsK.go (fun _ kz => XS.goto X10.here hx rfl (pc0 := 37) (pc' := 9) rfl (hb hby d5_37) (by decide) (by decide) kz) ?_
      show EndsK p e below _ (T10.setTop (mkF m 9 #[.val (.ref sb), .val (.ref bb), .val (.int (6 : Int32)), .val (.int (4 : Int32)), .val (.ref b3)] []))
      refine EndsK.go (fun _ kz => XS.iloadN X10.here hx rfl (hb hby d5_9) rfl kz) ?_
      show EndsK p e below _ (T10.setTop (mkF m 10 #[.val (.ref sb), .val (.ref bb), .val (.int (6 : Int32)), .val (.int (4 : Int32)), .val (.ref b3)] [(.int (4 : Int32))]))
      refine EndsK.go (fun _ kz => XS.iloadN X10.here hx rfl (hb hby d5_10) rfl kz) ?_
      show EndsK p e below _ (T10.setTop (mkF m 11 #[.val (.ref sb), .val (.ref bb), .val (.int (6 : Int32)), .val (.int (4 : Int32)), .val (.ref b3)] [(.int (6 : Int32)), (.int (4 : Int32))]))
      refine EndsK.go (fun _ kz => XS.icmpNo X10.here hx rfl (hb hby d5_11) rfl (tlt (by decide : (4 : Int32) < (6 : Int32))).2.1 kz) ?_
      show EndsK p e below _ (T10.setTop (mkF m 14 #[.val (.ref sb), .val (.ref bb), .val (.int (6 : Int32)), .val (.int (4 : Int32)), .val (.ref b3)] []))
      refine EndsK.go (fun _ kz => XS.aloadN X10.here hx rfl (hb hby d5_14) rfl rfl kz) ?_
      show EndsK p e below _ (T10.setTop (mkF m 15 #[.val (.ref sb), .val (.ref bb), .val (.int (6 : Int32)), .val (.int (4 : Int32)), .val (.ref b3)] [(.ref bb)]))
      refine EndsK.go (fun _ kz => XS.iloadN X10.here hx rfl (hb hby d5_15) rfl kz) ?_
      show EndsK p e below _ (T10.setTop (mkF m 16 #[.val (.ref sb), .val (.ref bb), .val (.int (6 : Int32)), .val (.int (4 : Int32)), .val (.ref b3)] [(.int (4 : Int32)), (.ref bb)]))
      refine EndsK.go (fun tz kz => X10.aaload hx (j := (4 : Int32)) (v := (.ref b4)) (by rw [e10]; exact A1.1) (State.isArrayOf_alike hZ.alike A1.2.1) rfl A1.2.2 w4.1 w4.2 (g := (mkF m 16 #[.val (.ref sb), .val (.ref bb), .val (.int (6 : Int32)), .val (.int (4 : Int32)), .val (.ref b3)] [(.int (4 : Int32)), (.ref bb)])) rfl rfl (hb hby d5_16) tz kz) ?_
      show EndsK p e below _ (T10.setTop (mkF m 17 #[.val (.ref sb), .val (.ref bb), .val (.int (6 : Int32)), .val (.int (4 : Int32)), .val (.ref b3)] [(.ref b4)]))
      refine EndsK.go (fun _ kz => XS.astore X10.here hx rfl (hb hby d5_17) rfl rfl (l' := #[.val (.ref sb), .val (.ref bb), .val (.int (6 : Int32)), .val (.int (4 : Int32)), .val (.ref b4)]) rfl kz) ?_
      show EndsK p e below _ (T10.setTop (mkF m 19 #[.val (.ref sb), .val (.ref bb), .val (.int (6 : Int32)), .val (.int (4 : Int32)), .val (.ref b4)] []))
      refine EndsK.go (fun _ kz => XS.aload X10.here hx rfl (hb hby d5_19) rfl rfl kz) ?_
      show EndsK p e below _ (T10.setTop (mkF m 21 #[.val (.ref sb), .val (.ref bb), .val (.int (6 : Int32)), .val (.int (4 : Int32)), .val (.ref b4)] [(.ref b4)]))
      obtain ⟨T12, X12, e12, st12⟩ := getF X10 hx hZ hown (host := "") (Or.inl (hw _ (List.mem_of_getElem? (i := 51) rfl))) Via.refl e10 (Fb4.ext E1) (g := (mkF m 21 #[.val (.ref sb), .val (.ref bb), .val (.int (6 : Int32)), .val (.int (4 : Int32)), .val (.ref b4)] [(.ref b4)])) rfl rfl (hb hby d5_21)
      refine EndsK.go st12 ?_
      show EndsK p e below _ (T12.setTop (mkF m 24 #[.val (.ref sb), .val (.ref bb), .val (.int (6 : Int32)), .val (.int (4 : Int32)), .val (.ref b4)] [(.ref s4)]))
      refine EndsK.go (fun _ kz => XS.aloadN X12.here hx rfl (hb hby d5_24) rfl rfl kz) ?_
      show EndsK p e below _ (T12.setTop (mkF m 25 #[.val (.ref sb), .val (.ref bb), .val (.int (6 : Int32)), .val (.int (4 : Int32)), .val (.ref b4)] [(.ref sb), (.ref s4)]))
      obtain ⟨cq13, kq13, qa13, qb13, qc13⟩ := isOf hZ e12 (Es4.ext E1)
      obtain ⟨_, _, ⟨T13, L13, k13, n13⟩, -, X13, ⟨Lc13, hQ13, l13, y13, z13⟩, st13⟩ := X12.virtualBack hx (y := (⟨"java/lang/String", "equals", "(Ljava/lang/Object;)Z"⟩ : MethodName)) (z := (⟨"java/lang/String", "equals", "(Ljava/lang/Object;)Z"⟩ : MethodName)) hown (mvT hZ (hw _ (List.mem_of_getElem? (i := 53) rfl))) (mvT hZ (hw _ (List.mem_of_getElem? (i := 54) rfl))) (notFace_of_selects (args := #[]) (mvT hZ (hw _ (List.mem_of_getElem? (i := 56) rfl)))) (mvT hZ (hw _ (List.mem_of_getElem? (i := 56) rfl))) (mvT hZ (hw _ (List.mem_of_getElem? (i := 55) rfl))) (by decide) (backOf (W := 0) (rm_seq12 l Z a0 hw [] s4 sb v4 vb c4 cb zc  h1 n0 Z1 (Es4.ext E1) (Fc4.ext E1) (Fv4.ext E1) hne4 (Et.ext E1) (Ftc.ext E1) (Ftv.ext E1) (SC.ext E1) hzc (Av4.ext E1) (Ab.ext E1) zv4 zb ) hZ (hw _ (List.mem_of_getElem? (i := 57) rfl)) (hw _ (List.mem_of_getElem? (i := 7) rfl)) (by decide) (by decide)) qa13 qc13 (g := (mkF m 25 #[.val (.ref sb), .val (.ref bb), .val (.int (6 : Int32)), .val (.int (4 : Int32)), .val (.ref b4)] [(.ref sb), (.ref s4)])) rfl (by rw [hml]; rfl) (Steps.refl _) (argsL := [(.ref sb)]) (rest := []) (lenOf pd2 rfl) rfl (by show 2 * 0 + _ ≤ _; exact Nat.le_of_eq rfl) (hb hby d5_25) (fun _ _ => ⟨rfl, e12, (by decide : 0 + 1 + 0 + 0 + 0 + 0 + 0 ≤ _), (by decide : 0 + 6 + 0 + 0 + 0 + 0 + 0 ≤ _)⟩)
      dsimp only [Pt.U, Pt.locs, Pt.cells, Pt.slots] at X13 l13 y13 z13 st13 hQ13
      subst l13 y13 z13
      obtain ⟨rfl, N13, e13⟩ := hQ13
      have M13 := Fr.app M10 N13
      refine EndsK.tr st13 ?_
      show EndsK p e below _ (T13.setTop (mkF m 28 #[.val (.ref sb), .val (.ref bb), .val (.int (6 : Int32)), .val (.int (4 : Int32)), .val (.ref b4)] [(.int (0 : Int32))]))
      refine EndsK.go (fun _ kz => XS.ifYes X13.here hx rfl (pc0 := 28) (pc' := 34) rfl (hb hby d5_28) rfl ((if0 _ _).trans (teq (rfl : (0 : Int32) = (0 : Int32))).1) (by decide) (by decide) kz) ?_
      show EndsK p e below _ (T13.setTop (mkF m 34 #[.val (.ref sb), .val (.ref bb), .val (.int (6 : Int32)), .val (.int (4 : Int32)), .val (.ref b4)] []))
      refine EndsK.go (fun _ kz => XS.iinc X13.here hx rfl (hb hby d5_34) rfl (l' := #[.val (.ref sb), .val (.ref bb), .val (.int (6 : Int32)), .val (.int (5 : Int32)), .val (.ref b4)]) rfl kz) ?_
      show EndsK p e below _ (T13.setTop (mkF m 37 #[.val (.ref sb), .val (.ref bb), .val (.int (6 : Int32)), .val (.int (5 : Int32)), .val (.ref b4)] []))
      refine EndsK.go (fun _ kz => XS.goto X13.here hx rfl (pc0 := 37) (pc' := 9) rfl (hb hby d5_37) (by decide) (by decide) kz) ?_
      show EndsK p e below _ (T13.setTop (mkF m 9 #[.val (.ref sb), .val (.ref bb), .val (.int (6 : Int32)), .val (.int (5 : Int32)), .val (.ref b4)] []))
      refine EndsK.go (fun _ kz => XS.iloadN X13.here hx rfl (hb hby d5_9) rfl kz) ?_
      show EndsK p e below _ (T13.setTop (mkF m 10 #[.val (.ref sb), .val (.ref bb), .val (.int (6 : Int32)), .val (.int (5 : Int32)), .val (.ref b4)] [(.int (5 : Int32))]))
      refine EndsK.go (fun _ kz => XS.iloadN X13.here hx rfl (hb hby d5_10) rfl kz) ?_
      show EndsK p e below _ (T13.setTop (mkF m 11 #[.val (.ref sb), .val (.ref bb), .val (.int (6 : Int32)), .val (.int (5 : Int32)), .val (.ref b4)] [(.int (6 : Int32)), (.int (5 : Int32))]))
      refine EndsK.go (fun _ kz => XS.icmpNo X13.here hx rfl (hb hby d5_11) rfl (tlt (by decide : (5 : Int32) < (6 : Int32))).2.1 kz) ?_
      show EndsK p e below _ (T13.setTop (mkF m 14 #[.val (.ref sb), .val (.ref bb), .val (.int (6 : Int32)), .val (.int (5 : Int32)), .val (.ref b4)] []))
      refine EndsK.go (fun _ kz => XS.aloadN X13.here hx rfl (hb hby d5_14) rfl rfl kz) ?_
      show EndsK p e below _ (T13.setTop (mkF m 15 #[.val (.ref sb), .val (.ref bb), .val (.int (6 : Int32)), .val (.int (5 : Int32)), .val (.ref b4)] [(.ref bb)]))
      refine EndsK.go (fun _ kz => XS.iloadN X13.here hx rfl (hb hby d5_15) rfl kz) ?_
      show EndsK p e below _ (T13.setTop (mkF m 16 #[.val (.ref sb), .val (.ref bb), .val (.int (6 : Int32)), .val (.int (5 : Int32)), .val (.ref b4)] [(.int (5 : Int32)), (.ref bb)]))
      refine EndsK.go (fun tz kz => X13.aaload hx (j := (5 : Int32)) (v := (.ref b5)) (by rw [e13]; exact A1.1) (State.isArrayOf_alike hZ.alike A1.2.1) rfl A1.2.2 w5.1 w5.2 (g := (mkF m 16 #[.val (.ref sb), .val (.ref bb), .val (.int (6 : Int32)), .val (.int (5 : Int32)), .val (.ref b4)] [(.int (5 : Int32)), (.ref bb)])) rfl rfl (hb hby d5_16) tz kz) ?_
      show EndsK p e below _ (T13.setTop (mkF m 17 #[.val (.ref sb), .val (.ref bb), .val (.int (6 : Int32)), .val (.int (5 : Int32)), .val (.ref b4)] [(.ref b5)]))
      refine EndsK.go (fun _ kz => XS.astore X13.here hx rfl (hb hby d5_17) rfl rfl (l' := #[.val (.ref sb), .val (.ref bb), .val (.int (6 : Int32)), .val (.int (5 : Int32)), .val (.ref b5)]) rfl kz) ?_
      show EndsK p e below _ (T13.setTop (mkF m 19 #[.val (.ref sb), .val (.ref bb), .val (.int (6 : Int32)), .val (.int (5 : Int32)), .val (.ref b5)] []))
      refine EndsK.go (fun _ kz => XS.aload X13.here hx rfl (hb hby d5_19) rfl rfl kz) ?_
      show EndsK p e below _ (T13.setTop (mkF m 21 #[.val (.ref sb), .val (.ref bb), .val (.int (6 : Int32)), .val (.int (5 : Int32)), .val (.ref b5)] [(.ref b5)]))
      obtain ⟨T14, X14, e14, st14⟩ := getF X13 hx hZ hown (host := "") (Or.inl (hw _ (List.mem_of_getElem? (i := 51) rfl))) Via.refl e13 (Fb5.ext E1) (g := (mkF m 21 #[.val (.ref sb), .val (.ref bb), .val (.int (6 : Int32)), .val (.int (5 : Int32)), .val (.ref b5)] [(.ref b5)])) rfl rfl (hb hby d5_21)
      refine EndsK.go st14 ?_
      show EndsK p e below _ (T14.setTop (mkF m 24 #[.val (.ref sb), .val (.ref bb), .val (.int (6 : Int32)), .val (.int (5 : Int32)), .val (.ref b5)] [(.ref s5)]))
      refine EndsK.go (fun _ kz => XS.aloadN X14.here hx rfl (hb hby d5_24) rfl rfl kz) ?_
      show EndsK p e below _ (T14.setTop (mkF m 25 #[.val (.ref sb), .val (.ref bb), .val (.int (6 : Int32)), .val (.int (5 : Int32)), .val (.ref b5)] [(.ref sb), (.ref s5)]))
      obtain ⟨cq15, kq15, qa15, qb15, qc15⟩ := isOf hZ e14 (Es5.ext E1)
      obtain ⟨_, _, ⟨T15, L15, k15, n15⟩, -, X15, ⟨Lc15, hQ15, l15, y15, z15⟩, st15⟩ := X14.virtualBack hx (y := (⟨"java/lang/String", "equals", "(Ljava/lang/Object;)Z"⟩ : MethodName)) (z := (⟨"java/lang/String", "equals", "(Ljava/lang/Object;)Z"⟩ : MethodName)) hown (mvT hZ (hw _ (List.mem_of_getElem? (i := 53) rfl))) (mvT hZ (hw _ (List.mem_of_getElem? (i := 54) rfl))) (notFace_of_selects (args := #[]) (mvT hZ (hw _ (List.mem_of_getElem? (i := 56) rfl)))) (mvT hZ (hw _ (List.mem_of_getElem? (i := 56) rfl))) (mvT hZ (hw _ (List.mem_of_getElem? (i := 55) rfl))) (by decide) (backOf (W := 0) (rm_seq22 l Z a0 hw [] s5 sb v5 vb c5 cb zc (62 : Int32) (61 : Int32) q0 q1 h1 n0 Z1 (Es5.ext E1) (Fc5.ext E1) (Fv5.ext E1) hne5 (Et.ext E1) (Ftc.ext E1) (Ftv.ext E1) (SC.ext E1) hzc (Av5.ext E1) (Ab.ext E1) zv5 zb uv5_0 ub0 uv5_1 ub1) hZ (hw _ (List.mem_of_getElem? (i := 57) rfl)) (hw _ (List.mem_of_getElem? (i := 7) rfl)) (by decide) (by decide)) qa15 qc15 (g := (mkF m 25 #[.val (.ref sb), .val (.ref bb), .val (.int (6 : Int32)), .val (.int (5 : Int32)), .val (.ref b5)] [(.ref sb), (.ref s5)])) rfl (by rw [hml]; rfl) (Steps.refl _) (argsL := [(.ref sb)]) (rest := []) (lenOf pd2 rfl) rfl (by show 2 * 0 + _ ≤ _; exact Nat.le_of_eq rfl) (hb hby d5_25) (fun _ _ => ⟨rfl, e14, (by decide : 0 + 1 + 0 + 0 + 0 + 0 + 0 + 0 ≤ _), (by decide : 0 + 6 + 0 + 0 + 0 + 0 + 0 + 0 ≤ _)⟩)
      dsimp only [Pt.U, Pt.locs, Pt.cells, Pt.slots] at X15 l15 y15 z15 st15 hQ15
      subst l15 y15 z15
      obtain ⟨rfl, N15, e15⟩ := hQ15
      have M15 := Fr.app M13 N15
      refine EndsK.tr st15 ?_
      show EndsK p e below _ (T15.setTop (mkF m 28 #[.val (.ref sb), .val (.ref bb), .val (.int (6 : Int32)), .val (.int (5 : Int32)), .val (.ref b5)] [(.int (lf2 (62 : Int32) (61 : Int32) q0 q1))]))
      by_cases H28_16 : (lf2 (62 : Int32) (61 : Int32) q0 q1) = (0 : Int32)
      · refine EndsK.go (fun _ kz => XS.ifYes X15.here hx rfl (pc0 := 28) (pc' := 34) rfl (hb hby d5_28) rfl ((if0 _ _).trans (teq H28_16).1) (by decide) (by decide) kz) ?_
        show EndsK p e below _ (T15.setTop (mkF m 34 #[.val (.ref sb), .val (.ref bb), .val (.int (6 : Int32)), .val (.int (5 : Int32)), .val (.ref b5)] []))
        refine EndsK.go (fun _ kz => XS.iinc X15.here hx rfl (hb hby d5_34) rfl (l' := #[.val (.ref sb), .val (.ref bb), .val (.int (6 : Int32)), .val (.int (6 : Int32)), .val (.ref b5)]) rfl kz) ?_
        show EndsK p e below _ (T15.setTop (mkF m 37 #[.val (.ref sb), .val (.ref bb), .val (.int (6 : Int32)), .val (.int (6 : Int32)), .val (.ref b5)] []))
        refine EndsK.go (fun _ kz => XS.goto X15.here hx rfl (pc0 := 37) (pc' := 9) rfl (hb hby d5_37) (by decide) (by decide) kz) ?_
        show EndsK p e below _ (T15.setTop (mkF m 9 #[.val (.ref sb), .val (.ref bb), .val (.int (6 : Int32)), .val (.int (6 : Int32)), .val (.ref b5)] []))
        refine EndsK.go (fun _ kz => XS.iloadN X15.here hx rfl (hb hby d5_9) rfl kz) ?_
        show EndsK p e below _ (T15.setTop (mkF m 10 #[.val (.ref sb), .val (.ref bb), .val (.int (6 : Int32)), .val (.int (6 : Int32)), .val (.ref b5)] [(.int (6 : Int32))]))
        refine EndsK.go (fun _ kz => XS.iloadN X15.here hx rfl (hb hby d5_10) rfl kz) ?_
        show EndsK p e below _ (T15.setTop (mkF m 11 #[.val (.ref sb), .val (.ref bb), .val (.int (6 : Int32)), .val (.int (6 : Int32)), .val (.ref b5)] [(.int (6 : Int32)), (.int (6 : Int32))]))
        refine EndsK.go (fun _ kz => XS.icmpYes X15.here hx rfl (pc0 := 11) (pc' := 40) rfl (hb hby d5_11) rfl (flt (by decide : ¬ ((6 : Int32) < (6 : Int32)))).2.1 (by decide) (by decide) kz) ?_
        show EndsK p e below _ (T15.setTop (mkF m 40 #[.val (.ref sb), .val (.ref bb), .val (.int (6 : Int32)), .val (.int (6 : Int32)), .val (.ref b5)] []))
        refine EndsK.go (fun _ kz => XS.aconstNull X15.here hx rfl (hb hby d5_40) kz) ?_
        show EndsK p e below _ (T15.setTop (mkF m 41 #[.val (.ref sb), .val (.ref bb), .val (.int (6 : Int32)), .val (.int (6 : Int32)), .val (.ref b5)] [.null]))
        exact endR X15 hx Bd.returns rfl rfl (hb hby d5_41) hlk ⟨(congrArg some (by simp [ofL, H28_6, H28_11, H28_16] : ofL [((0 : Int32), .ref b0), ((lf2 (33 : Int32) (61 : Int32) q0 q1), .ref b1), ((0 : Int32), .ref b2), ((lf2 (60 : Int32) (61 : Int32) q0 q1), .ref b3), ((0 : Int32), .ref b4), ((lf2 (62 : Int32) (61 : Int32) q0 q1), .ref b5)] = .null)).symm, M15, by rw [e15]; exact E1⟩ (by decide) (by decide)
      · refine EndsK.go (fun _ kz => XS.ifNo X15.here hx rfl (hb hby d5_28) rfl ((if0 _ _).trans (feq H28_16).1) kz) ?_
        show EndsK p e below _ (T15.setTop (mkF m 31 #[.val (.ref sb), .val (.ref bb), .val (.int (6 : Int32)), .val (.int (5 : Int32)), .val (.ref b5)] []))
        refine EndsK.go (fun _ kz => XS.aload X15.here hx rfl (hb hby d5_31) rfl rfl kz) ?_
        show EndsK p e below _ (T15.setTop (mkF m 33 #[.val (.ref sb), .val (.ref bb), .val (.int (6 : Int32)), .val (.int (5 : Int32)), .val (.ref b5)] [(.ref b5)]))
        exact endR X15 hx Bd.returns rfl rfl (hb hby d5_33) hlk ⟨(congrArg some (by simp [ofL, H28_6, H28_11, H28_16] : ofL [((0 : Int32), .ref b0), ((lf2 (33 : Int32) (61 : Int32) q0 q1), .ref b1), ((0 : Int32), .ref b2), ((lf2 (60 : Int32) (61 : Int32) q0 q1), .ref b3), ((0 : Int32), .ref b4), ((lf2 (62 : Int32) (61 : Int32) q0 q1), .ref b5)] = (.ref b5))).symm, M15, by rw [e15]; exact E1⟩ (by decide) (by decide)
    · refine EndsK.go (fun _ kz => XS.ifNo X10.here hx rfl (hb hby d5_28) rfl ((if0 _ _).trans (feq H28_11).1) kz) ?_
      show EndsK p e below _ (T10.setTop (mkF m 31 #[.val (.ref sb), .val (.ref bb), .val (.int (6 : Int32)), .val (.int (3 : Int32)), .val (.ref b3)] []))
      refine EndsK.go (fun _ kz => XS.aload X10.here hx rfl (hb hby d5_31) rfl rfl kz) ?_
      show EndsK p e below _ (T10.setTop (mkF m 33 #[.val (.ref sb), .val (.ref bb), .val (.int (6 : Int32)), .val (.int (3 : Int32)), .val (.ref b3)] [(.ref b3)]))
      exact endR X10 hx Bd.returns rfl rfl (hb hby d5_33) hlk ⟨(congrArg some (by simp [ofL, H28_6, H28_11] : ofL [((0 : Int32), .ref b0), ((lf2 (33 : Int32) (61 : Int32) q0 q1), .ref b1), ((0 : Int32), .ref b2), ((lf2 (60 : Int32) (61 : Int32) q0 q1), .ref b3), ((0 : Int32), .ref b4), ((lf2 (62 : Int32) (61 : Int32) q0 q1), .ref b5)] = (.ref b3))).symm, M10, by rw [e10]; exact E1⟩ (by decide) (by decide)
  · refine EndsK.go (fun _ kz => XS.ifNo X5.here hx rfl (hb hby d5_28) rfl ((if0 _ _).trans (feq H28_6).1) kz) ?_
    show EndsK p e below _ (T5.setTop (mkF m 31 #[.val (.ref sb), .val (.ref bb), .val (.int (6 : Int32)), .val (.int (1 : Int32)), .val (.ref b1)] []))
    refine EndsK.go (fun _ kz => XS.aload X5.here hx rfl (hb hby d5_31) rfl rfl kz) ?_
    show EndsK p e below _ (T5.setTop (mkF m 33 #[.val (.ref sb), .val (.ref bb), .val (.int (6 : Int32)), .val (.int (1 : Int32)), .val (.ref b1)] [(.ref b1)]))
    exact endR X5 hx Bd.returns rfl rfl (hb hby d5_33) hlk ⟨(congrArg some (by simp [ofL, H28_6] : ofL [((0 : Int32), .ref b0), ((lf2 (33 : Int32) (61 : Int32) q0 q1), .ref b1), ((0 : Int32), .ref b2), ((lf2 (60 : Int32) (61 : Int32) q0 q1), .ref b3), ((0 : Int32), .ref b4), ((lf2 (62 : Int32) (61 : Int32) q0 q1), .ref b5)] = (.ref b1))).symm, M5, by rw [e5]; exact E1⟩ (by decide) (by decide)
theorem ef_of3 (m : MethodId) (sb : Addr) (vb : Addr) (cb : Cell) (zc : Int32) (av : Addr) (cv : Cell) (b0 : Addr) (b1 : Addr) (b2 : Addr) (b3 : Addr) (b4 : Addr) (b5 : Addr) (s0 : Addr) (s1 : Addr) (s2 : Addr) (s3 : Addr) (s4 : Addr) (s5 : Addr) (v0 : Addr) (v1 : Addr) (v2 : Addr) (v3 : Addr) (v4 : Addr) (v5 : Addr) (c0 : Cell) (c1 : Cell) (c2 : Cell) (c3 : Cell) (c4 : Cell) (c5 : Cell) : entryFrame m #[(.ref sb)] 5 = mkF m 0 #[.val (.ref sb), .unset, .unset, .unset, .unset] [] := by first | (simp [entryFrame, mkF, argsToLocals, Value.category]; done) | rfl
def Q_of3 (Z : State) (sb : Addr) (vb : Addr) (cb : Cell) (zc : Int32) (av : Addr) (cv : Cell) (b0 : Addr) (b1 : Addr) (b2 : Addr) (b3 : Addr) (b4 : Addr) (b5 : Addr) (s0 : Addr) (s1 : Addr) (s2 : Addr) (s3 : Addr) (s4 : Addr) (s5 : Addr) (v0 : Addr) (v1 : Addr) (v2 : Addr) (v3 : Addr) (v4 : Addr) (v5 : Addr) (c0 : Cell) (c1 : Cell) (c2 : Cell) (c3 : Cell) (c4 : Cell) (c5 : Cell) (h0 : Heap) (n0 : Nat) (vz : Option Value) (hz : Heap) (Lz : List Loc) : Prop := vz = some (ofL [((0 : Int32), .ref b0), ((0 : Int32), .ref b1), ((0 : Int32), .ref b2), ((0 : Int32), .ref b3), ((0 : Int32), .ref b4), ((0 : Int32), .ref b5)]) ∧ Fr n0 Lz ∧ Ext h0 hz
set_option maxRecDepth 65536 in
set_option maxHeartbeats 40000000 in
theorem rm_of3 (l : Launch) (Z : State) (a0 : Array Value) (hw : ∀ d ∈ tables_1, d.before a0 Z = true) (ws : List Jvm.Cond) (sb : Addr) (vb : Addr) (cb : Cell) (zc : Int32) (av : Addr) (cv : Cell) (b0 : Addr) (b1 : Addr) (b2 : Addr) (b3 : Addr) (b4 : Addr) (b5 : Addr) (s0 : Addr) (s1 : Addr) (s2 : Addr) (s3 : Addr) (s4 : Addr) (s5 : Addr) (v0 : Addr) (v1 : Addr) (v2 : Addr) (v3 : Addr) (v4 : Addr) (v5 : Addr) (c0 : Cell) (c1 : Cell) (c2 : Cell) (c3 : Cell) (c4 : Cell) (c5 : Cell) (h0 : Heap) (n0 : Nat) (Z0 : n0 ≤ h0.size) (hne0 : ¬ s0 = sb) (hne1 : ¬ s1 = sb) (hne2 : ¬ s2 = sb) (hne3 : ¬ s3 = sb) (hne4 : ¬ s4 = sb) (hne5 : ¬ s5 = sb) (Et : Exa Z h0 sb "java/lang/String") (Ftc : Fld Z h0 sb "java/lang/String" "coder" "B" (.int (0 : Int32))) (Ftv : Fld Z h0 sb "java/lang/String" "value" "[B" (.ref vb)) (SC : Sta Z h0 "java/lang/String" "COMPACT_STRINGS" "Z" (.int zc)) (hzc : ¬ (zc = (0 : Int32))) (Ab : Arr Z h0 vb cb .byte) (zb : cb.slots.size.toInt32 = (3 : Int32)) (SV : Sta Z h0 "com/example/windrow/windrow/Condition$Comparison" "$VALUES" "[Lcom/example/windrow/windrow/Condition$Comparison;" (.ref av)) (AV : Arr Z h0 av cv (.object "com/example/windrow/windrow/Condition$Comparison")) (EV : Exa Z h0 av "[Lcom/example/windrow/windrow/Condition$Comparison;") (FV : FitC Z cv) (hsz : cv.slots.size = 6) (w0 : ¬ ((0 : Int32) < 0 ∨ cv.slots.size ≤ (0 : Int32).toNatClampNeg) ∧ cv.slots[(0 : Int32).toNatClampNeg]? = some (.ref b0)) (Fb0 : Fld Z h0 b0 "com/example/windrow/windrow/Condition$Comparison" "symbol" "Ljava/lang/String;" (.ref s0)) (Es0 : Exa Z h0 s0 "java/lang/String") (Fc0 : Fld Z h0 s0 "java/lang/String" "coder" "B" (.int (0 : Int32))) (Fv0 : Fld Z h0 s0 "java/lang/String" "value" "[B" (.ref v0)) (Av0 : Arr Z h0 v0 c0 .byte) (zv0 : c0.slots.size.toInt32 = (1 : Int32)) (uv0_0 : ¬ ((0 : Int32) < 0 ∨ c0.slots.size ≤ (0 : Int32).toNatClampNeg) ∧ c0.slots[(0 : Int32).toNatClampNeg]? = some (.int (61 : Int32))) (w1 : ¬ ((1 : Int32) < 0 ∨ cv.slots.size ≤ (1 : Int32).toNatClampNeg) ∧ cv.slots[(1 : Int32).toNatClampNeg]? = some (.ref b1)) (Fb1 : Fld Z h0 b1 "com/example/windrow/windrow/Condition$Comparison" "symbol" "Ljava/lang/String;" (.ref s1)) (Es1 : Exa Z h0 s1 "java/lang/String") (Fc1 : Fld Z h0 s1 "java/lang/String" "coder" "B" (.int (0 : Int32))) (Fv1 : Fld Z h0 s1 "java/lang/String" "value" "[B" (.ref v1)) (Av1 : Arr Z h0 v1 c1 .byte) (zv1 : c1.slots.size.toInt32 = (2 : Int32)) (uv1_0 : ¬ ((0 : Int32) < 0 ∨ c1.slots.size ≤ (0 : Int32).toNatClampNeg) ∧ c1.slots[(0 : Int32).toNatClampNeg]? = some (.int (33 : Int32))) (uv1_1 : ¬ ((1 : Int32) < 0 ∨ c1.slots.size ≤ (1 : Int32).toNatClampNeg) ∧ c1.slots[(1 : Int32).toNatClampNeg]? = some (.int (61 : Int32))) (w2 : ¬ ((2 : Int32) < 0 ∨ cv.slots.size ≤ (2 : Int32).toNatClampNeg) ∧ cv.slots[(2 : Int32).toNatClampNeg]? = some (.ref b2)) (Fb2 : Fld Z h0 b2 "com/example/windrow/windrow/Condition$Comparison" "symbol" "Ljava/lang/String;" (.ref s2)) (Es2 : Exa Z h0 s2 "java/lang/String") (Fc2 : Fld Z h0 s2 "java/lang/String" "coder" "B" (.int (0 : Int32))) (Fv2 : Fld Z h0 s2 "java/lang/String" "value" "[B" (.ref v2)) (Av2 : Arr Z h0 v2 c2 .byte) (zv2 : c2.slots.size.toInt32 = (1 : Int32)) (uv2_0 : ¬ ((0 : Int32) < 0 ∨ c2.slots.size ≤ (0 : Int32).toNatClampNeg) ∧ c2.slots[(0 : Int32).toNatClampNeg]? = some (.int (60 : Int32))) (w3 : ¬ ((3 : Int32) < 0 ∨ cv.slots.size ≤ (3 : Int32).toNatClampNeg) ∧ cv.slots[(3 : Int32).toNatClampNeg]? = some (.ref b3)) (Fb3 : Fld Z h0 b3 "com/example/windrow/windrow/Condition$Comparison" "symbol" "Ljava/lang/String;" (.ref s3)) (Es3 : Exa Z h0 s3 "java/lang/String") (Fc3 : Fld Z h0 s3 "java/lang/String" "coder" "B" (.int (0 : Int32))) (Fv3 : Fld Z h0 s3 "java/lang/String" "value" "[B" (.ref v3)) (Av3 : Arr Z h0 v3 c3 .byte) (zv3 : c3.slots.size.toInt32 = (2 : Int32)) (uv3_0 : ¬ ((0 : Int32) < 0 ∨ c3.slots.size ≤ (0 : Int32).toNatClampNeg) ∧ c3.slots[(0 : Int32).toNatClampNeg]? = some (.int (60 : Int32))) (uv3_1 : ¬ ((1 : Int32) < 0 ∨ c3.slots.size ≤ (1 : Int32).toNatClampNeg) ∧ c3.slots[(1 : Int32).toNatClampNeg]? = some (.int (61 : Int32))) (w4 : ¬ ((4 : Int32) < 0 ∨ cv.slots.size ≤ (4 : Int32).toNatClampNeg) ∧ cv.slots[(4 : Int32).toNatClampNeg]? = some (.ref b4)) (Fb4 : Fld Z h0 b4 "com/example/windrow/windrow/Condition$Comparison" "symbol" "Ljava/lang/String;" (.ref s4)) (Es4 : Exa Z h0 s4 "java/lang/String") (Fc4 : Fld Z h0 s4 "java/lang/String" "coder" "B" (.int (0 : Int32))) (Fv4 : Fld Z h0 s4 "java/lang/String" "value" "[B" (.ref v4)) (Av4 : Arr Z h0 v4 c4 .byte) (zv4 : c4.slots.size.toInt32 = (1 : Int32)) (uv4_0 : ¬ ((0 : Int32) < 0 ∨ c4.slots.size ≤ (0 : Int32).toNatClampNeg) ∧ c4.slots[(0 : Int32).toNatClampNeg]? = some (.int (62 : Int32))) (w5 : ¬ ((5 : Int32) < 0 ∨ cv.slots.size ≤ (5 : Int32).toNatClampNeg) ∧ cv.slots[(5 : Int32).toNatClampNeg]? = some (.ref b5)) (Fb5 : Fld Z h0 b5 "com/example/windrow/windrow/Condition$Comparison" "symbol" "Ljava/lang/String;" (.ref s5)) (Es5 : Exa Z h0 s5 "java/lang/String") (Fc5 : Fld Z h0 s5 "java/lang/String" "coder" "B" (.int (0 : Int32))) (Fv5 : Fld Z h0 s5 "java/lang/String" "value" "[B" (.ref v5)) (Av5 : Arr Z h0 v5 c5 .byte) (zv5 : c5.slots.size.toInt32 = (2 : Int32)) (uv5_0 : ¬ ((0 : Int32) < 0 ∨ c5.slots.size ≤ (0 : Int32).toNatClampNeg) ∧ c5.slots[(0 : Int32).toNatClampNeg]? = some (.int (62 : Int32))) (uv5_1 : ¬ ((1 : Int32) < 0 ∨ c5.slots.size ≤ (1 : Int32).toNatClampNeg) ∧ c5.slots[(1 : Int32).toNatClampNeg]? = some (.int (61 : Int32))) :
    MetFree l (⟨"com/example/windrow/windrow/Condition$Comparison", "of", "(Ljava/lang/String;)Lcom/example/windrow/windrow/Condition$Comparison;"⟩ : MethodName) (head1 (Jvm.Cond.code (⟨"com/example/windrow/windrow/Condition$Comparison", "of", "(Ljava/lang/String;)Lcom/example/windrow/windrow/Condition$Comparison;"⟩ : MethodName) prog_20_method_4_code 5 (some (.object "com/example/windrow/windrow/Condition$Comparison")) :: ws) ({ frames := 2, cells := 1, slots := 6, locals := 30 } : Room)) (fun az Uz => az = #[(.ref sb)] ∧ Z.Warmed39 Uz.vm ∧ Uz.heap = h0) (fun _ _ _ _ _ => True) (fun _ Uz oz Ut => ∃ vz Lz, oz = .returned vz ∧ Q_of3 Z sb vb cb zc av cv b0 b1 b2 b3 b4 b5 s0 s1 s2 s3 s4 s5 v0 v1 v2 v3 v4 v5 c0 c1 c2 c3 c4 c5 h0 n0 vz Ut.heap Lz ∧ FrameEnd Uz oz Ut Lz (({ frames := 2, cells := 1, slots := 6, locals := 30 } : Room)).cells (({ frames := 2, cells := 1, slots := 6, locals := 30 } : Room)).slots) := by
  refine MetFree.of_bodySF (plainFor_of_name pn3) hisR ?_
  intro p e s m args below meth c s₁ Bd hml0 hP hK
  obtain ⟨rfl, hZ, hh⟩ := hP
  have hx := Bd.exec
  have hby := Bd.bytes
  have hml : c.maxLocals = 5 := hml0
  have hown : s.vm.findClass "com/example/windrow/windrow/Condition$Comparison" = some m.cls := findClass_of_methodNamed Bd.named
  have hnm := (name_of_methodNamed Bd.named Bd.method).1
  have hlk : meth.locks = false := Bd.notSynchronized
  have X0 : Stand p l e ({ frames := 2, cells := 1, slots := 6, locals := 30 } : Room) s m #[(.ref sb)] below meth c s₁ [] 0 0 := Stand.of_body Bd
  have e0 : s₁.heap = h0 := by rw [← hh, Bd.state]; rfl
  have N0 := Fr.nil n0
  show EndsK p e below (OQ s (Q_of3 Z sb vb cb zc av cv b0 b1 b2 b3 b4 b5 s0 s1 s2 s3 s4 s5 v0 v1 v2 v3 v4 v5 c0 c1 c2 c3 c4 c5 h0 n0) (({ frames := 2, cells := 1, slots := 6, locals := 30 } : Room)).cells (({ frames := 2, cells := 1, slots := 6, locals := 30 } : Room)).slots) (s₁.setTop (entryFrame m #[(.ref sb)] 5))
  refine EndsK.start (ef_of3 m sb vb cb zc av cv b0 b1 b2 b3 b4 b5 s0 s1 s2 s3 s4 s5 v0 v1 v2 v3 v4 v5 c0 c1 c2 c3 c4 c5) ?_
  show EndsK p e below _ (s₁.setTop (mkF m 0 #[.val (.ref sb), .unset, .unset, .unset, .unset] []))
  obtain ⟨_, _, ⟨T1, L1, k1, n1⟩, -, X1, ⟨Lc1, hQ1, l1, y1, z1⟩, st1⟩ := Jvm.LawKit.callS X0 hx (y := (⟨"com/example/windrow/windrow/Condition$Comparison", "values", "()[Lcom/example/windrow/windrow/Condition$Comparison;"⟩ : MethodName)) hown (mvT hZ (hw _ (List.mem_of_getElem? (i := 30) rfl))) (mvT hZ (hw _ (List.mem_of_getElem? (i := 31) rfl))) (mvT hZ (hw _ (List.mem_of_getElem? (i := 28) rfl))) (mvT hZ (hw _ (List.mem_of_getElem? (i := 32) rfl))) (by decide) (backOf (W := 0) (rm_vals l Z a0 hw [] av cv h0 n0 Z0 SV AV EV FV hsz) hZ (hw _ (List.mem_of_getElem? (i := 32) rfl)) (hw _ (List.mem_of_getElem? (i := 28) rfl)) (by decide) (by decide)) (g := (mkF m 0 #[.val (.ref sb), .unset, .unset, .unset, .unset] [])) rfl (by rw [hml]; rfl) (argsL := []) (rest := []) (lenOf pd1 rfl) rfl (by show 2 * 0 + _ ≤ _; exact Nat.le_of_eq rfl) (hb hby d5_0) (fun _ _ => ⟨rfl, e0, (by decide : 0 + 1 ≤ _), (by decide : 0 + 6 ≤ _)⟩)
  dsimp only [Pt.U, Pt.locs, Pt.cells, Pt.slots] at X1 l1 y1 z1 st1 hQ1
  subst l1 y1 z1
  obtain ⟨bb, rfl, N1, E1, A1⟩ := hQ1
  have M1 := Fr.app N0 N1
  obtain ⟨h1, e1⟩ : ∃ z, T1.heap = z := ⟨_, rfl⟩
  rw [e1] at E1 A1
  have Z1 : n0 ≤ h1.size := Nat.le_trans Z0 E1.1
  have hs6 : (cloneOf cv).slots.size.toInt32 = (6 : Int32) := by show cv.slots.size.toInt32 = _; rw [hsz]; rfl
  refine EndsK.go st1 ?_
  show EndsK p e below _ (T1.setTop (mkF m 3 #[.val (.ref sb), .unset, .unset, .unset, .unset] [(.ref bb)]))
  refine EndsK.go (fun _ kz => XS.astoreN X1.here hx rfl (hb hby d5_3) rfl rfl (l' := #[.val (.ref sb), .val (.ref bb), .unset, .unset, .unset]) rfl kz) ?_
  show EndsK p e below _ (T1.setTop (mkF m 4 #[.val (.ref sb), .val (.ref bb), .unset, .unset, .unset] []))
  refine EndsK.go (fun _ kz => XS.aloadN X1.here hx rfl (hb hby d5_4) rfl rfl kz) ?_
  show EndsK p e below _ (T1.setTop (mkF m 5 #[.val (.ref sb), .val (.ref bb), .unset, .unset, .unset] [(.ref bb)]))
  refine EndsK.go (fun tz kz => X1.arraylength hx (by rw [e1]; exact A1.1) (State.isArrayOf_alike hZ.alike A1.2.1) (g := (mkF m 5 #[.val (.ref sb), .val (.ref bb), .unset, .unset, .unset] [(.ref bb)])) rfl rfl (hb hby d5_5) tz kz) ?_
  rw [hs6]
  show EndsK p e below _ (T1.setTop (mkF m 6 #[.val (.ref sb), .val (.ref bb), .unset, .unset, .unset] [(.int (6 : Int32))]))
  refine EndsK.go (fun _ kz => XS.istoreN X1.here hx rfl (hb hby d5_6) rfl (l' := #[.val (.ref sb), .val (.ref bb), .val (.int (6 : Int32)), .unset, .unset]) rfl kz) ?_
  show EndsK p e below _ (T1.setTop (mkF m 7 #[.val (.ref sb), .val (.ref bb), .val (.int (6 : Int32)), .unset, .unset] []))
  refine EndsK.go (fun _ kz => XS.iconst X1.here hx rfl (hb hby d5_7) kz) ?_
  show EndsK p e below _ (T1.setTop (mkF m 8 #[.val (.ref sb), .val (.ref bb), .val (.int (6 : Int32)), .unset, .unset] [(.int (0 : Int32))]))
  refine EndsK.go (fun _ kz => XS.istoreN X1.here hx rfl (hb hby d5_8) rfl (l' := #[.val (.ref sb), .val (.ref bb), .val (.int (6 : Int32)), .val (.int (0 : Int32)), .unset]) rfl kz) ?_
  show EndsK p e below _ (T1.setTop (mkF m 9 #[.val (.ref sb), .val (.ref bb), .val (.int (6 : Int32)), .val (.int (0 : Int32)), .unset] []))
  refine EndsK.go (fun _ kz => XS.iloadN X1.here hx rfl (hb hby d5_9) rfl kz) ?_
  show EndsK p e below _ (T1.setTop (mkF m 10 #[.val (.ref sb), .val (.ref bb), .val (.int (6 : Int32)), .val (.int (0 : Int32)), .unset] [(.int (0 : Int32))]))
  refine EndsK.go (fun _ kz => XS.iloadN X1.here hx rfl (hb hby d5_10) rfl kz) ?_
  show EndsK p e below _ (T1.setTop (mkF m 11 #[.val (.ref sb), .val (.ref bb), .val (.int (6 : Int32)), .val (.int (0 : Int32)), .unset] [(.int (6 : Int32)), (.int (0 : Int32))]))
  refine EndsK.go (fun _ kz => XS.icmpNo X1.here hx rfl (hb hby d5_11) rfl (tlt (by decide : (0 : Int32) < (6 : Int32))).2.1 kz) ?_
  show EndsK p e below _ (T1.setTop (mkF m 14 #[.val (.ref sb), .val (.ref bb), .val (.int (6 : Int32)), .val (.int (0 : Int32)), .unset] []))
  refine EndsK.go (fun _ kz => XS.aloadN X1.here hx rfl (hb hby d5_14) rfl rfl kz) ?_
  show EndsK p e below _ (T1.setTop (mkF m 15 #[.val (.ref sb), .val (.ref bb), .val (.int (6 : Int32)), .val (.int (0 : Int32)), .unset] [(.ref bb)]))
  refine EndsK.go (fun _ kz => XS.iloadN X1.here hx rfl (hb hby d5_15) rfl kz) ?_
  show EndsK p e below _ (T1.setTop (mkF m 16 #[.val (.ref sb), .val (.ref bb), .val (.int (6 : Int32)), .val (.int (0 : Int32)), .unset] [(.int (0 : Int32)), (.ref bb)]))
  refine EndsK.go (fun tz kz => X1.aaload hx (j := (0 : Int32)) (v := (.ref b0)) (by rw [e1]; exact A1.1) (State.isArrayOf_alike hZ.alike A1.2.1) rfl A1.2.2 w0.1 w0.2 (g := (mkF m 16 #[.val (.ref sb), .val (.ref bb), .val (.int (6 : Int32)), .val (.int (0 : Int32)), .unset] [(.int (0 : Int32)), (.ref bb)])) rfl rfl (hb hby d5_16) tz kz) ?_
  show EndsK p e below _ (T1.setTop (mkF m 17 #[.val (.ref sb), .val (.ref bb), .val (.int (6 : Int32)), .val (.int (0 : Int32)), .unset] [(.ref b0)]))
  refine EndsK.go (fun _ kz => XS.astore X1.here hx rfl (hb hby d5_17) rfl rfl (l' := #[.val (.ref sb), .val (.ref bb), .val (.int (6 : Int32)), .val (.int (0 : Int32)), .val (.ref b0)]) rfl kz) ?_
  show EndsK p e below _ (T1.setTop (mkF m 19 #[.val (.ref sb), .val (.ref bb), .val (.int (6 : Int32)), .val (.int (0 : Int32)), .val (.ref b0)] []))
  refine EndsK.go (fun _ kz => XS.aload X1.here hx rfl (hb hby d5_19) rfl rfl kz) ?_
  show EndsK p e below _ (T1.setTop (mkF m 21 #[.val (.ref sb), .val (.ref bb), .val (.int (6 : Int32)), .val (.int (0 : Int32)), .val (.ref b0)] [(.ref b0)]))
  obtain ⟨T2, X2, e2, st2⟩ := getF X1 hx hZ hown (host := "") (Or.inl (hw _ (List.mem_of_getElem? (i := 51) rfl))) Via.refl e1 (Fb0.ext E1) (g := (mkF m 21 #[.val (.ref sb), .val (.ref bb), .val (.int (6 : Int32)), .val (.int (0 : Int32)), .val (.ref b0)] [(.ref b0)])) rfl rfl (hb hby d5_21)
  refine EndsK.go st2 ?_
  show EndsK p e below _ (T2.setTop (mkF m 24 #[.val (.ref sb), .val (.ref bb), .val (.int (6 : Int32)), .val (.int (0 : Int32)), .val (.ref b0)] [(.ref s0)]))
  refine EndsK.go (fun _ kz => XS.aloadN X2.here hx rfl (hb hby d5_24) rfl rfl kz) ?_
  show EndsK p e below _ (T2.setTop (mkF m 25 #[.val (.ref sb), .val (.ref bb), .val (.int (6 : Int32)), .val (.int (0 : Int32)), .val (.ref b0)] [(.ref sb), (.ref s0)]))
  obtain ⟨cq3, kq3, qa3, qb3, qc3⟩ := isOf hZ e2 (Es0.ext E1)
  obtain ⟨_, _, ⟨T3, L3, k3, n3⟩, -, X3, ⟨Lc3, hQ3, l3, y3, z3⟩, st3⟩ := X2.virtualBack hx (y := (⟨"java/lang/String", "equals", "(Ljava/lang/Object;)Z"⟩ : MethodName)) (z := (⟨"java/lang/String", "equals", "(Ljava/lang/Object;)Z"⟩ : MethodName)) hown (mvT hZ (hw _ (List.mem_of_getElem? (i := 53) rfl))) (mvT hZ (hw _ (List.mem_of_getElem? (i := 54) rfl))) (notFace_of_selects (args := #[]) (mvT hZ (hw _ (List.mem_of_getElem? (i := 56) rfl)))) (mvT hZ (hw _ (List.mem_of_getElem? (i := 56) rfl))) (mvT hZ (hw _ (List.mem_of_getElem? (i := 55) rfl))) (by decide) (backOf (W := 0) (rm_seq13 l Z a0 hw [] s0 sb v0 vb c0 cb zc  h1 n0 Z1 (Es0.ext E1) (Fc0.ext E1) (Fv0.ext E1) hne0 (Et.ext E1) (Ftc.ext E1) (Ftv.ext E1) (SC.ext E1) hzc (Av0.ext E1) (Ab.ext E1) zv0 zb ) hZ (hw _ (List.mem_of_getElem? (i := 57) rfl)) (hw _ (List.mem_of_getElem? (i := 7) rfl)) (by decide) (by decide)) qa3 qc3 (g := (mkF m 25 #[.val (.ref sb), .val (.ref bb), .val (.int (6 : Int32)), .val (.int (0 : Int32)), .val (.ref b0)] [(.ref sb), (.ref s0)])) rfl (by rw [hml]; rfl) (Steps.refl _) (argsL := [(.ref sb)]) (rest := []) (lenOf pd2 rfl) rfl (by show 2 * 0 + _ ≤ _; exact Nat.le_of_eq rfl) (hb hby d5_25) (fun _ _ => ⟨rfl, e2, (by decide : 0 + 1 + 0 ≤ _), (by decide : 0 + 6 + 0 ≤ _)⟩)
  dsimp only [Pt.U, Pt.locs, Pt.cells, Pt.slots] at X3 l3 y3 z3 st3 hQ3
  subst l3 y3 z3
  obtain ⟨rfl, N3, e3⟩ := hQ3
  have M3 := Fr.app M1 N3
  refine EndsK.tr st3 ?_
  show EndsK p e below _ (T3.setTop (mkF m 28 #[.val (.ref sb), .val (.ref bb), .val (.int (6 : Int32)), .val (.int (0 : Int32)), .val (.ref b0)] [(.int (0 : Int32))]))
  refine EndsK.go (fun _ kz => XS.ifYes X3.here hx rfl (pc0 := 28) (pc' := 34) rfl (hb hby d5_28) rfl ((if0 _ _).trans (teq (rfl : (0 : Int32) = (0 : Int32))).1) (by decide) (by decide) kz) ?_
  show EndsK p e below _ (T3.setTop (mkF m 34 #[.val (.ref sb), .val (.ref bb), .val (.int (6 : Int32)), .val (.int (0 : Int32)), .val (.ref b0)] []))
  refine EndsK.go (fun _ kz => XS.iinc X3.here hx rfl (hb hby d5_34) rfl (l' := #[.val (.ref sb), .val (.ref bb), .val (.int (6 : Int32)), .val (.int (1 : Int32)), .val (.ref b0)]) rfl kz) ?_
  show EndsK p e below _ (T3.setTop (mkF m 37 #[.val (.ref sb), .val (.ref bb), .val (.int (6 : Int32)), .val (.int (1 : Int32)), .val (.ref b0)] []))
  refine EndsK.go (fun _ kz => XS.goto X3.here hx rfl (pc0 := 37) (pc' := 9) rfl (hb hby d5_37) (by decide) (by decide) kz) ?_
  show EndsK p e below _ (T3.setTop (mkF m 9 #[.val (.ref sb), .val (.ref bb), .val (.int (6 : Int32)), .val (.int (1 : Int32)), .val (.ref b0)] []))
  refine EndsK.go (fun _ kz => XS.iloadN X3.here hx rfl (hb hby d5_9) rfl kz) ?_
  show EndsK p e below _ (T3.setTop (mkF m 10 #[.val (.ref sb), .val (.ref bb), .val (.int (6 : Int32)), .val (.int (1 : Int32)), .val (.ref b0)] [(.int (1 : Int32))]))
  refine EndsK.go (fun _ kz => XS.iloadN X3.here hx rfl (hb hby d5_10) rfl kz) ?_
  show EndsK p e below _ (T3.setTop (mkF m 11 #[.val (.ref sb), .val (.ref bb), .val (.int (6 : Int32)), .val (.int (1 : Int32)), .val (.ref b0)] [(.int (6 : Int32)), (.int (1 : Int32))]))
  refine EndsK.go (fun _ kz => XS.icmpNo X3.here hx rfl (hb hby d5_11) rfl (tlt (by decide : (1 : Int32) < (6 : Int32))).2.1 kz) ?_
  show EndsK p e below _ (T3.setTop (mkF m 14 #[.val (.ref sb), .val (.ref bb), .val (.int (6 : Int32)), .val (.int (1 : Int32)), .val (.ref b0)] []))
  refine EndsK.go (fun _ kz => XS.aloadN X3.here hx rfl (hb hby d5_14) rfl rfl kz) ?_
  show EndsK p e below _ (T3.setTop (mkF m 15 #[.val (.ref sb), .val (.ref bb), .val (.int (6 : Int32)), .val (.int (1 : Int32)), .val (.ref b0)] [(.ref bb)]))
  refine EndsK.go (fun _ kz => XS.iloadN X3.here hx rfl (hb hby d5_15) rfl kz) ?_
  show EndsK p e below _ (T3.setTop (mkF m 16 #[.val (.ref sb), .val (.ref bb), .val (.int (6 : Int32)), .val (.int (1 : Int32)), .val (.ref b0)] [(.int (1 : Int32)), (.ref bb)]))
  refine EndsK.go (fun tz kz => X3.aaload hx (j := (1 : Int32)) (v := (.ref b1)) (by rw [e3]; exact A1.1) (State.isArrayOf_alike hZ.alike A1.2.1) rfl A1.2.2 w1.1 w1.2 (g := (mkF m 16 #[.val (.ref sb), .val (.ref bb), .val (.int (6 : Int32)), .val (.int (1 : Int32)), .val (.ref b0)] [(.int (1 : Int32)), (.ref bb)])) rfl rfl (hb hby d5_16) tz kz) ?_
  show EndsK p e below _ (T3.setTop (mkF m 17 #[.val (.ref sb), .val (.ref bb), .val (.int (6 : Int32)), .val (.int (1 : Int32)), .val (.ref b0)] [(.ref b1)]))
  refine EndsK.go (fun _ kz => XS.astore X3.here hx rfl (hb hby d5_17) rfl rfl (l' := #[.val (.ref sb), .val (.ref bb), .val (.int (6 : Int32)), .val (.int (1 : Int32)), .val (.ref b1)]) rfl kz) ?_
  show EndsK p e below _ (T3.setTop (mkF m 19 #[.val (.ref sb), .val (.ref bb), .val (.int (6 : Int32)), .val (.int (1 : Int32)), .val (.ref b1)] []))
  refine EndsK.go (fun _ kz => XS.aload X3.here hx rfl (hb hby d5_19) rfl rfl kz) ?_
  show EndsK p e below _ (T3.setTop (mkF m 21 #[.val (.ref sb), .val (.ref bb), .val (.int (6 : Int32)), .val (.int (1 : Int32)), .val (.ref b1)] [(.ref b1)]))
  obtain ⟨T4, X4, e4, st4⟩ := getF X3 hx hZ hown (host := "") (Or.inl (hw _ (List.mem_of_getElem? (i := 51) rfl))) Via.refl e3 (Fb1.ext E1) (g := (mkF m 21 #[.val (.ref sb), .val (.ref bb), .val (.int (6 : Int32)), .val (.int (1 : Int32)), .val (.ref b1)] [(.ref b1)])) rfl rfl (hb hby d5_21)
  refine EndsK.go st4 ?_
  show EndsK p e below _ (T4.setTop (mkF m 24 #[.val (.ref sb), .val (.ref bb), .val (.int (6 : Int32)), .val (.int (1 : Int32)), .val (.ref b1)] [(.ref s1)]))
  refine EndsK.go (fun _ kz => XS.aloadN X4.here hx rfl (hb hby d5_24) rfl rfl kz) ?_
  show EndsK p e below _ (T4.setTop (mkF m 25 #[.val (.ref sb), .val (.ref bb), .val (.int (6 : Int32)), .val (.int (1 : Int32)), .val (.ref b1)] [(.ref sb), (.ref s1)]))
  obtain ⟨cq5, kq5, qa5, qb5, qc5⟩ := isOf hZ e4 (Es1.ext E1)
  obtain ⟨_, _, ⟨T5, L5, k5, n5⟩, -, X5, ⟨Lc5, hQ5, l5, y5, z5⟩, st5⟩ := X4.virtualBack hx (y := (⟨"java/lang/String", "equals", "(Ljava/lang/Object;)Z"⟩ : MethodName)) (z := (⟨"java/lang/String", "equals", "(Ljava/lang/Object;)Z"⟩ : MethodName)) hown (mvT hZ (hw _ (List.mem_of_getElem? (i := 53) rfl))) (mvT hZ (hw _ (List.mem_of_getElem? (i := 54) rfl))) (notFace_of_selects (args := #[]) (mvT hZ (hw _ (List.mem_of_getElem? (i := 56) rfl)))) (mvT hZ (hw _ (List.mem_of_getElem? (i := 56) rfl))) (mvT hZ (hw _ (List.mem_of_getElem? (i := 55) rfl))) (by decide) (backOf (W := 0) (rm_seq23 l Z a0 hw [] s1 sb v1 vb c1 cb zc  h1 n0 Z1 (Es1.ext E1) (Fc1.ext E1) (Fv1.ext E1) hne1 (Et.ext E1) (Ftc.ext E1) (Ftv.ext E1) (SC.ext E1) hzc (Av1.ext E1) (Ab.ext E1) zv1 zb ) hZ (hw _ (List.mem_of_getElem? (i := 57) rfl)) (hw _ (List.mem_of_getElem? (i := 7) rfl)) (by decide) (by decide)) qa5 qc5 (g := (mkF m 25 #[.val (.ref sb), .val (.ref bb), .val (.int (6 : Int32)), .val (.int (1 : Int32)), .val (.ref b1)] [(.ref sb), (.ref s1)])) rfl (by rw [hml]; rfl) (Steps.refl _) (argsL := [(.ref sb)]) (rest := []) (lenOf pd2 rfl) rfl (by show 2 * 0 + _ ≤ _; exact Nat.le_of_eq rfl) (hb hby d5_25) (fun _ _ => ⟨rfl, e4, (by decide : 0 + 1 + 0 + 0 ≤ _), (by decide : 0 + 6 + 0 + 0 ≤ _)⟩)
  dsimp only [Pt.U, Pt.locs, Pt.cells, Pt.slots] at X5 l5 y5 z5 st5 hQ5
  subst l5 y5 z5
  obtain ⟨rfl, N5, e5⟩ := hQ5
  have M5 := Fr.app M3 N5
  refine EndsK.tr st5 ?_
  show EndsK p e below _ (T5.setTop (mkF m 28 #[.val (.ref sb), .val (.ref bb), .val (.int (6 : Int32)), .val (.int (1 : Int32)), .val (.ref b1)] [(.int (0 : Int32))]))
  refine EndsK.go (fun _ kz => XS.ifYes X5.here hx rfl (pc0 := 28) (pc' := 34) rfl (hb hby d5_28) rfl ((if0 _ _).trans (teq (rfl : (0 : Int32) = (0 : Int32))).1) (by decide) (by decide) kz) ?_
  show EndsK p e below _ (T5.setTop (mkF m 34 #[.val (.ref sb), .val (.ref bb), .val (.int (6 : Int32)), .val (.int (1 : Int32)), .val (.ref b1)] []))
  refine EndsK.go (fun _ kz => XS.iinc X5.here hx rfl (hb hby d5_34) rfl (l' := #[.val (.ref sb), .val (.ref bb), .val (.int (6 : Int32)), .val (.int (2 : Int32)), .val (.ref b1)]) rfl kz) ?_
  show EndsK p e below _ (T5.setTop (mkF m 37 #[.val (.ref sb), .val (.ref bb), .val (.int (6 : Int32)), .val (.int (2 : Int32)), .val (.ref b1)] []))
  refine EndsK.go (fun _ kz => XS.goto X5.here hx rfl (pc0 := 37) (pc' := 9) rfl (hb hby d5_37) (by decide) (by decide) kz) ?_
  show EndsK p e below _ (T5.setTop (mkF m 9 #[.val (.ref sb), .val (.ref bb), .val (.int (6 : Int32)), .val (.int (2 : Int32)), .val (.ref b1)] []))
  refine EndsK.go (fun _ kz => XS.iloadN X5.here hx rfl (hb hby d5_9) rfl kz) ?_
  show EndsK p e below _ (T5.setTop (mkF m 10 #[.val (.ref sb), .val (.ref bb), .val (.int (6 : Int32)), .val (.int (2 : Int32)), .val (.ref b1)] [(.int (2 : Int32))]))
  refine EndsK.go (fun _ kz => XS.iloadN X5.here hx rfl (hb hby d5_10) rfl kz) ?_
  show EndsK p e below _ (T5.setTop (mkF m 11 #[.val (.ref sb), .val (.ref bb), .val (.int (6 : Int32)), .val (.int (2 : Int32)), .val (.ref b1)] [(.int (6 : Int32)), (.int (2 : Int32))]))
  refine EndsK.go (fun _ kz => XS.icmpNo X5.here hx rfl (hb hby d5_11) rfl (tlt (by decide : (2 : Int32) < (6 : Int32))).2.1 kz) ?_
  show EndsK p e below _ (T5.setTop (mkF m 14 #[.val (.ref sb), .val (.ref bb), .val (.int (6 : Int32)), .val (.int (2 : Int32)), .val (.ref b1)] []))
  refine EndsK.go (fun _ kz => XS.aloadN X5.here hx rfl (hb hby d5_14) rfl rfl kz) ?_
  show EndsK p e below _ (T5.setTop (mkF m 15 #[.val (.ref sb), .val (.ref bb), .val (.int (6 : Int32)), .val (.int (2 : Int32)), .val (.ref b1)] [(.ref bb)]))
  refine EndsK.go (fun _ kz => XS.iloadN X5.here hx rfl (hb hby d5_15) rfl kz) ?_
  show EndsK p e below _ (T5.setTop (mkF m 16 #[.val (.ref sb), .val (.ref bb), .val (.int (6 : Int32)), .val (.int (2 : Int32)), .val (.ref b1)] [(.int (2 : Int32)), (.ref bb)]))
  refine EndsK.go (fun tz kz => X5.aaload hx (j := (2 : Int32)) (v := (.ref b2)) (by rw [e5]; exact A1.1) (State.isArrayOf_alike hZ.alike A1.2.1) rfl A1.2.2 w2.1 w2.2 (g := (mkF m 16 #[.val (.ref sb), .val (.ref bb), .val (.int (6 : Int32)), .val (.int (2 : Int32)), .val (.ref b1)] [(.int (2 : Int32)), (.ref bb)])) rfl rfl (hb hby d5_16) tz kz) ?_
  show EndsK p e below _ (T5.setTop (mkF m 17 #[.val (.ref sb), .val (.ref bb), .val (.int (6 : Int32)), .val (.int (2 : Int32)), .val (.ref b1)] [(.ref b2)]))
  refine EndsK.go (fun _ kz => XS.astore X5.here hx rfl (hb hby d5_17) rfl rfl (l' := #[.val (.ref sb), .val (.ref bb), .val (.int (6 : Int32)), .val (.int (2 : Int32)), .val (.ref b2)]) rfl kz) ?_
  show EndsK p e below _ (T5.setTop (mkF m 19 #[.val (.ref sb), .val (.ref bb), .val (.int (6 : Int32)), .val (.int (2 : Int32)), .val (.ref b2)] []))
  refine EndsK.go (fun _ kz => XS.aload X5.here hx rfl (hb hby d5_19) rfl rfl kz) ?_
  show EndsK p e below _ (T5.setTop (mkF m 21 #[.val (.ref sb), .val (.ref bb), .val (.int (6 : Int32)), .val (.int (2 : Int32)), .val (.ref b2)] [(.ref b2)]))
  obtain ⟨T6, X6, e6, st6⟩ := getF X5 hx hZ hown (host := "") (Or.inl (hw _ (List.mem_of_getElem? (i := 51) rfl))) Via.refl e5 (Fb2.ext E1) (g := (mkF m 21 #[.val (.ref sb), .val (.ref bb), .val (.int (6 : Int32)), .val (.int (2 : Int32)), .val (.ref b2)] [(.ref b2)])) rfl rfl (hb hby d5_21)
  refine EndsK.go st6 ?_
  show EndsK p e below _ (T6.setTop (mkF m 24 #[.val (.ref sb), .val (.ref bb), .val (.int (6 : Int32)), .val (.int (2 : Int32)), .val (.ref b2)] [(.ref s2)]))
  refine EndsK.go (fun _ kz => XS.aloadN X6.here hx rfl (hb hby d5_24) rfl rfl kz) ?_
  show EndsK p e below _ (T6.setTop (mkF m 25 #[.val (.ref sb), .val (.ref bb), .val (.int (6 : Int32)), .val (.int (2 : Int32)), .val (.ref b2)] [(.ref sb), (.ref s2)]))
  obtain ⟨cq7, kq7, qa7, qb7, qc7⟩ := isOf hZ e6 (Es2.ext E1)
  obtain ⟨_, _, ⟨T7, L7, k7, n7⟩, -, X7, ⟨Lc7, hQ7, l7, y7, z7⟩, st7⟩ := X6.virtualBack hx (y := (⟨"java/lang/String", "equals", "(Ljava/lang/Object;)Z"⟩ : MethodName)) (z := (⟨"java/lang/String", "equals", "(Ljava/lang/Object;)Z"⟩ : MethodName)) hown (mvT hZ (hw _ (List.mem_of_getElem? (i := 53) rfl))) (mvT hZ (hw _ (List.mem_of_getElem? (i := 54) rfl))) (notFace_of_selects (args := #[]) (mvT hZ (hw _ (List.mem_of_getElem? (i := 56) rfl)))) (mvT hZ (hw _ (List.mem_of_getElem? (i := 56) rfl))) (mvT hZ (hw _ (List.mem_of_getElem? (i := 55) rfl))) (by decide) (backOf (W := 0) (rm_seq13 l Z a0 hw [] s2 sb v2 vb c2 cb zc  h1 n0 Z1 (Es2.ext E1) (Fc2.ext E1) (Fv2.ext E1) hne2 (Et.ext E1) (Ftc.ext E1) (Ftv.ext E1) (SC.ext E1) hzc (Av2.ext E1) (Ab.ext E1) zv2 zb ) hZ (hw _ (List.mem_of_getElem? (i := 57) rfl)) (hw _ (List.mem_of_getElem? (i := 7) rfl)) (by decide) (by decide)) qa7 qc7 (g := (mkF m 25 #[.val (.ref sb), .val (.ref bb), .val (.int (6 : Int32)), .val (.int (2 : Int32)), .val (.ref b2)] [(.ref sb), (.ref s2)])) rfl (by rw [hml]; rfl) (Steps.refl _) (argsL := [(.ref sb)]) (rest := []) (lenOf pd2 rfl) rfl (by show 2 * 0 + _ ≤ _; exact Nat.le_of_eq rfl) (hb hby d5_25) (fun _ _ => ⟨rfl, e6, (by decide : 0 + 1 + 0 + 0 + 0 ≤ _), (by decide : 0 + 6 + 0 + 0 + 0 ≤ _)⟩)
  dsimp only [Pt.U, Pt.locs, Pt.cells, Pt.slots] at X7 l7 y7 z7 st7 hQ7
  subst l7 y7 z7
  obtain ⟨rfl, N7, e7⟩ := hQ7
  have M7 := Fr.app M5 N7
  refine EndsK.tr st7 ?_
  show EndsK p e below _ (T7.setTop (mkF m 28 #[.val (.ref sb), .val (.ref bb), .val (.int (6 : Int32)), .val (.int (2 : Int32)), .val (.ref b2)] [(.int (0 : Int32))]))
  refine EndsK.go (fun _ kz => XS.ifYes X7.here hx rfl (pc0 := 28) (pc' := 34) rfl (hb hby d5_28) rfl ((if0 _ _).trans (teq (rfl : (0 : Int32) = (0 : Int32))).1) (by decide) (by decide) kz) ?_
  show EndsK p e below _ (T7.setTop (mkF m 34 #[.val (.ref sb), .val (.ref bb), .val (.int (6 : Int32)), .val (.int (2 : Int32)), .val (.ref b2)] []))
  refine EndsK.go (fun _ kz => XS.iinc X7.here hx rfl (hb hby d5_34) rfl (l' := #[.val (.ref sb), .val (.ref bb), .val (.int (6 : Int32)), .val (.int (3 : Int32)), .val (.ref b2)]) rfl kz) ?_
  show EndsK p e below _ (T7.setTop (mkF m 37 #[.val (.ref sb), .val (.ref bb), .val (.int (6 : Int32)), .val (.int (3 : Int32)), .val (.ref b2)] []))
  refine EndsK.go (fun _ kz => XS.goto X7.here hx rfl (pc0 := 37) (pc' := 9) rfl (hb hby d5_37) (by decide) (by decide) kz) ?_
  show EndsK p e below _ (T7.setTop (mkF m 9 #[.val (.ref sb), .val (.ref bb), .val (.int (6 : Int32)), .val (.int (3 : Int32)), .val (.ref b2)] []))
  refine EndsK.go (fun _ kz => XS.iloadN X7.here hx rfl (hb hby d5_9) rfl kz) ?_
  show EndsK p e below _ (T7.setTop (mkF m 10 #[.val (.ref sb), .val (.ref bb), .val (.int (6 : Int32)), .val (.int (3 : Int32)), .val (.ref b2)] [(.int (3 : Int32))]))
  refine EndsK.go (fun _ kz => XS.iloadN X7.here hx rfl (hb hby d5_10) rfl kz) ?_
  show EndsK p e below _ (T7.setTop (mkF m 11 #[.val (.ref sb), .val (.ref bb), .val (.int (6 : Int32)), .val (.int (3 : Int32)), .val (.ref b2)] [(.int (6 : Int32)), (.int (3 : Int32))]))
  refine EndsK.go (fun _ kz => XS.icmpNo X7.here hx rfl (hb hby d5_11) rfl (tlt (by decide : (3 : Int32) < (6 : Int32))).2.1 kz) ?_
  show EndsK p e below _ (T7.setTop (mkF m 14 #[.val (.ref sb), .val (.ref bb), .val (.int (6 : Int32)), .val (.int (3 : Int32)), .val (.ref b2)] []))
  refine EndsK.go (fun _ kz => XS.aloadN X7.here hx rfl (hb hby d5_14) rfl rfl kz) ?_
  show EndsK p e below _ (T7.setTop (mkF m 15 #[.val (.ref sb), .val (.ref bb), .val (.int (6 : Int32)), .val (.int (3 : Int32)), .val (.ref b2)] [(.ref bb)]))
  refine EndsK.go (fun _ kz => XS.iloadN X7.here hx rfl (hb hby d5_15) rfl kz) ?_
  show EndsK p e below _ (T7.setTop (mkF m 16 #[.val (.ref sb), .val (.ref bb), .val (.int (6 : Int32)), .val (.int (3 : Int32)), .val (.ref b2)] [(.int (3 : Int32)), (.ref bb)]))
  refine EndsK.go (fun tz kz => X7.aaload hx (j := (3 : Int32)) (v := (.ref b3)) (by rw [e7]; exact A1.1) (State.isArrayOf_alike hZ.alike A1.2.1) rfl A1.2.2 w3.1 w3.2 (g := (mkF m 16 #[.val (.ref sb), .val (.ref bb), .val (.int (6 : Int32)), .val (.int (3 : Int32)), .val (.ref b2)] [(.int (3 : Int32)), (.ref bb)])) rfl rfl (hb hby d5_16) tz kz) ?_
  show EndsK p e below _ (T7.setTop (mkF m 17 #[.val (.ref sb), .val (.ref bb), .val (.int (6 : Int32)), .val (.int (3 : Int32)), .val (.ref b2)] [(.ref b3)]))
  refine EndsK.go (fun _ kz => XS.astore X7.here hx rfl (hb hby d5_17) rfl rfl (l' := #[.val (.ref sb), .val (.ref bb), .val (.int (6 : Int32)), .val (.int (3 : Int32)), .val (.ref b3)]) rfl kz) ?_
  show EndsK p e below _ (T7.setTop (mkF m 19 #[.val (.ref sb), .val (.ref bb), .val (.int (6 : Int32)), .val (.int (3 : Int32)), .val (.ref b3)] []))
  refine EndsK.go (fun _ kz => XS.aload X7.here hx rfl (hb hby d5_19) rfl rfl kz) ?_
  show EndsK p e below _ (T7.setTop (mkF m 21 #[.val (.ref sb), .val (.ref bb), .val (.int (6 : Int32)), .val (.int (3 : Int32)), .val (.ref b3)] [(.ref b3)]))
  obtain ⟨T8, X8, e8, st8⟩ := getF X7 hx hZ hown (host := "") (Or.inl (hw _ (List.mem_of_getElem? (i := 51) rfl))) Via.refl e7 (Fb3.ext E1) (g := (mkF m 21 #[.val (.ref sb), .val (.ref bb), .val (.int (6 : Int32)), .val (.int (3 : Int32)), .val (.ref b3)] [(.ref b3)])) rfl rfl (hb hby d5_21)
  refine EndsK.go st8 ?_
  show EndsK p e below _ (T8.setTop (mkF m 24 #[.val (.ref sb), .val (.ref bb), .val (.int (6 : Int32)), .val (.int (3 : Int32)), .val (.ref b3)] [(.ref s3)]))
  refine EndsK.go (fun _ kz => XS.aloadN X8.here hx rfl (hb hby d5_24) rfl rfl kz) ?_
  show EndsK p e below _ (T8.setTop (mkF m 25 #[.val (.ref sb), .val (.ref bb), .val (.int (6 : Int32)), .val (.int (3 : Int32)), .val (.ref b3)] [(.ref sb), (.ref s3)]))
  obtain ⟨cq9, kq9, qa9, qb9, qc9⟩ := isOf hZ e8 (Es3.ext E1)
  obtain ⟨_, _, ⟨T9, L9, k9, n9⟩, -, X9, ⟨Lc9, hQ9, l9, y9, z9⟩, st9⟩ := X8.virtualBack hx (y := (⟨"java/lang/String", "equals", "(Ljava/lang/Object;)Z"⟩ : MethodName)) (z := (⟨"java/lang/String", "equals", "(Ljava/lang/Object;)Z"⟩ : MethodName)) hown (mvT hZ (hw _ (List.mem_of_getElem? (i := 53) rfl))) (mvT hZ (hw _ (List.mem_of_getElem? (i := 54) rfl))) (notFace_of_selects (args := #[]) (mvT hZ (hw _ (List.mem_of_getElem? (i := 56) rfl)))) (mvT hZ (hw _ (List.mem_of_getElem? (i := 56) rfl))) (mvT hZ (hw _ (List.mem_of_getElem? (i := 55) rfl))) (by decide) (backOf (W := 0) (rm_seq23 l Z a0 hw [] s3 sb v3 vb c3 cb zc  h1 n0 Z1 (Es3.ext E1) (Fc3.ext E1) (Fv3.ext E1) hne3 (Et.ext E1) (Ftc.ext E1) (Ftv.ext E1) (SC.ext E1) hzc (Av3.ext E1) (Ab.ext E1) zv3 zb ) hZ (hw _ (List.mem_of_getElem? (i := 57) rfl)) (hw _ (List.mem_of_getElem? (i := 7) rfl)) (by decide) (by decide)) qa9 qc9 (g := (mkF m 25 #[.val (.ref sb), .val (.ref bb), .val (.int (6 : Int32)), .val (.int (3 : Int32)), .val (.ref b3)] [(.ref sb), (.ref s3)])) rfl (by rw [hml]; rfl) (Steps.refl _) (argsL := [(.ref sb)]) (rest := []) (lenOf pd2 rfl) rfl (by show 2 * 0 + _ ≤ _; exact Nat.le_of_eq rfl) (hb hby d5_25) (fun _ _ => ⟨rfl, e8, (by decide : 0 + 1 + 0 + 0 + 0 + 0 ≤ _), (by decide : 0 + 6 + 0 + 0 + 0 + 0 ≤ _)⟩)
  dsimp only [Pt.U, Pt.locs, Pt.cells, Pt.slots] at X9 l9 y9 z9 st9 hQ9
  subst l9 y9 z9
  obtain ⟨rfl, N9, e9⟩ := hQ9
  have M9 := Fr.app M7 N9
  refine EndsK.tr st9 ?_
  show EndsK p e below _ (T9.setTop (mkF m 28 #[.val (.ref sb), .val (.ref bb), .val (.int (6 : Int32)), .val (.int (3 : Int32)), .val (.ref b3)] [(.int (0 : Int32))]))
  refine EndsK.go (fun _ kz => XS.ifYes X9.here hx rfl (pc0 := 28) (pc' := 34) rfl (hb hby d5_28) rfl ((if0 _ _).trans (teq (rfl : (0 : Int32) = (0 : Int32))).1) (by decide) (by decide) kz) ?_
  show EndsK p e below _ (T9.setTop (mkF m 34 #[.val (.ref sb), .val (.ref bb), .val (.int (6 : Int32)), .val (.int (3 : Int32)), .val (.ref b3)] []))
  refine EndsK.go (fun _ kz => XS.iinc X9.here hx rfl (hb hby d5_34) rfl (l' := #[.val (.ref sb), .val (.ref bb), .val (.int (6 : Int32)), .val (.int (4 : Int32)), .val (.ref b3)]) rfl kz) ?_
  show EndsK p e below _ (T9.setTop (mkF m 37 #[.val (.ref sb), .val (.ref bb), .val (.int (6 : Int32)), .val (.int (4 : Int32)), .val (.ref b3)] []))
  refine EndsK.go (fun _ kz => XS.goto X9.here hx rfl (pc0 := 37) (pc' := 9) rfl (hb hby d5_37) (by decide) (by decide) kz) ?_
  show EndsK p e below _ (T9.setTop (mkF m 9 #[.val (.ref sb), .val (.ref bb), .val (.int (6 : Int32)), .val (.int (4 : Int32)), .val (.ref b3)] []))
  refine EndsK.go (fun _ kz => XS.iloadN X9.here hx rfl (hb hby d5_9) rfl kz) ?_
  show EndsK p e below _ (T9.setTop (mkF m 10 #[.val (.ref sb), .val (.ref bb), .val (.int (6 : Int32)), .val (.int (4 : Int32)), .val (.ref b3)] [(.int (4 : Int32))]))
  refine EndsK.go (fun _ kz => XS.iloadN X9.here hx rfl (hb hby d5_10) rfl kz) ?_
  show EndsK p e below _ (T9.setTop (mkF m 11 #[.val (.ref sb), .val (.ref bb), .val (.int (6 : Int32)), .val (.int (4 : Int32)), .val (.ref b3)] [(.int (6 : Int32)), (.int (4 : Int32))]))
  refine EndsK.go (fun _ kz => XS.icmpNo X9.here hx rfl (hb hby d5_11) rfl (tlt (by decide : (4 : Int32) < (6 : Int32))).2.1 kz) ?_
  show EndsK p e below _ (T9.setTop (mkF m 14 #[.val (.ref sb), .val (.ref bb), .val (.int (6 : Int32)), .val (.int (4 : Int32)), .val (.ref b3)] []))
  refine EndsK.go (fun _ kz => XS.aloadN X9.here hx rfl (hb hby d5_14) rfl rfl kz) ?_
  show EndsK p e below _ (T9.setTop (mkF m 15 #[.val (.ref sb), .val (.ref bb), .val (.int (6 : Int32)), .val (.int (4 : Int32)), .val (.ref b3)] [(.ref bb)]))
  refine EndsK.go (fun _ kz => XS.iloadN X9.here hx rfl (hb hby d5_15) rfl kz) ?_
  show EndsK p e below _ (T9.setTop (mkF m 16 #[.val (.ref sb), .val (.ref bb), .val (.int (6 : Int32)), .val (.int (4 : Int32)), .val (.ref b3)] [(.int (4 : Int32)), (.ref bb)]))
  refine EndsK.go (fun tz kz => X9.aaload hx (j := (4 : Int32)) (v := (.ref b4)) (by rw [e9]; exact A1.1) (State.isArrayOf_alike hZ.alike A1.2.1) rfl A1.2.2 w4.1 w4.2 (g := (mkF m 16 #[.val (.ref sb), .val (.ref bb), .val (.int (6 : Int32)), .val (.int (4 : Int32)), .val (.ref b3)] [(.int (4 : Int32)), (.ref bb)])) rfl rfl (hb hby d5_16) tz kz) ?_
  show EndsK p e below _ (T9.setTop (mkF m 17 #[.val (.ref sb), .val (.ref bb), .val (.int (6 : Int32)), .val (.int (4 : Int32)), .val (.ref b3)] [(.ref b4)]))
  refine EndsK.go (fun _ kz => XS.astore X9.here hx rfl (hb hby d5_17) rfl rfl (l' := #[.val (.ref sb), .val (.ref bb), .val (.int (6 : Int32)), .val (.int (4 : Int32)), .val (.ref b4)]) rfl kz) ?_
  show EndsK p e below _ (T9.setTop (mkF m 19 #[.val (.ref sb), .val (.ref bb), .val (.int (6 : Int32)), .val (.int (4 : Int32)), .val (.ref b4)] []))
  refine EndsK.go (fun _ kz => XS.aload X9.here hx rfl (hb hby d5_19) rfl rfl kz) ?_
  show EndsK p e below _ (T9.setTop (mkF m 21 #[.val (.ref sb), .val (.ref bb), .val (.int (6 : Int32)), .val (.int (4 : Int32)), .val (.ref b4)] [(.ref b4)]))
  obtain ⟨T10, X10, e10, st10⟩ := getF X9 hx hZ hown (host := "") (Or.inl (hw _ (List.mem_of_getElem? (i := 51) rfl))) Via.refl e9 (Fb4.ext E1) (g := (mkF m 21 #[.val (.ref sb), .val (.ref bb), .val (.int (6 : Int32)), .val (.int (4 : Int32)), .val (.ref b4)] [(.ref b4)])) rfl rfl (hb hby d5_21)
  refine EndsK.go st10 ?_
  show EndsK p e below _ (T10.setTop (mkF m 24 #[.val (.ref sb), .val (.ref bb), .val (.int (6 : Int32)), .val (.int (4 : Int32)), .val (.ref b4)] [(.ref s4)]))
  refine EndsK.go (fun _ kz => XS.aloadN X10.here hx rfl (hb hby d5_24) rfl rfl kz) ?_
  show EndsK p e below _ (T10.setTop (mkF m 25 #[.val (.ref sb), .val (.ref bb), .val (.int (6 : Int32)), .val (.int (4 : Int32)), .val (.ref b4)] [(.ref sb), (.ref s4)]))
  obtain ⟨cq11, kq11, qa11, qb11, qc11⟩ := isOf hZ e10 (Es4.ext E1)
  obtain ⟨_, _, ⟨T11, L11, k11, n11⟩, -, X11, ⟨Lc11, hQ11, l11, y11, z11⟩, st11⟩ := X10.virtualBack hx (y := (⟨"java/lang/String", "equals", "(Ljava/lang/Object;)Z"⟩ : MethodName)) (z := (⟨"java/lang/String", "equals", "(Ljava/lang/Object;)Z"⟩ : MethodName)) hown (mvT hZ (hw _ (List.mem_of_getElem? (i := 53) rfl))) (mvT hZ (hw _ (List.mem_of_getElem? (i := 54) rfl))) (notFace_of_selects (args := #[]) (mvT hZ (hw _ (List.mem_of_getElem? (i := 56) rfl)))) (mvT hZ (hw _ (List.mem_of_getElem? (i := 56) rfl))) (mvT hZ (hw _ (List.mem_of_getElem? (i := 55) rfl))) (by decide) (backOf (W := 0) (rm_seq13 l Z a0 hw [] s4 sb v4 vb c4 cb zc  h1 n0 Z1 (Es4.ext E1) (Fc4.ext E1) (Fv4.ext E1) hne4 (Et.ext E1) (Ftc.ext E1) (Ftv.ext E1) (SC.ext E1) hzc (Av4.ext E1) (Ab.ext E1) zv4 zb ) hZ (hw _ (List.mem_of_getElem? (i := 57) rfl)) (hw _ (List.mem_of_getElem? (i := 7) rfl)) (by decide) (by decide)) qa11 qc11 (g := (mkF m 25 #[.val (.ref sb), .val (.ref bb), .val (.int (6 : Int32)), .val (.int (4 : Int32)), .val (.ref b4)] [(.ref sb), (.ref s4)])) rfl (by rw [hml]; rfl) (Steps.refl _) (argsL := [(.ref sb)]) (rest := []) (lenOf pd2 rfl) rfl (by show 2 * 0 + _ ≤ _; exact Nat.le_of_eq rfl) (hb hby d5_25) (fun _ _ => ⟨rfl, e10, (by decide : 0 + 1 + 0 + 0 + 0 + 0 + 0 ≤ _), (by decide : 0 + 6 + 0 + 0 + 0 + 0 + 0 ≤ _)⟩)
  dsimp only [Pt.U, Pt.locs, Pt.cells, Pt.slots] at X11 l11 y11 z11 st11 hQ11
  subst l11 y11 z11
  obtain ⟨rfl, N11, e11⟩ := hQ11
  have M11 := Fr.app M9 N11
  refine EndsK.tr st11 ?_
  show EndsK p e below _ (T11.setTop (mkF m 28 #[.val (.ref sb), .val (.ref bb), .val (.int (6 : Int32)), .val (.int (4 : Int32)), .val (.ref b4)] [(.int (0 : Int32))]))
  refine EndsK.go (fun _ kz => XS.ifYes X11.here hx rfl (pc0 := 28) (pc' := 34) rfl (hb hby d5_28) rfl ((if0 _ _).trans (teq (rfl : (0 : Int32) = (0 : Int32))).1) (by decide) (by decide) kz) ?_
  show EndsK p e below _ (T11.setTop (mkF m 34 #[.val (.ref sb), .val (.ref bb), .val (.int (6 : Int32)), .val (.int (4 : Int32)), .val (.ref b4)] []))
  refine EndsK.go (fun _ kz => XS.iinc X11.here hx rfl (hb hby d5_34) rfl (l' := #[.val (.ref sb), .val (.ref bb), .val (.int (6 : Int32)), .val (.int (5 : Int32)), .val (.ref b4)]) rfl kz) ?_
  show EndsK p e below _ (T11.setTop (mkF m 37 #[.val (.ref sb), .val (.ref bb), .val (.int (6 : Int32)), .val (.int (5 : Int32)), .val (.ref b4)] []))
  refine EndsK.go (fun _ kz => XS.goto X11.here hx rfl (pc0 := 37) (pc' := 9) rfl (hb hby d5_37) (by decide) (by decide) kz) ?_
  show EndsK p e below _ (T11.setTop (mkF m 9 #[.val (.ref sb), .val (.ref bb), .val (.int (6 : Int32)), .val (.int (5 : Int32)), .val (.ref b4)] []))
  refine EndsK.go (fun _ kz => XS.iloadN X11.here hx rfl (hb hby d5_9) rfl kz) ?_
  show EndsK p e below _ (T11.setTop (mkF m 10 #[.val (.ref sb), .val (.ref bb), .val (.int (6 : Int32)), .val (.int (5 : Int32)), .val (.ref b4)] [(.int (5 : Int32))]))
  refine EndsK.go (fun _ kz => XS.iloadN X11.here hx rfl (hb hby d5_10) rfl kz) ?_
  show EndsK p e below _ (T11.setTop (mkF m 11 #[.val (.ref sb), .val (.ref bb), .val (.int (6 : Int32)), .val (.int (5 : Int32)), .val (.ref b4)] [(.int (6 : Int32)), (.int (5 : Int32))]))
  refine EndsK.go (fun _ kz => XS.icmpNo X11.here hx rfl (hb hby d5_11) rfl (tlt (by decide : (5 : Int32) < (6 : Int32))).2.1 kz) ?_
  show EndsK p e below _ (T11.setTop (mkF m 14 #[.val (.ref sb), .val (.ref bb), .val (.int (6 : Int32)), .val (.int (5 : Int32)), .val (.ref b4)] []))
  refine EndsK.go (fun _ kz => XS.aloadN X11.here hx rfl (hb hby d5_14) rfl rfl kz) ?_
  show EndsK p e below _ (T11.setTop (mkF m 15 #[.val (.ref sb), .val (.ref bb), .val (.int (6 : Int32)), .val (.int (5 : Int32)), .val (.ref b4)] [(.ref bb)]))
  refine EndsK.go (fun _ kz => XS.iloadN X11.here hx rfl (hb hby d5_15) rfl kz) ?_
  show EndsK p e below _ (T11.setTop (mkF m 16 #[.val (.ref sb), .val (.ref bb), .val (.int (6 : Int32)), .val (.int (5 : Int32)), .val (.ref b4)] [(.int (5 : Int32)), (.ref bb)]))
  refine EndsK.go (fun tz kz => X11.aaload hx (j := (5 : Int32)) (v := (.ref b5)) (by rw [e11]; exact A1.1) (State.isArrayOf_alike hZ.alike A1.2.1) rfl A1.2.2 w5.1 w5.2 (g := (mkF m 16 #[.val (.ref sb), .val (.ref bb), .val (.int (6 : Int32)), .val (.int (5 : Int32)), .val (.ref b4)] [(.int (5 : Int32)), (.ref bb)])) rfl rfl (hb hby d5_16) tz kz) ?_
  show EndsK p e below _ (T11.setTop (mkF m 17 #[.val (.ref sb), .val (.ref bb), .val (.int (6 : Int32)), .val (.int (5 : Int32)), .val (.ref b4)] [(.ref b5)]))
  refine EndsK.go (fun _ kz => XS.astore X11.here hx rfl (hb hby d5_17) rfl rfl (l' := #[.val (.ref sb), .val (.ref bb), .val (.int (6 : Int32)), .val (.int (5 : Int32)), .val (.ref b5)]) rfl kz) ?_
  show EndsK p e below _ (T11.setTop (mkF m 19 #[.val (.ref sb), .val (.ref bb), .val (.int (6 : Int32)), .val (.int (5 : Int32)), .val (.ref b5)] []))
  refine EndsK.go (fun _ kz => XS.aload X11.here hx rfl (hb hby d5_19) rfl rfl kz) ?_
  show EndsK p e below _ (T11.setTop (mkF m 21 #[.val (.ref sb), .val (.ref bb), .val (.int (6 : Int32)), .val (.int (5 : Int32)), .val (.ref b5)] [(.ref b5)]))
  obtain ⟨T12, X12, e12, st12⟩ := getF X11 hx hZ hown (host := "") (Or.inl (hw _ (List.mem_of_getElem? (i := 51) rfl))) Via.refl e11 (Fb5.ext E1) (g := (mkF m 21 #[.val (.ref sb), .val (.ref bb), .val (.int (6 : Int32)), .val (.int (5 : Int32)), .val (.ref b5)] [(.ref b5)])) rfl rfl (hb hby d5_21)
  refine EndsK.go st12 ?_
  show EndsK p e below _ (T12.setTop (mkF m 24 #[.val (.ref sb), .val (.ref bb), .val (.int (6 : Int32)), .val (.int (5 : Int32)), .val (.ref b5)] [(.ref s5)]))
  refine EndsK.go (fun _ kz => XS.aloadN X12.here hx rfl (hb hby d5_24) rfl rfl kz) ?_
  show EndsK p e below _ (T12.setTop (mkF m 25 #[.val (.ref sb), .val (.ref bb), .val (.int (6 : Int32)), .val (.int (5 : Int32)), .val (.ref b5)] [(.ref sb), (.ref s5)]))
  obtain ⟨cq13, kq13, qa13, qb13, qc13⟩ := isOf hZ e12 (Es5.ext E1)
  obtain ⟨_, _, ⟨T13, L13, k13, n13⟩, -, X13, ⟨Lc13, hQ13, l13, y13, z13⟩, st13⟩ := X12.virtualBack hx (y := (⟨"java/lang/String", "equals", "(Ljava/lang/Object;)Z"⟩ : MethodName)) (z := (⟨"java/lang/String", "equals", "(Ljava/lang/Object;)Z"⟩ : MethodName)) hown (mvT hZ (hw _ (List.mem_of_getElem? (i := 53) rfl))) (mvT hZ (hw _ (List.mem_of_getElem? (i := 54) rfl))) (notFace_of_selects (args := #[]) (mvT hZ (hw _ (List.mem_of_getElem? (i := 56) rfl)))) (mvT hZ (hw _ (List.mem_of_getElem? (i := 56) rfl))) (mvT hZ (hw _ (List.mem_of_getElem? (i := 55) rfl))) (by decide) (backOf (W := 0) (rm_seq23 l Z a0 hw [] s5 sb v5 vb c5 cb zc  h1 n0 Z1 (Es5.ext E1) (Fc5.ext E1) (Fv5.ext E1) hne5 (Et.ext E1) (Ftc.ext E1) (Ftv.ext E1) (SC.ext E1) hzc (Av5.ext E1) (Ab.ext E1) zv5 zb ) hZ (hw _ (List.mem_of_getElem? (i := 57) rfl)) (hw _ (List.mem_of_getElem? (i := 7) rfl)) (by decide) (by decide)) qa13 qc13 (g := (mkF m 25 #[.val (.ref sb), .val (.ref bb), .val (.int (6 : Int32)), .val (.int (5 : Int32)), .val (.ref b5)] [(.ref sb), (.ref s5)])) rfl (by rw [hml]; rfl) (Steps.refl _) (argsL := [(.ref sb)]) (rest := []) (lenOf pd2 rfl) rfl (by show 2 * 0 + _ ≤ _; exact Nat.le_of_eq rfl) (hb hby d5_25) (fun _ _ => ⟨rfl, e12, (by decide : 0 + 1 + 0 + 0 + 0 + 0 + 0 + 0 ≤ _), (by decide : 0 + 6 + 0 + 0 + 0 + 0 + 0 + 0 ≤ _)⟩)
  dsimp only [Pt.U, Pt.locs, Pt.cells, Pt.slots] at X13 l13 y13 z13 st13 hQ13
  subst l13 y13 z13
  obtain ⟨rfl, N13, e13⟩ := hQ13
  have M13 := Fr.app M11 N13
  refine EndsK.tr st13 ?_
  show EndsK p e below _ (T13.setTop (mkF m 28 #[.val (.ref sb), .val (.ref bb), .val (.int (6 : Int32)), .val (.int (5 : Int32)), .val (.ref b5)] [(.int (0 : Int32))]))
  refine EndsK.go (fun _ kz => XS.ifYes X13.here hx rfl (pc0 := 28) (pc' := 34) rfl (hb hby d5_28) rfl ((if0 _ _).trans (teq (rfl : (0 : Int32) = (0 : Int32))).1) (by decide) (by decide) kz) ?_
  show EndsK p e below _ (T13.setTop (mkF m 34 #[.val (.ref sb), .val (.ref bb), .val (.int (6 : Int32)), .val (.int (5 : Int32)), .val (.ref b5)] []))
  refine EndsK.go (fun _ kz => XS.iinc X13.here hx rfl (hb hby d5_34) rfl (l' := #[.val (.ref sb), .val (.ref bb), .val (.int (6 : Int32)), .val (.int (6 : Int32)), .val (.ref b5)]) rfl kz) ?_
  show EndsK p e below _ (T13.setTop (mkF m 37 #[.val (.ref sb), .val (.ref bb), .val (.int (6 : Int32)), .val (.int (6 : Int32)), .val (.ref b5)] []))
  refine EndsK.go (fun _ kz => XS.goto X13.here hx rfl (pc0 := 37) (pc' := 9) rfl (hb hby d5_37) (by decide) (by decide) kz) ?_
  show EndsK p e below _ (T13.setTop (mkF m 9 #[.val (.ref sb), .val (.ref bb), .val (.int (6 : Int32)), .val (.int (6 : Int32)), .val (.ref b5)] []))
  refine EndsK.go (fun _ kz => XS.iloadN X13.here hx rfl (hb hby d5_9) rfl kz) ?_
  show EndsK p e below _ (T13.setTop (mkF m 10 #[.val (.ref sb), .val (.ref bb), .val (.int (6 : Int32)), .val (.int (6 : Int32)), .val (.ref b5)] [(.int (6 : Int32))]))
  refine EndsK.go (fun _ kz => XS.iloadN X13.here hx rfl (hb hby d5_10) rfl kz) ?_
  show EndsK p e below _ (T13.setTop (mkF m 11 #[.val (.ref sb), .val (.ref bb), .val (.int (6 : Int32)), .val (.int (6 : Int32)), .val (.ref b5)] [(.int (6 : Int32)), (.int (6 : Int32))]))
  refine EndsK.go (fun _ kz => XS.icmpYes X13.here hx rfl (pc0 := 11) (pc' := 40) rfl (hb hby d5_11) rfl (flt (by decide : ¬ ((6 : Int32) < (6 : Int32)))).2.1 (by decide) (by decide) kz) ?_
  show EndsK p e below _ (T13.setTop (mkF m 40 #[.val (.ref sb), .val (.ref bb), .val (.int (6 : Int32)), .val (.int (6 : Int32)), .val (.ref b5)] []))
  refine EndsK.go (fun _ kz => XS.aconstNull X13.here hx rfl (hb hby d5_40) kz) ?_
  show EndsK p e below _ (T13.setTop (mkF m 41 #[.val (.ref sb), .val (.ref bb), .val (.int (6 : Int32)), .val (.int (6 : Int32)), .val (.ref b5)] [.null]))
  exact endR X13 hx Bd.returns rfl rfl (hb hby d5_41) hlk ⟨(congrArg some (by simp [ofL] : ofL [((0 : Int32), .ref b0), ((0 : Int32), .ref b1), ((0 : Int32), .ref b2), ((0 : Int32), .ref b3), ((0 : Int32), .ref b4), ((0 : Int32), .ref b5)] = .null)).symm, M13, by rw [e13]; exact E1⟩ (by decide) (by decide)
abbrev EL1 : List (String × Nat) := [("java/lang/String", 7)]
theorem d3_0 : decode jdk_42_method_149_code 0 = .ok (.aload_n 0, 1) := by decide +kernel
theorem d3_1 : decode jdk_42_method_149_code 1 = .ok (.invokespecial 1, 3) := by decide +kernel
theorem d3_4 : decode jdk_42_method_149_code 4 = .ok (.iload_n 3, 1) := by decide +kernel
theorem d3_5 : decode jdk_42_method_149_code 5 = .ok (.ifCond .ne 22, 3) := by decide +kernel
theorem d3_8 : decode jdk_42_method_149_code 8 = .ok (.aload_n 0, 1) := by decide +kernel
theorem d3_9 : decode jdk_42_method_149_code 9 = .ok (.ldc 7, 2) := by decide +kernel
theorem d3_11 : decode jdk_42_method_149_code 11 = .ok (.getfield 9, 3) := by decide +kernel
theorem d3_14 : decode jdk_42_method_149_code 14 = .ok (.putfield 9, 3) := by decide +kernel
theorem d3_17 : decode jdk_42_method_149_code 17 = .ok (.aload_n 0, 1) := by decide +kernel
theorem d3_18 : decode jdk_42_method_149_code 18 = .ok (.ldc 7, 2) := by decide +kernel
theorem d3_20 : decode jdk_42_method_149_code 20 = .ok (.getfield 15, 3) := by decide +kernel
theorem d3_23 : decode jdk_42_method_149_code 23 = .ok (.putfield 15, 3) := by decide +kernel
theorem d3_26 : decode jdk_42_method_149_code 26 = .ok (.return_, 1) := by decide +kernel
theorem d3_27 : decode jdk_42_method_149_code 27 = .ok (.getstatic 38, 3) := by decide +kernel
theorem d3_30 : decode jdk_42_method_149_code 30 = .ok (.ifCond .eq 28, 3) := by decide +kernel
theorem d3_33 : decode jdk_42_method_149_code 33 = .ok (.aload_n 1, 1) := by decide +kernel
theorem d3_34 : decode jdk_42_method_149_code 34 = .ok (.iload_n 2, 1) := by decide +kernel
theorem d3_35 : decode jdk_42_method_149_code 35 = .ok (.iload_n 3, 1) := by decide +kernel
theorem d3_36 : decode jdk_42_method_149_code 36 = .ok (.invokestatic 177, 3) := by decide +kernel
theorem d3_39 : decode jdk_42_method_149_code 39 = .ok (.astore 5, 2) := by decide +kernel
theorem d3_41 : decode jdk_42_method_149_code 41 = .ok (.aload_n 0, 1) := by decide +kernel
theorem d3_42 : decode jdk_42_method_149_code 42 = .ok (.aload 5, 2) := by decide +kernel
theorem d3_44 : decode jdk_42_method_149_code 44 = .ok (.iload_n 3, 1) := by decide +kernel
theorem d3_45 : decode jdk_42_method_149_code 45 = .ok (.invokestatic 47, 3) := by decide +kernel
theorem d3_48 : decode jdk_42_method_149_code 48 = .ok (.putfield 15, 3) := by decide +kernel
theorem d3_51 : decode jdk_42_method_149_code 51 = .ok (.aload_n 0, 1) := by decide +kernel
theorem d3_52 : decode jdk_42_method_149_code 52 = .ok (.aload 5, 2) := by decide +kernel
theorem d3_54 : decode jdk_42_method_149_code 54 = .ok (.putfield 9, 3) := by decide +kernel
theorem d3_57 : decode jdk_42_method_149_code 57 = .ok (.return_, 1) := by decide +kernel
theorem d3_58 : decode jdk_42_method_149_code 58 = .ok (.aload_n 0, 1) := by decide +kernel
theorem d3_59 : decode jdk_42_method_149_code 59 = .ok (.iconst 1, 1) := by decide +kernel
theorem d3_60 : decode jdk_42_method_149_code 60 = .ok (.putfield 15, 3) := by decide +kernel
theorem d3_63 : decode jdk_42_method_149_code 63 = .ok (.aload_n 0, 1) := by decide +kernel
theorem d3_64 : decode jdk_42_method_149_code 64 = .ok (.aload_n 1, 1) := by decide +kernel
theorem d3_65 : decode jdk_42_method_149_code 65 = .ok (.iload_n 2, 1) := by decide +kernel
theorem d3_66 : decode jdk_42_method_149_code 66 = .ok (.iload_n 3, 1) := by decide +kernel
theorem d3_67 : decode jdk_42_method_149_code 67 = .ok (.invokestatic 180, 3) := by decide +kernel
theorem d3_70 : decode jdk_42_method_149_code 70 = .ok (.putfield 9, 3) := by decide +kernel
theorem d3_73 : decode jdk_42_method_149_code 73 = .ok (.return_, 1) := by decide +kernel
theorem ef_i0 (m : MethodId) (x : Addr) (ca : Addr) (v0 : Value) (c0 : Value) : entryFrame m #[(.ref x), (.ref ca), (.int (0 : Int32)), (.int (0 : Int32)), .null] 6 = mkF m 0 #[.val (.ref x), .val (.ref ca), .val (.int (0 : Int32)), .val (.int (0 : Int32)), .val .null, .unset] [] := by first | (simp [entryFrame, mkF, argsToLocals, Value.category]; done) | rfl
def Q_i0 (Z : State) (x : Addr) (ca : Addr) (v0 : Value) (c0 : Value) (h0 : Heap) (n0 : Nat) (vz : Option Value) (hz : Heap) (Lz : List Loc) : Prop := vz = none ∧ Fr n0 Lz ∧ Keep h0 hz [x] ∧ Exa Z hz x "java/lang/String" ∧ Fld Z hz x "java/lang/String" "coder" "B" (.int (0 : Int32)) ∧ ∃ (b : Addr) (k : ClassId), Fld Z hz x "java/lang/String" "value" "[B" (.ref b) ∧ Arv Z hz b k .byte (0 : Int32) [] (.int 0)
set_option maxRecDepth 65536 in
set_option maxHeartbeats 40000000 in
theorem rm_i0 (l : Launch) (Z : State) (a0 : Array Value) (hw : ∀ d ∈ tables_1, d.before a0 Z = true) (ws : List Jvm.Cond) (x : Addr) (ca : Addr) (v0 : Value) (c0 : Value) (h0 : Heap) (n0 : Nat) (Z0 : n0 ≤ h0.size) (hx0 : n0 ≤ x) (E0 : Exa Z h0 x "java/lang/String") (F0 : Fld Z h0 x "java/lang/String" "value" "[B" v0) (C0 : Fld Z h0 x "java/lang/String" "coder" "B" c0) :
    MetFree l (⟨"java/lang/String", "<init>", "([CIILjava/lang/Void;)V"⟩ : MethodName) (head1 (Jvm.Cond.code (⟨"java/lang/String", "<init>", "([CIILjava/lang/Void;)V"⟩ : MethodName) jdk_42_method_149_code 6 none :: ws) ({ frames := 1, cells := 4, slots := 8, locals := 20 } : Room)) (fun az Uz => az = #[(.ref x), (.ref ca), (.int (0 : Int32)), (.int (0 : Int32)), .null] ∧ Z.Warmed39 Uz.vm ∧ Uz.heap = h0 ∧ CHv Z EL1 Uz.vm h0 ∧ Safe Z EL1 Uz.vm h0 x) (fun _ _ _ _ _ => True) (fun _ Uz oz Ut => ∃ vz Lz, oz = .returned vz ∧ Q_i0 Z x ca v0 c0 h0 n0 vz Ut.heap Lz ∧ ReturnedEndW Uz oz Ut Lz (({ frames := 1, cells := 4, slots := 8, locals := 20 } : Room)).cells (({ frames := 1, cells := 4, slots := 8, locals := 20 } : Room)).slots) := by
  refine MetFree.of_bodySF (plainFor_of_name pn2) hisR ?_
  intro p e s m args below meth c s₁ Bd hml0 hP hK
  obtain ⟨rfl, hZ, hh, hCH, hSf⟩ := hP
  have hx := Bd.exec
  have hby := Bd.bytes
  have hml : c.maxLocals = 6 := hml0
  have hown : s.vm.findClass "java/lang/String" = some m.cls := findClass_of_methodNamed Bd.named
  have hnm := (name_of_methodNamed Bd.named Bd.method).1
  have hlk : meth.locks = false := Bd.notSynchronized
  have X0 : Stand p l e ({ frames := 1, cells := 4, slots := 8, locals := 20 } : Room) s m #[(.ref x), (.ref ca), (.int (0 : Int32)), (.int (0 : Int32)), .null] below meth c s₁ [] 0 0 := Stand.of_body Bd
  have e0 : s₁.heap = h0 := by rw [← hh, Bd.state]; rfl
  have N0 := Fr.nil n0
  show EndsK p e below (OW s (Q_i0 Z x ca v0 c0 h0 n0) (({ frames := 1, cells := 4, slots := 8, locals := 20 } : Room)).cells (({ frames := 1, cells := 4, slots := 8, locals := 20 } : Room)).slots) (s₁.setTop (entryFrame m #[(.ref x), (.ref ca), (.int (0 : Int32)), (.int (0 : Int32)), .null] 6))
  refine EndsK.start (ef_i0 m x ca v0 c0) ?_
  have hEL : EW Z a0 EL1 := EW.cons (text := "") (hw _ (List.mem_of_getElem? (i := 18) rfl)) (by decide) EW.nil
  have wS : ∀ a ∈ Bundle.stringAtoms, a.before a0 Z = true := fun d hd => hw d ((by decide +kernel : ∀ d ∈ Bundle.stringAtoms, d ∈ tables_1) d hd)
  have hS := since0 s
  have hk : 0 ≤ h0.size := Nat.zero_le _
  have hlt : x < h0.size := E0.lt
  have K0 : Keep h0 h0 [x] := Keep.refl h0 [x]
  show EndsK p e below _ (s₁.setTop (mkF m 0 #[.val (.ref x), .val (.ref ca), .val (.int (0 : Int32)), .val (.int (0 : Int32)), .val .null, .unset] []))
  refine EndsK.go (fun _ kz => XS.aloadN X0.here hx rfl (hb hby d3_0) rfl rfl kz) ?_
  show EndsK p e below _ (s₁.setTop (mkF m 1 #[.val (.ref x), .val (.ref ca), .val (.int (0 : Int32)), .val (.int (0 : Int32)), .val .null, .unset] [(.ref x)]))
  obtain ⟨T1, X1, e1, st1⟩ := initO X0 hx hZ hown (hw _ (List.mem_of_getElem? (i := 15) rfl)) (hw _ (List.mem_of_getElem? (i := 16) rfl)) (hw _ (List.mem_of_getElem? (i := 17) rfl)) e0 (g := (mkF m 1 #[.val (.ref x), .val (.ref ca), .val (.int (0 : Int32)), .val (.int (0 : Int32)), .val .null, .unset] [(.ref x)])) rfl (by rw [hml]; rfl) rfl (hb hby d3_1) (by decide) (W := 0) (by show 2 * 0 + _ ≤ _; exact Nat.le_of_eq rfl) (by decide)
  refine EndsK.go st1 ?_
  show EndsK p e below _ (T1.setTop (mkF m 4 #[.val (.ref x), .val (.ref ca), .val (.int (0 : Int32)), .val (.int (0 : Int32)), .val .null, .unset] []))
  refine EndsK.go (fun _ kz => XS.iloadN X1.here hx rfl (hb hby d3_4) rfl kz) ?_
  show EndsK p e below _ (T1.setTop (mkF m 5 #[.val (.ref x), .val (.ref ca), .val (.int (0 : Int32)), .val (.int (0 : Int32)), .val .null, .unset] [(.int (0 : Int32))]))
  refine EndsK.go (fun _ kz => XS.ifNo X1.here hx rfl (hb hby d3_5) rfl ((if0 _ _).trans (teq (rfl : (0 : Int32) = (0 : Int32))).2) kz) ?_
  show EndsK p e below _ (T1.setTop (mkF m 8 #[.val (.ref x), .val (.ref ca), .val (.int (0 : Int32)), .val (.int (0 : Int32)), .val .null, .unset] []))
  refine EndsK.go (fun _ kz => XS.aloadN X1.here hx rfl (hb hby d3_8) rfl rfl kz) ?_
  show EndsK p e below _ (T1.setTop (mkF m 9 #[.val (.ref x), .val (.ref ca), .val (.int (0 : Int32)), .val (.int (0 : Int32)), .val .null, .unset] [(.ref x)]))
  obtain ⟨a2, T2, h2, nn2, b2, kb2, X2, e2, E2, hS, hk, hZ, hown, Ea2, Fc2, Fv2, Av2, -, -, Cr2, -, ne2, st2⟩ := ldcCH (s := s) (vm0 := s.vm) X1 hx hZ hown (hw _ (List.mem_of_getElem? (i := 18) rfl)) wS e1 hS hk hEL (List.mem_singleton.mpr rfl) hCH (vs := []) (z := 0) ⟨by decide, by decide⟩ (by decide) rfl (g := (mkF m 9 #[.val (.ref x), .val (.ref ca), .val (.int (0 : Int32)), .val (.int (0 : Int32)), .val .null, .unset] [(.ref x)])) rfl (hb hby d3_9) (n := 0) (by decide) (by decide) (by decide) (by decide)
  refine EndsK.go st2 ?_
  have E2_x := E0.ext E2
  have F2_value_x := F0.ext E2
  have F2_coder_x := C0.ext E2
  have hSf := Cr2.safe hlt hSf
  have hCH := Cr2.1
  have hlt := Nat.lt_of_lt_of_le hlt E2.1
  have Z2 : n0 ≤ h2.size := Nat.le_trans Z0 E2.1
  have K2 := K0.ext E2
  have nex2 := ne2 x hSf
  show EndsK p e below _ (T2.setTop (mkF m 11 #[.val (.ref x), .val (.ref ca), .val (.int (0 : Int32)), .val (.int (0 : Int32)), .val .null, .unset] [(.ref a2), (.ref x)]))
  obtain ⟨T3, X3, e3, st3⟩ := getF X2 hx hZ hown (host := "") (Or.inl (hw _ (List.mem_of_getElem? (i := 24) rfl))) Via.refl e2 Fv2 (g := (mkF m 11 #[.val (.ref x), .val (.ref ca), .val (.int (0 : Int32)), .val (.int (0 : Int32)), .val .null, .unset] [(.ref a2), (.ref x)])) rfl rfl (hb hby d3_11)
  refine EndsK.go st3 ?_
  show EndsK p e below _ (T3.setTop (mkF m 14 #[.val (.ref x), .val (.ref ca), .val (.int (0 : Int32)), .val (.int (0 : Int32)), .val .null, .unset] [(.ref b2), (.ref x)]))
  obtain ⟨T4, h4, X4, e4, W4, st4⟩ := putF X3 hx hZ hown (host := "") (Or.inl (hw _ (List.mem_of_getElem? (i := 24) rfl))) Via.refl e3 F2_value_x E2_x (Or.inr ⟨(hw _ (List.mem_of_getElem? (i := 20) rfl)), rfl, hnm⟩) (hw _ (List.mem_of_getElem? (i := 6) rfl)) (ty := (.array .byte)) (by decide) rfl rfl (g := (mkF m 14 #[.val (.ref x), .val (.ref ca), .val (.int (0 : Int32)), .val (.int (0 : Int32)), .val .null, .unset] [(.ref b2), (.ref x)])) rfl rfl (hb hby d3_14)
  refine EndsK.go st4 ?_
  have N4 := Fr.snoc X4 N0 hx0
  have E4_x := E2_x.wr W4
  have F4_value := F2_value_x.same W4
  have F4_coder_x := F2_coder_x.other W4 (Or.inr (slot_ne (Or.inr (hw _ (List.mem_of_getElem? (i := 21) rfl))) (Or.inr (hw _ (List.mem_of_getElem? (i := 20) rfl))) (by decide) (t := .byte) (t' := (.array .byte)) (by decide) (by decide)))
  have E4_a2 := Ea2.wr W4
  have F4_value_a2 := Fv2.other W4 (Or.inl (Ne.symm nex2.1))
  have F4_coder_a2 := Fc2.other W4 (Or.inl (Ne.symm nex2.1))
  have V4_b2 := Av2.other W4 (Ne.symm nex2.2)
  have Z4 : n0 ≤ h4.size := Nat.le_trans Z2 (Nat.le_of_eq W4.size.symm)
  have K4 := K2.wr W4 (Or.inl (List.mem_singleton.mpr rfl))
  show EndsK p e below _ (T4.setTop (mkF m 17 #[.val (.ref x), .val (.ref ca), .val (.int (0 : Int32)), .val (.int (0 : Int32)), .val .null, .unset] []))
  have hSf' := Safe.wr W4 hSf hCH hSf
  have hCH := CHv.wr W4 hSf hCH
  have hSf := hSf'
  have hlt : x < h4.size := Nat.lt_of_lt_of_le hlt (Nat.le_of_eq W4.size.symm)
  have hk : _ ≤ h4.size := Nat.le_trans hk (Nat.le_of_eq W4.size.symm)
  refine EndsK.go (fun _ kz => XS.aloadN X4.here hx rfl (hb hby d3_17) rfl rfl kz) ?_
  show EndsK p e below _ (T4.setTop (mkF m 18 #[.val (.ref x), .val (.ref ca), .val (.int (0 : Int32)), .val (.int (0 : Int32)), .val .null, .unset] [(.ref x)]))
  obtain ⟨a5, T5, h5, nn5, b5, kb5, X5, e5, E5, hS, hk, hZ, hown, Ea5, Fc5, Fv5, Av5, -, -, Cr5, -, ne5, st5⟩ := ldcCH (s := s) X4 hx hZ hown (hw _ (List.mem_of_getElem? (i := 18) rfl)) wS e4 hS hk hEL (List.mem_singleton.mpr rfl) hCH (vs := []) (z := 0) ⟨by decide, by decide⟩ (by decide) rfl (g := (mkF m 18 #[.val (.ref x), .val (.ref ca), .val (.int (0 : Int32)), .val (.int (0 : Int32)), .val .null, .unset] [(.ref x)])) rfl (hb hby d3_18) (n := 0) (by decide) (by decide) (by decide) (by decide)
  refine EndsK.go st5 ?_
  have E5_x := E4_x.ext E5
  have F5_value_x := F4_value.ext E5
  have F5_coder_x := F4_coder_x.ext E5
  have V5_b2 := V4_b2.ext E5
  have hSf := Cr5.safe hlt hSf
  have hCH := Cr5.1
  have hlt := Nat.lt_of_lt_of_le hlt E5.1
  have Z5 : n0 ≤ h5.size := Nat.le_trans Z4 E5.1
  have K5 := K4.ext E5
  have nex5 := ne5 x hSf
  show EndsK p e below _ (T5.setTop (mkF m 20 #[.val (.ref x), .val (.ref ca), .val (.int (0 : Int32)), .val (.int (0 : Int32)), .val .null, .unset] [(.ref a5), (.ref x)]))
  obtain ⟨T6, X6, e6, st6⟩ := getF X5 hx hZ hown (host := "") (Or.inl (hw _ (List.mem_of_getElem? (i := 25) rfl))) Via.refl e5 Fc5 (g := (mkF m 20 #[.val (.ref x), .val (.ref ca), .val (.int (0 : Int32)), .val (.int (0 : Int32)), .val .null, .unset] [(.ref a5), (.ref x)])) rfl rfl (hb hby d3_20)
  refine EndsK.go st6 ?_
  show EndsK p e below _ (T6.setTop (mkF m 23 #[.val (.ref x), .val (.ref ca), .val (.int (0 : Int32)), .val (.int (0 : Int32)), .val .null, .unset] [(.int (0 : Int32)), (.ref x)]))
  obtain ⟨T7, h7, X7, e7, W7, st7⟩ := putF X6 hx hZ hown (host := "") (Or.inl (hw _ (List.mem_of_getElem? (i := 25) rfl))) Via.refl e6 F5_coder_x E5_x (Or.inr ⟨(hw _ (List.mem_of_getElem? (i := 21) rfl)), rfl, hnm⟩) (hw _ (List.mem_of_getElem? (i := 6) rfl)) (ty := .byte) (by decide) rfl rfl (g := (mkF m 23 #[.val (.ref x), .val (.ref ca), .val (.int (0 : Int32)), .val (.int (0 : Int32)), .val .null, .unset] [(.int (0 : Int32)), (.ref x)])) rfl rfl (hb hby d3_23)
  refine EndsK.go st7 ?_
  have N7 := Fr.snoc X7 N4 hx0
  have E7_x := E5_x.wr W7
  have F7_value_x := F5_value_x.other W7 (Or.inr (slot_ne (Or.inr (hw _ (List.mem_of_getElem? (i := 20) rfl))) (Or.inr (hw _ (List.mem_of_getElem? (i := 21) rfl))) (by decide) (t := (.array .byte)) (t' := .byte) (by decide) (by decide)))
  have F7_coder := F5_coder_x.same W7
  have V7_b2 := V5_b2.other W7 (Ne.symm nex2.2)
  have E7_a5 := Ea5.wr W7
  have F7_value_a5 := Fv5.other W7 (Or.inl (Ne.symm nex5.1))
  have F7_coder_a5 := Fc5.other W7 (Or.inl (Ne.symm nex5.1))
  have Z7 : n0 ≤ h7.size := Nat.le_trans Z5 (Nat.le_of_eq W7.size.symm)
  have K7 := K5.wr W7 (Or.inl (List.mem_singleton.mpr rfl))
  show EndsK p e below _ (T7.setTop (mkF m 26 #[.val (.ref x), .val (.ref ca), .val (.int (0 : Int32)), .val (.int (0 : Int32)), .val .null, .unset] []))
  have hk : _ ≤ h7.size := Nat.le_trans hk (Nat.le_of_eq W7.size.symm)
  exact endVW X7 hS (by rw [e7]; exact hk) hx Bd.returns (hb hby d3_26) hlk ⟨rfl, N7, by rw [e7]; exact K7, by rw [e7]; exact E7_x, by rw [e7]; exact F7_coder, b2, kb2, by rw [e7]; exact F7_value_x, by rw [e7]; exact V7_b2⟩ (by decide) (by decide)
theorem d2_0 : decode jdk_42_method_3_code 0 = .ok (.aload_n 0, 1) := by decide +kernel
theorem d2_1 : decode jdk_42_method_3_code 1 = .ok (.aload_n 1, 1) := by decide +kernel
theorem d2_2 : decode jdk_42_method_3_code 2 = .ok (.iconst 0, 1) := by decide +kernel
theorem d2_3 : decode jdk_42_method_3_code 3 = .ok (.aload_n 1, 1) := by decide +kernel
theorem d2_4 : decode jdk_42_method_3_code 4 = .ok (.arraylength, 1) := by decide +kernel
theorem d2_5 : decode jdk_42_method_3_code 5 = .ok (.aconst_null, 1) := by decide +kernel
theorem d2_6 : decode jdk_42_method_3_code 6 = .ok (.invokespecial 27, 3) := by decide +kernel
theorem d2_9 : decode jdk_42_method_3_code 9 = .ok (.return_, 1) := by decide +kernel
theorem ef_i1 (m : MethodId) (x : Addr) (ca : Addr) (cb : Cell) (v0 : Value) (c0 : Value) : entryFrame m #[(.ref x), (.ref ca)] 2 = mkF m 0 #[.val (.ref x), .val (.ref ca)] [] := by first | (simp [entryFrame, mkF, argsToLocals, Value.category]; done) | rfl
def Q_i1 (Z : State) (x : Addr) (ca : Addr) (cb : Cell) (v0 : Value) (c0 : Value) (h0 : Heap) (n0 : Nat) (vz : Option Value) (hz : Heap) (Lz : List Loc) : Prop := vz = none ∧ Fr n0 Lz ∧ Keep h0 hz [x] ∧ Exa Z hz x "java/lang/String" ∧ Fld Z hz x "java/lang/String" "coder" "B" (.int (0 : Int32)) ∧ ∃ (b : Addr) (k : ClassId), Fld Z hz x "java/lang/String" "value" "[B" (.ref b) ∧ Arv Z hz b k .byte (0 : Int32) [] (.int 0)
theorem pd3 : parseMethodDescriptor "([CIILjava/lang/Void;)V" = some ⟨[(.array .char), .int, .int, (.object "java/lang/Void")], none⟩ := by decide +kernel
set_option maxRecDepth 65536 in
set_option maxHeartbeats 40000000 in
theorem rm_i1 (l : Launch) (Z : State) (a0 : Array Value) (hw : ∀ d ∈ tables_1, d.before a0 Z = true) (ws : List Jvm.Cond) (x : Addr) (ca : Addr) (cb : Cell) (v0 : Value) (c0 : Value) (h0 : Heap) (n0 : Nat) (Z0 : n0 ≤ h0.size) (hx0 : n0 ≤ x) (E0 : Exa Z h0 x "java/lang/String") (F0 : Fld Z h0 x "java/lang/String" "value" "[B" v0) (C0 : Fld Z h0 x "java/lang/String" "coder" "B" c0) (AB : Arr Z h0 ca cb .char) (zb : cb.slots.size.toInt32 = (0 : Int32)) :
    MetFree l (⟨"java/lang/String", "<init>", "([C)V"⟩ : MethodName) (head1 (Jvm.Cond.code (⟨"java/lang/String", "<init>", "([C)V"⟩ : MethodName) jdk_42_method_3_code 2 none :: ws) ({ frames := 2, cells := 4, slots := 8, locals := 45 } : Room)) (fun az Uz => az = #[(.ref x), (.ref ca)] ∧ Z.Warmed39 Uz.vm ∧ Uz.heap = h0 ∧ CHv Z EL1 Uz.vm h0 ∧ Safe Z EL1 Uz.vm h0 x) (fun _ _ _ _ _ => True) (fun _ Uz oz Ut => ∃ vz Lz, oz = .returned vz ∧ Q_i1 Z x ca cb v0 c0 h0 n0 vz Ut.heap Lz ∧ ReturnedEndW Uz oz Ut Lz (({ frames := 2, cells := 4, slots := 8, locals := 45 } : Room)).cells (({ frames := 2, cells := 4, slots := 8, locals := 45 } : Room)).slots) := by
  refine MetFree.of_bodySF (plainFor_of_name pn2) hisR ?_
  intro p e s m args below meth c s₁ Bd hml0 hP hK
  obtain ⟨rfl, hZ, hh, hCH, hSf⟩ := hP
  have hx := Bd.exec
  have hby := Bd.bytes
  have hml : c.maxLocals = 2 := hml0
  have hown : s.vm.findClass "java/lang/String" = some m.cls := findClass_of_methodNamed Bd.named
  have hnm := (name_of_methodNamed Bd.named Bd.method).1
  have hlk : meth.locks = false := Bd.notSynchronized
  have X0 : Stand p l e ({ frames := 2, cells := 4, slots := 8, locals := 45 } : Room) s m #[(.ref x), (.ref ca)] below meth c s₁ [] 0 0 := Stand.of_body Bd
  have e0 : s₁.heap = h0 := by rw [← hh, Bd.state]; rfl
  have N0 := Fr.nil n0
  show EndsK p e below (OW s (Q_i1 Z x ca cb v0 c0 h0 n0) (({ frames := 2, cells := 4, slots := 8, locals := 45 } : Room)).cells (({ frames := 2, cells := 4, slots := 8, locals := 45 } : Room)).slots) (s₁.setTop (entryFrame m #[(.ref x), (.ref ca)] 2))
  refine EndsK.start (ef_i1 m x ca cb v0 c0) ?_
  have hEL : EW Z a0 EL1 := EW.cons (text := "") (hw _ (List.mem_of_getElem? (i := 18) rfl)) (by decide) EW.nil
  have wS : ∀ a ∈ Bundle.stringAtoms, a.before a0 Z = true := fun d hd => hw d ((by decide +kernel : ∀ d ∈ Bundle.stringAtoms, d ∈ tables_1) d hd)
  show EndsK p e below _ (s₁.setTop (mkF m 0 #[.val (.ref x), .val (.ref ca)] []))
  refine EndsK.go (fun _ kz => XS.aloadN X0.here hx rfl (hb hby d2_0) rfl rfl kz) ?_
  show EndsK p e below _ (s₁.setTop (mkF m 1 #[.val (.ref x), .val (.ref ca)] [(.ref x)]))
  refine EndsK.go (fun _ kz => XS.aloadN X0.here hx rfl (hb hby d2_1) rfl rfl kz) ?_
  show EndsK p e below _ (s₁.setTop (mkF m 2 #[.val (.ref x), .val (.ref ca)] [(.ref ca), (.ref x)]))
  refine EndsK.go (fun _ kz => XS.iconst X0.here hx rfl (hb hby d2_2) kz) ?_
  show EndsK p e below _ (s₁.setTop (mkF m 3 #[.val (.ref x), .val (.ref ca)] [(.int (0 : Int32)), (.ref ca), (.ref x)]))
  refine EndsK.go (fun _ kz => XS.aloadN X0.here hx rfl (hb hby d2_3) rfl rfl kz) ?_
  show EndsK p e below _ (s₁.setTop (mkF m 4 #[.val (.ref x), .val (.ref ca)] [(.ref ca), (.int (0 : Int32)), (.ref ca), (.ref x)]))
  refine EndsK.go (fun tz kz => X0.arraylength hx (by rw [e0]; exact AB.1) (State.isArrayOf_alike hZ.alike AB.2.1) (g := (mkF m 4 #[.val (.ref x), .val (.ref ca)] [(.ref ca), (.int (0 : Int32)), (.ref ca), (.ref x)])) rfl rfl (hb hby d2_4) tz kz) ?_
  rw [zb]
  show EndsK p e below _ (s₁.setTop (mkF m 5 #[.val (.ref x), .val (.ref ca)] [(.int (0 : Int32)), (.int (0 : Int32)), (.ref ca), (.ref x)]))
  refine EndsK.go (fun _ kz => XS.aconstNull X0.here hx rfl (hb hby d2_5) kz) ?_
  show EndsK p e below _ (s₁.setTop (mkF m 6 #[.val (.ref x), .val (.ref ca)] [.null, (.int (0 : Int32)), (.int (0 : Int32)), (.ref ca), (.ref x)]))
  obtain ⟨_, _, ⟨T1, L1, k1, n1⟩, -, X1, hS, gr1, ⟨Lc1, hQ1, l1, y1, z1⟩, st1⟩ := X0.specialBackS hx (y := (⟨"java/lang/String", "<init>", "([CIILjava/lang/Void;)V"⟩ : MethodName)) rfl hown (mvT hZ (hw _ (List.mem_of_getElem? (i := 11) rfl))) (mvT hZ (hw _ (List.mem_of_getElem? (i := 12) rfl))) (mvT hZ (hw _ (List.mem_of_getElem? (i := 14) rfl))) (by decide) (backOfK (W := 0) (rm_i0 l Z a0 hw [] x ca v0 c0 h0 n0 Z0 hx0 E0 F0 C0) hZ (hw _ (List.mem_of_getElem? (i := 14) rfl)) (hw _ (List.mem_of_getElem? (i := 7) rfl)) (by decide) (by decide) hEL hCH E0.lt hSf) (g := (mkF m 6 #[.val (.ref x), .val (.ref ca)] [.null, (.int (0 : Int32)), (.int (0 : Int32)), (.ref ca), (.ref x)])) rfl (by rw [hml]; rfl) (Steps.refl _) (a := x) (argsL := [(.ref ca), (.int (0 : Int32)), (.int (0 : Int32)), .null]) (rest := []) (lenOf pd3 rfl) rfl (by show 2 * 0 + _ ≤ _; exact Nat.le_of_eq rfl) (hb hby d2_6) (fun _ _ => ⟨rfl, e0, (by decide : 0 + 4 ≤ _), (by decide : 0 + 8 ≤ _)⟩)
  dsimp only [Pt.U, Pt.locs, Pt.cells, Pt.slots] at X1 hS gr1 l1 y1 z1 st1 hQ1
  subst l1 y1 z1
  refine EndsK.tr st1 ?_
  obtain ⟨rfl, N1, Q1⟩ := hQ1
  show EndsK p e below _ (T1.setTop (mkF m 9 #[.val (.ref x), .val (.ref ca)] []))
  exact endVW X1 hS (Nat.le_refl _) hx Bd.returns (hb hby d2_9) hlk ⟨rfl, Fr.app N0 N1, Q1⟩ (by decide) (by decide)
theorem nc (r : Int32) (h1 : ¬ r < 0) (h2 : ¬ (255 : Int32) < r) : nar .char r = r := by
  have a := c_i2c r
  simp only [Int32.lt_iff_toInt_lt] at h1 h2
  have z0 : (0 : Int32).toInt = 0 := rfl
  have z1 : (255 : Int32).toInt = 255 := rfl
  simp only [nar]
  rw [← Int32.toInt_inj]
  omega
theorem b8 (r k : Int32) (d : Int) (h1 : ¬ r < 0) (h2 : ¬ (255 : Int32) < r) (hk : k.toInt = d) (d1 : 0 ≤ d) (d2 : d < 128) : (k = (nar .char r).toInt8.toInt32) = (r = k) := by
  rw [nc r h1 h2]
  have a := c_i2b r
  simp only [Int32.lt_iff_toInt_lt] at h1 h2
  have z0 : (0 : Int32).toInt = 0 := rfl
  have z1 : (255 : Int32).toInt = 255 := rfl
  rw [← Int32.toInt_inj, ← Int32.toInt_inj]
  apply propext
  omega
theorem ef_law (m : MethodId) (i0 : Int32) (i1 : Int32) (i2 : Int32) (i3 : Int32) (zc : Int32) (av : Addr) (cv : Cell) (b0 : Addr) (b1 : Addr) (b2 : Addr) (b3 : Addr) (b4 : Addr) (b5 : Addr) (s0 : Addr) (s1 : Addr) (s2 : Addr) (s3 : Addr) (s4 : Addr) (s5 : Addr) (v0 : Addr) (v1 : Addr) (v2 : Addr) (v3 : Addr) (v4 : Addr) (v5 : Addr) (c0 : Cell) (c1 : Cell) (c2 : Cell) (c3 : Cell) (c4 : Cell) (c5 : Cell) : entryFrame m #[(.int i0), (.int i1), (.int i2), (.int i3)] maxLocals = mkF m 0 #[.val (.int i0), .val (.int i1), .val (.int i2), .val (.int i3), .unset, .unset, .unset, .unset, .unset, .unset, .unset, .unset, .unset, .unset] [] := by first | (simp [entryFrame, mkF, argsToLocals, Value.category, maxLocals]; done) | rfl
def Q_law (Z : State) (i0 : Int32) (i1 : Int32) (i2 : Int32) (i3 : Int32) (zc : Int32) (av : Addr) (cv : Cell) (b0 : Addr) (b1 : Addr) (b2 : Addr) (b3 : Addr) (b4 : Addr) (b5 : Addr) (s0 : Addr) (s1 : Addr) (s2 : Addr) (s3 : Addr) (s4 : Addr) (s5 : Addr) (v0 : Addr) (v1 : Addr) (v2 : Addr) (v3 : Addr) (v4 : Addr) (v5 : Addr) (c0 : Cell) (c1 : Cell) (c2 : Cell) (c3 : Cell) (c4 : Cell) (c5 : Cell) (h0 : Heap) (n0 : Nat) (vz : Option Value) (hz : Heap) (Lz : List Loc) : Prop := vz = some (.int 1) ∧ Fr n0 Lz
theorem pd4 : parseMethodDescriptor "(I)C" = some ⟨[.int], some .char⟩ := by decide +kernel
theorem pd5 : parseMethodDescriptor "([C)V" = some ⟨[(.array .char)], none⟩ := by decide +kernel
theorem pd6 : parseMethodDescriptor "(Ljava/lang/String;)Lcom/example/windrow/windrow/Condition$Comparison;" = some ⟨[(.object "java/lang/String")], some (.object "com/example/windrow/windrow/Condition$Comparison")⟩ := by decide +kernel
set_option maxRecDepth 65536 in
set_option maxHeartbeats 40000000 in
theorem rm_law (l : Launch) (Z : State) (a0 : Array Value) (hw : ∀ d ∈ tables_1, d.before a0 Z = true) (ws : List Jvm.Cond) (i0 : Int32) (i1 : Int32) (i2 : Int32) (i3 : Int32) (zc : Int32) (av : Addr) (cv : Cell) (b0 : Addr) (b1 : Addr) (b2 : Addr) (b3 : Addr) (b4 : Addr) (b5 : Addr) (s0 : Addr) (s1 : Addr) (s2 : Addr) (s3 : Addr) (s4 : Addr) (s5 : Addr) (v0 : Addr) (v1 : Addr) (v2 : Addr) (v3 : Addr) (v4 : Addr) (v5 : Addr) (c0 : Cell) (c1 : Cell) (c2 : Cell) (c3 : Cell) (c4 : Cell) (c5 : Cell) (h0 : Heap) (n0 : Nat) (Z0 : n0 ≤ h0.size) (hn0 : n0 = h0.size) (SC : Sta Z h0 "java/lang/String" "COMPACT_STRINGS" "Z" (.int zc)) (hzc : ¬ (zc = (0 : Int32))) (SV : Sta Z h0 "com/example/windrow/windrow/Condition$Comparison" "$VALUES" "[Lcom/example/windrow/windrow/Condition$Comparison;" (.ref av)) (AV : Arr Z h0 av cv (.object "com/example/windrow/windrow/Condition$Comparison")) (EV : Exa Z h0 av "[Lcom/example/windrow/windrow/Condition$Comparison;") (FV : FitC Z cv) (hsz : cv.slots.size = 6) (w0 : ¬ ((0 : Int32) < 0 ∨ cv.slots.size ≤ (0 : Int32).toNatClampNeg) ∧ cv.slots[(0 : Int32).toNatClampNeg]? = some (.ref b0)) (Fb0 : Fld Z h0 b0 "com/example/windrow/windrow/Condition$Comparison" "symbol" "Ljava/lang/String;" (.ref s0)) (Es0 : Exa Z h0 s0 "java/lang/String") (Fc0 : Fld Z h0 s0 "java/lang/String" "coder" "B" (.int (0 : Int32))) (Fv0 : Fld Z h0 s0 "java/lang/String" "value" "[B" (.ref v0)) (Av0 : Arr Z h0 v0 c0 .byte) (zv0 : c0.slots.size.toInt32 = (1 : Int32)) (uv0_0 : ¬ ((0 : Int32) < 0 ∨ c0.slots.size ≤ (0 : Int32).toNatClampNeg) ∧ c0.slots[(0 : Int32).toNatClampNeg]? = some (.int (61 : Int32))) (w1 : ¬ ((1 : Int32) < 0 ∨ cv.slots.size ≤ (1 : Int32).toNatClampNeg) ∧ cv.slots[(1 : Int32).toNatClampNeg]? = some (.ref b1)) (Fb1 : Fld Z h0 b1 "com/example/windrow/windrow/Condition$Comparison" "symbol" "Ljava/lang/String;" (.ref s1)) (Es1 : Exa Z h0 s1 "java/lang/String") (Fc1 : Fld Z h0 s1 "java/lang/String" "coder" "B" (.int (0 : Int32))) (Fv1 : Fld Z h0 s1 "java/lang/String" "value" "[B" (.ref v1)) (Av1 : Arr Z h0 v1 c1 .byte) (zv1 : c1.slots.size.toInt32 = (2 : Int32)) (uv1_0 : ¬ ((0 : Int32) < 0 ∨ c1.slots.size ≤ (0 : Int32).toNatClampNeg) ∧ c1.slots[(0 : Int32).toNatClampNeg]? = some (.int (33 : Int32))) (uv1_1 : ¬ ((1 : Int32) < 0 ∨ c1.slots.size ≤ (1 : Int32).toNatClampNeg) ∧ c1.slots[(1 : Int32).toNatClampNeg]? = some (.int (61 : Int32))) (w2 : ¬ ((2 : Int32) < 0 ∨ cv.slots.size ≤ (2 : Int32).toNatClampNeg) ∧ cv.slots[(2 : Int32).toNatClampNeg]? = some (.ref b2)) (Fb2 : Fld Z h0 b2 "com/example/windrow/windrow/Condition$Comparison" "symbol" "Ljava/lang/String;" (.ref s2)) (Es2 : Exa Z h0 s2 "java/lang/String") (Fc2 : Fld Z h0 s2 "java/lang/String" "coder" "B" (.int (0 : Int32))) (Fv2 : Fld Z h0 s2 "java/lang/String" "value" "[B" (.ref v2)) (Av2 : Arr Z h0 v2 c2 .byte) (zv2 : c2.slots.size.toInt32 = (1 : Int32)) (uv2_0 : ¬ ((0 : Int32) < 0 ∨ c2.slots.size ≤ (0 : Int32).toNatClampNeg) ∧ c2.slots[(0 : Int32).toNatClampNeg]? = some (.int (60 : Int32))) (w3 : ¬ ((3 : Int32) < 0 ∨ cv.slots.size ≤ (3 : Int32).toNatClampNeg) ∧ cv.slots[(3 : Int32).toNatClampNeg]? = some (.ref b3)) (Fb3 : Fld Z h0 b3 "com/example/windrow/windrow/Condition$Comparison" "symbol" "Ljava/lang/String;" (.ref s3)) (Es3 : Exa Z h0 s3 "java/lang/String") (Fc3 : Fld Z h0 s3 "java/lang/String" "coder" "B" (.int (0 : Int32))) (Fv3 : Fld Z h0 s3 "java/lang/String" "value" "[B" (.ref v3)) (Av3 : Arr Z h0 v3 c3 .byte) (zv3 : c3.slots.size.toInt32 = (2 : Int32)) (uv3_0 : ¬ ((0 : Int32) < 0 ∨ c3.slots.size ≤ (0 : Int32).toNatClampNeg) ∧ c3.slots[(0 : Int32).toNatClampNeg]? = some (.int (60 : Int32))) (uv3_1 : ¬ ((1 : Int32) < 0 ∨ c3.slots.size ≤ (1 : Int32).toNatClampNeg) ∧ c3.slots[(1 : Int32).toNatClampNeg]? = some (.int (61 : Int32))) (w4 : ¬ ((4 : Int32) < 0 ∨ cv.slots.size ≤ (4 : Int32).toNatClampNeg) ∧ cv.slots[(4 : Int32).toNatClampNeg]? = some (.ref b4)) (Fb4 : Fld Z h0 b4 "com/example/windrow/windrow/Condition$Comparison" "symbol" "Ljava/lang/String;" (.ref s4)) (Es4 : Exa Z h0 s4 "java/lang/String") (Fc4 : Fld Z h0 s4 "java/lang/String" "coder" "B" (.int (0 : Int32))) (Fv4 : Fld Z h0 s4 "java/lang/String" "value" "[B" (.ref v4)) (Av4 : Arr Z h0 v4 c4 .byte) (zv4 : c4.slots.size.toInt32 = (1 : Int32)) (uv4_0 : ¬ ((0 : Int32) < 0 ∨ c4.slots.size ≤ (0 : Int32).toNatClampNeg) ∧ c4.slots[(0 : Int32).toNatClampNeg]? = some (.int (62 : Int32))) (w5 : ¬ ((5 : Int32) < 0 ∨ cv.slots.size ≤ (5 : Int32).toNatClampNeg) ∧ cv.slots[(5 : Int32).toNatClampNeg]? = some (.ref b5)) (Fb5 : Fld Z h0 b5 "com/example/windrow/windrow/Condition$Comparison" "symbol" "Ljava/lang/String;" (.ref s5)) (Es5 : Exa Z h0 s5 "java/lang/String") (Fc5 : Fld Z h0 s5 "java/lang/String" "coder" "B" (.int (0 : Int32))) (Fv5 : Fld Z h0 s5 "java/lang/String" "value" "[B" (.ref v5)) (Av5 : Arr Z h0 v5 c5 .byte) (zv5 : c5.slots.size.toInt32 = (2 : Int32)) (uv5_0 : ¬ ((0 : Int32) < 0 ∨ c5.slots.size ≤ (0 : Int32).toNatClampNeg) ∧ c5.slots[(0 : Int32).toNatClampNeg]? = some (.int (62 : Int32))) (uv5_1 : ¬ ((1 : Int32) < 0 ∨ c5.slots.size ≤ (1 : Int32).toNatClampNeg) ∧ c5.slots[(1 : Int32).toNatClampNeg]? = some (.int (61 : Int32))) (SN0 : Sta Z h0 "com/example/windrow/windrow/Condition$Comparison" "EQUAL" "Lcom/example/windrow/windrow/Condition$Comparison;" (.ref b0)) (SN1 : Sta Z h0 "com/example/windrow/windrow/Condition$Comparison" "NOT_EQUAL" "Lcom/example/windrow/windrow/Condition$Comparison;" (.ref b1)) (SN2 : Sta Z h0 "com/example/windrow/windrow/Condition$Comparison" "LESS" "Lcom/example/windrow/windrow/Condition$Comparison;" (.ref b2)) (SN3 : Sta Z h0 "com/example/windrow/windrow/Condition$Comparison" "LESS_OR_EQUAL" "Lcom/example/windrow/windrow/Condition$Comparison;" (.ref b3)) (SN4 : Sta Z h0 "com/example/windrow/windrow/Condition$Comparison" "GREATER" "Lcom/example/windrow/windrow/Condition$Comparison;" (.ref b4)) (SN5 : Sta Z h0 "com/example/windrow/windrow/Condition$Comparison" "GREATER_OR_EQUAL" "Lcom/example/windrow/windrow/Condition$Comparison;" (.ref b5)) :
    MetFree l x (head1 (Jvm.Cond.code x code maxLocals ret :: ws) room_1) (fun az Uz => az = #[(.int i0), (.int i1), (.int i2), (.int i3)] ∧ Z.Warmed39 Uz.vm ∧ Uz.heap = h0 ∧ CHv Z EL1 Uz.vm h0) (fun _ _ _ _ _ => True) (fun _ Uz oz Ut => ∃ vz Lz, oz = .returned vz ∧ Q_law Z i0 i1 i2 i3 zc av cv b0 b1 b2 b3 b4 b5 s0 s1 s2 s3 s4 s5 v0 v1 v2 v3 v4 v5 c0 c1 c2 c3 c4 c5 h0 n0 vz Ut.heap Lz ∧ ReturnedEndW Uz oz Ut Lz (room_1).cells (room_1).slots) := by
  refine MetFree.of_bodySF (plainFor_of_name pn0) hisR ?_
  intro p e s m args below meth c s₁ Bd hml0 hP hK
  obtain ⟨rfl, hZ, hh, hCH⟩ := hP
  have hx := Bd.exec
  have hby := Bd.bytes
  have hml : c.maxLocals = 14 := hml0
  have hown : s.vm.findClass "com/example/windrow/windrow/ComparisonOfPinLaw" = some m.cls := findClass_of_methodNamed Bd.named
  have hnm := (name_of_methodNamed Bd.named Bd.method).1
  have hlk : meth.locks = false := Bd.notSynchronized
  have X0 : Stand p l e room_1 s m #[(.int i0), (.int i1), (.int i2), (.int i3)] below meth c s₁ [] 0 0 := Stand.of_body Bd
  have e0 : s₁.heap = h0 := by rw [← hh, Bd.state]; rfl
  have N0 := Fr.nil n0
  show EndsK p e below (OW s (Q_law Z i0 i1 i2 i3 zc av cv b0 b1 b2 b3 b4 b5 s0 s1 s2 s3 s4 s5 v0 v1 v2 v3 v4 v5 c0 c1 c2 c3 c4 c5 h0 n0) (room_1).cells (room_1).slots) (s₁.setTop (entryFrame m #[(.int i0), (.int i1), (.int i2), (.int i3)] maxLocals))
  refine EndsK.start (ef_law m i0 i1 i2 i3 zc av cv b0 b1 b2 b3 b4 b5 s0 s1 s2 s3 s4 s5 v0 v1 v2 v3 v4 v5 c0 c1 c2 c3 c4 c5) ?_
  have P0 := ext_refl h0
  have hws : ∀ d ∈ StrChars.Road.words, d.before a0 Z = true := fun d hd => hw d ((by decide +kernel : ∀ d ∈ StrChars.Road.words, d ∈ tables_1) d hd)
  have hEL : EW Z a0 EL1 := EW.cons (text := "") (hw _ (List.mem_of_getElem? (i := 18) rfl)) (by decide) EW.nil
  have wS : ∀ a ∈ Bundle.stringAtoms, a.before a0 Z = true := fun d hd => hw d ((by decide +kernel : ∀ d ∈ Bundle.stringAtoms, d ∈ tables_1) d hd)
  show EndsK p e below _ (s₁.setTop (mkF m 0 #[.val (.int i0), .val (.int i1), .val (.int i2), .val (.int i3), .unset, .unset, .unset, .unset, .unset, .unset, .unset, .unset, .unset, .unset] []))
  refine EndsK.go (fun _ kz => XS.iloadN X0.here hx rfl (hb hby at_0) rfl kz) ?_
  show EndsK p e below _ (s₁.setTop (mkF m 1 #[.val (.int i0), .val (.int i1), .val (.int i2), .val (.int i3), .unset, .unset, .unset, .unset, .unset, .unset, .unset, .unset, .unset, .unset] [(.int i1)]))
  obtain ⟨_, _, ⟨T101, L101, k101, n101⟩, -, X101, ⟨Lc101, hQ101, l101, y101, z101⟩, st101⟩ := Jvm.LawKit.callS X0 hx (y := (⟨"com/example/windrow/windrow/ComparisonOfPinLaw", "pick", "(I)C"⟩ : MethodName)) hown (mvT hZ (hw _ (List.mem_of_getElem? (i := 0) rfl))) (mvT hZ (hw _ (List.mem_of_getElem? (i := 1) rfl))) (mvT hZ (hw _ (List.mem_of_getElem? (i := 2) rfl))) (mvT hZ (hw _ (List.mem_of_getElem? (i := 3) rfl))) (by decide) (backOf (W := 0) (rm_pick l Z a0 hw [] i1 h0 n0 Z0) hZ (hw _ (List.mem_of_getElem? (i := 3) rfl)) (hw _ (List.mem_of_getElem? (i := 2) rfl)) (by decide) (by decide)) (g := (mkF m 1 #[.val (.int i0), .val (.int i1), .val (.int i2), .val (.int i3), .unset, .unset, .unset, .unset, .unset, .unset, .unset, .unset, .unset, .unset] [(.int i1)])) rfl (by rw [hml]; rfl) (argsL := [(.int i1)]) (rest := []) (lenOf pd4 rfl) rfl (by show 2 * 0 + _ ≤ _; exact Nat.le_of_eq rfl) (hb hby at_1) (fun _ _ => ⟨rfl, e0, (by decide : 0 + 0 ≤ _), (by decide : 0 + 0 ≤ _)⟩)
  dsimp only [Pt.U, Pt.locs, Pt.cells, Pt.slots] at X101 l101 y101 z101 st101 hQ101
  subst l101 y101 z101
  obtain ⟨r0, rfl, N101, e101, ga0, gb0⟩ := hQ101
  have Y101 : Stand p l e room_1 s m #[(.int i0), (.int i1), (.int i2), (.int i3)] below meth c T101 [] 0 0 := (X101.dropFresh (fun xz hxz => by rw [hh, ← hn0]; exact N101 xz hxz)).mono (by decide) (by decide)
  refine EndsK.go st101 ?_
  show EndsK p e below _ (T101.setTop (mkF m 4 #[.val (.int i0), .val (.int i1), .val (.int i2), .val (.int i3), .unset, .unset, .unset, .unset, .unset, .unset, .unset, .unset, .unset, .unset] [(.int r0)]))
  refine EndsK.go (fun _ kz => XS.istore Y101.here hx rfl (hb hby at_4) rfl (l' := #[.val (.int i0), .val (.int i1), .val (.int i2), .val (.int i3), .val (.int r0), .unset, .unset, .unset, .unset, .unset, .unset, .unset, .unset, .unset]) rfl kz) ?_
  show EndsK p e below _ (T101.setTop (mkF m 6 #[.val (.int i0), .val (.int i1), .val (.int i2), .val (.int i3), .val (.int r0), .unset, .unset, .unset, .unset, .unset, .unset, .unset, .unset, .unset] []))
  refine EndsK.go (fun _ kz => XS.iloadN Y101.here hx rfl (hb hby at_6) rfl kz) ?_
  show EndsK p e below _ (T101.setTop (mkF m 7 #[.val (.int i0), .val (.int i1), .val (.int i2), .val (.int i3), .val (.int r0), .unset, .unset, .unset, .unset, .unset, .unset, .unset, .unset, .unset] [(.int i2)]))
  obtain ⟨_, _, ⟨T102, L102, k102, n102⟩, -, X102, ⟨Lc102, hQ102, l102, y102, z102⟩, st102⟩ := Jvm.LawKit.callS Y101 hx (y := (⟨"com/example/windrow/windrow/ComparisonOfPinLaw", "pick", "(I)C"⟩ : MethodName)) hown (mvT hZ (hw _ (List.mem_of_getElem? (i := 0) rfl))) (mvT hZ (hw _ (List.mem_of_getElem? (i := 1) rfl))) (mvT hZ (hw _ (List.mem_of_getElem? (i := 2) rfl))) (mvT hZ (hw _ (List.mem_of_getElem? (i := 3) rfl))) (by decide) (backOf (W := 0) (rm_pick l Z a0 hw [] i2 h0 n0 Z0) hZ (hw _ (List.mem_of_getElem? (i := 3) rfl)) (hw _ (List.mem_of_getElem? (i := 2) rfl)) (by decide) (by decide)) (g := (mkF m 7 #[.val (.int i0), .val (.int i1), .val (.int i2), .val (.int i3), .val (.int r0), .unset, .unset, .unset, .unset, .unset, .unset, .unset, .unset, .unset] [(.int i2)])) rfl (by rw [hml]; rfl) (argsL := [(.int i2)]) (rest := []) (lenOf pd4 rfl) rfl (by show 2 * 0 + _ ≤ _; exact Nat.le_of_eq rfl) (hb hby at_7) (fun _ _ => ⟨rfl, e101, (by decide : 0 + 0 ≤ _), (by decide : 0 + 0 ≤ _)⟩)
  dsimp only [Pt.U, Pt.locs, Pt.cells, Pt.slots] at X102 l102 y102 z102 st102 hQ102
  subst l102 y102 z102
  obtain ⟨r1, rfl, N102, e102, ga1, gb1⟩ := hQ102
  have Y102 : Stand p l e room_1 s m #[(.int i0), (.int i1), (.int i2), (.int i3)] below meth c T102 [] 0 0 := (X102.dropFresh (fun xz hxz => by rw [hh, ← hn0]; exact N102 xz hxz)).mono (by decide) (by decide)
  refine EndsK.go st102 ?_
  show EndsK p e below _ (T102.setTop (mkF m 10 #[.val (.int i0), .val (.int i1), .val (.int i2), .val (.int i3), .val (.int r0), .unset, .unset, .unset, .unset, .unset, .unset, .unset, .unset, .unset] [(.int r1)]))
  refine EndsK.go (fun _ kz => XS.istore Y102.here hx rfl (hb hby at_10) rfl (l' := #[.val (.int i0), .val (.int i1), .val (.int i2), .val (.int i3), .val (.int r0), .val (.int r1), .unset, .unset, .unset, .unset, .unset, .unset, .unset, .unset]) rfl kz) ?_
  show EndsK p e below _ (T102.setTop (mkF m 12 #[.val (.int i0), .val (.int i1), .val (.int i2), .val (.int i3), .val (.int r0), .val (.int r1), .unset, .unset, .unset, .unset, .unset, .unset, .unset, .unset] []))
  refine EndsK.go (fun _ kz => XS.iloadN Y102.here hx rfl (hb hby at_12) rfl kz) ?_
  show EndsK p e below _ (T102.setTop (mkF m 13 #[.val (.int i0), .val (.int i1), .val (.int i2), .val (.int i3), .val (.int r0), .val (.int r1), .unset, .unset, .unset, .unset, .unset, .unset, .unset, .unset] [(.int i3)]))
  obtain ⟨_, _, ⟨T103, L103, k103, n103⟩, -, X103, ⟨Lc103, hQ103, l103, y103, z103⟩, st103⟩ := Jvm.LawKit.callS Y102 hx (y := (⟨"com/example/windrow/windrow/ComparisonOfPinLaw", "pick", "(I)C"⟩ : MethodName)) hown (mvT hZ (hw _ (List.mem_of_getElem? (i := 0) rfl))) (mvT hZ (hw _ (List.mem_of_getElem? (i := 1) rfl))) (mvT hZ (hw _ (List.mem_of_getElem? (i := 2) rfl))) (mvT hZ (hw _ (List.mem_of_getElem? (i := 3) rfl))) (by decide) (backOf (W := 0) (rm_pick l Z a0 hw [] i3 h0 n0 Z0) hZ (hw _ (List.mem_of_getElem? (i := 3) rfl)) (hw _ (List.mem_of_getElem? (i := 2) rfl)) (by decide) (by decide)) (g := (mkF m 13 #[.val (.int i0), .val (.int i1), .val (.int i2), .val (.int i3), .val (.int r0), .val (.int r1), .unset, .unset, .unset, .unset, .unset, .unset, .unset, .unset] [(.int i3)])) rfl (by rw [hml]; rfl) (argsL := [(.int i3)]) (rest := []) (lenOf pd4 rfl) rfl (by show 2 * 0 + _ ≤ _; exact Nat.le_of_eq rfl) (hb hby at_13) (fun _ _ => ⟨rfl, e102, (by decide : 0 + 0 ≤ _), (by decide : 0 + 0 ≤ _)⟩)
  dsimp only [Pt.U, Pt.locs, Pt.cells, Pt.slots] at X103 l103 y103 z103 st103 hQ103
  subst l103 y103 z103
  obtain ⟨r2, rfl, N103, e103, ga2, gb2⟩ := hQ103
  have Y103 : Stand p l e room_1 s m #[(.int i0), (.int i1), (.int i2), (.int i3)] below meth c T103 [] 0 0 := (X103.dropFresh (fun xz hxz => by rw [hh, ← hn0]; exact N103 xz hxz)).mono (by decide) (by decide)
  refine EndsK.go st103 ?_
  show EndsK p e below _ (T103.setTop (mkF m 16 #[.val (.int i0), .val (.int i1), .val (.int i2), .val (.int i3), .val (.int r0), .val (.int r1), .unset, .unset, .unset, .unset, .unset, .unset, .unset, .unset] [(.int r2)]))
  refine EndsK.go (fun _ kz => XS.istore Y103.here hx rfl (hb hby at_16) rfl (l' := #[.val (.int i0), .val (.int i1), .val (.int i2), .val (.int i3), .val (.int r0), .val (.int r1), .val (.int r2), .unset, .unset, .unset, .unset, .unset, .unset, .unset]) rfl kz) ?_
  show EndsK p e below _ (T103.setTop (mkF m 18 #[.val (.int i0), .val (.int i1), .val (.int i2), .val (.int i3), .val (.int r0), .val (.int r1), .val (.int r2), .unset, .unset, .unset, .unset, .unset, .unset, .unset] []))
  refine EndsK.go (fun _ kz => XS.iloadN Y103.here hx rfl (hb hby at_18) rfl kz) ?_
  show EndsK p e below _ (T103.setTop (mkF m 19 #[.val (.int i0), .val (.int i1), .val (.int i2), .val (.int i3), .val (.int r0), .val (.int r1), .val (.int r2), .unset, .unset, .unset, .unset, .unset, .unset, .unset] [(.int i0)]))
  refine EndsK.go (fun _ kz => XS.iconst Y103.here hx rfl (hb hby at_19) kz) ?_
  show EndsK p e below _ (T103.setTop (mkF m 20 #[.val (.int i0), .val (.int i1), .val (.int i2), .val (.int i3), .val (.int r0), .val (.int r1), .val (.int r2), .unset, .unset, .unset, .unset, .unset, .unset, .unset] [(.int (3 : Int32)), (.int i0)]))
  refine EndsK.go (fun _ kz => XS.iand Y103.here hx rfl (hb hby at_20) rfl kz) ?_
  show EndsK p e below _ (T103.setTop (mkF m 21 #[.val (.int i0), .val (.int i1), .val (.int i2), .val (.int i3), .val (.int r0), .val (.int r1), .val (.int r2), .unset, .unset, .unset, .unset, .unset, .unset, .unset] [(.int (i0 &&& (3 : Int32)))]))
  refine EndsK.go (fun _ kz => XS.istore Y103.here hx rfl (hb hby at_21) rfl (l' := #[.val (.int i0), .val (.int i1), .val (.int i2), .val (.int i3), .val (.int r0), .val (.int r1), .val (.int r2), .val (.int (i0 &&& (3 : Int32))), .unset, .unset, .unset, .unset, .unset, .unset]) rfl kz) ?_
  show EndsK p e below _ (T103.setTop (mkF m 23 #[.val (.int i0), .val (.int i1), .val (.int i2), .val (.int i3), .val (.int r0), .val (.int r1), .val (.int r2), .val (.int (i0 &&& (3 : Int32))), .unset, .unset, .unset, .unset, .unset, .unset] []))
  refine EndsK.go (fun _ kz => XS.iconst Y103.here hx rfl (hb hby at_23) kz) ?_
  show EndsK p e below _ (T103.setTop (mkF m 24 #[.val (.int i0), .val (.int i1), .val (.int i2), .val (.int i3), .val (.int r0), .val (.int r1), .val (.int r2), .val (.int (i0 &&& (3 : Int32))), .unset, .unset, .unset, .unset, .unset, .unset] [(.int (0 : Int32))]))
  obtain ⟨T104, h104, c104, X104, e104, E104, A104, st104⟩ := newP Y103 hx hZ (hw _ (List.mem_of_getElem? (i := 4) rfl)) e103 (g := (mkF m 24 #[.val (.int i0), .val (.int i1), .val (.int i2), .val (.int i3), .val (.int r0), .val (.int r1), .val (.int r2), .val (.int (i0 &&& (3 : Int32))), .unset, .unset, .unset, .unset, .unset, .unset] [(.int (0 : Int32))])) rfl (hb hby at_24) rfl (by decide) (cap := 0) (by decide) (by decide) (by decide) (by decide)
  obtain ⟨an, g104⟩ : ∃ z, z = h0.size := ⟨_, rfl⟩
  rw [← g104] at A104 st104
  refine EndsK.go st104 ?_
  have V104 : Arv Z h104 an c104 .char (0 : Int32) [] (.int (0 : Int32)) := Arv.new A104 (by decide)
  have Y104 : Stand p l e room_1 s m #[(.int i0), (.int i1), (.int i2), (.int i3)] below meth c T104 [] 1 0 := X104
  have Z104 : n0 ≤ h104.size := Nat.le_trans Z0 E104.1
  have G104 : n0 ≤ an := by rw [g104]; exact Z0
  have P104 := ext_trans P0 E104
  have sz_an : h0.size ≤ an := by rw [g104]; exact P0.1
  show EndsK p e below _ (T104.setTop (mkF m 26 #[.val (.int i0), .val (.int i1), .val (.int i2), .val (.int i3), .val (.int r0), .val (.int r1), .val (.int r2), .val (.int (i0 &&& (3 : Int32))), .unset, .unset, .unset, .unset, .unset, .unset] [(.ref an)]))
  refine EndsK.go (fun _ kz => XS.astore Y104.here hx rfl (hb hby at_26) rfl rfl (l' := #[.val (.int i0), .val (.int i1), .val (.int i2), .val (.int i3), .val (.int r0), .val (.int r1), .val (.int r2), .val (.int (i0 &&& (3 : Int32))), .val (.ref an), .unset, .unset, .unset, .unset, .unset]) rfl kz) ?_
  show EndsK p e below _ (T104.setTop (mkF m 28 #[.val (.int i0), .val (.int i1), .val (.int i2), .val (.int i3), .val (.int r0), .val (.int r1), .val (.int r2), .val (.int (i0 &&& (3 : Int32))), .val (.ref an), .unset, .unset, .unset, .unset, .unset] []))
  refine EndsK.go (fun _ kz => XS.iconst Y104.here hx rfl (hb hby at_28) kz) ?_
  show EndsK p e below _ (T104.setTop (mkF m 29 #[.val (.int i0), .val (.int i1), .val (.int i2), .val (.int i3), .val (.int r0), .val (.int r1), .val (.int r2), .val (.int (i0 &&& (3 : Int32))), .val (.ref an), .unset, .unset, .unset, .unset, .unset] [(.int (1 : Int32))]))
  obtain ⟨T105, h105, c105, X105, e105, E105, A105, st105⟩ := newP Y104 hx hZ (hw _ (List.mem_of_getElem? (i := 4) rfl)) e104 (g := (mkF m 29 #[.val (.int i0), .val (.int i1), .val (.int i2), .val (.int i3), .val (.int r0), .val (.int r1), .val (.int r2), .val (.int (i0 &&& (3 : Int32))), .val (.ref an), .unset, .unset, .unset, .unset, .unset] [(.int (1 : Int32))])) rfl (hb hby at_29) rfl (by decide) (cap := 1) (by decide) (by decide) (by decide) (by decide)
  obtain ⟨ao, g105⟩ : ∃ z, z = h104.size := ⟨_, rfl⟩
  rw [← g105] at A105 st105
  refine EndsK.go st105 ?_
  have V105_an := V104.ext E105
  have V105 : Arv Z h105 ao c105 .char (1 : Int32) [(.int (0 : Int32))] (.int (0 : Int32)) := (Arv.new A105 (by decide)).pad (pad_rep [] (.int (0 : Int32)) 1)
  have Y105 : Stand p l e room_1 s m #[(.int i0), (.int i1), (.int i2), (.int i3)] below meth c T105 [] 2 1 := X105
  have Z105 : n0 ≤ h105.size := Nat.le_trans Z104 E105.1
  have G105 : n0 ≤ ao := by rw [g105]; exact Z104
  have P105 := ext_trans P104 E105
  have sz_ao : h0.size ≤ ao := by rw [g105]; exact P104.1
  have ne_an_ao : an ≠ ao := Nat.ne_of_lt (by rw [g105]; exact V104.lt)
  show EndsK p e below _ (T105.setTop (mkF m 31 #[.val (.int i0), .val (.int i1), .val (.int i2), .val (.int i3), .val (.int r0), .val (.int r1), .val (.int r2), .val (.int (i0 &&& (3 : Int32))), .val (.ref an), .unset, .unset, .unset, .unset, .unset] [(.ref ao)]))
  refine EndsK.go (fun _ kz => XS.dup Y105.here hx rfl (hb hby at_31) rfl rfl kz) ?_
  show EndsK p e below _ (T105.setTop (mkF m 32 #[.val (.int i0), .val (.int i1), .val (.int i2), .val (.int i3), .val (.int r0), .val (.int r1), .val (.int r2), .val (.int (i0 &&& (3 : Int32))), .val (.ref an), .unset, .unset, .unset, .unset, .unset] [(.ref ao), (.ref ao)]))
  refine EndsK.go (fun _ kz => XS.iconst Y105.here hx rfl (hb hby at_32) kz) ?_
  show EndsK p e below _ (T105.setTop (mkF m 33 #[.val (.int i0), .val (.int i1), .val (.int i2), .val (.int i3), .val (.int r0), .val (.int r1), .val (.int r2), .val (.int (i0 &&& (3 : Int32))), .val (.ref an), .unset, .unset, .unset, .unset, .unset] [(.int (0 : Int32)), (.ref ao), (.ref ao)]))
  refine EndsK.go (fun _ kz => XS.iload Y105.here hx rfl (hb hby at_33) rfl kz) ?_
  show EndsK p e below _ (T105.setTop (mkF m 35 #[.val (.int i0), .val (.int i1), .val (.int i2), .val (.int i3), .val (.int r0), .val (.int r1), .val (.int r2), .val (.int (i0 &&& (3 : Int32))), .val (.ref an), .unset, .unset, .unset, .unset, .unset] [(.int r0), (.int (0 : Int32)), (.ref ao), (.ref ao)]))
  obtain ⟨c106, B106, q1106, Sz106, q3106, Hh106, Gh106⟩ := V105
  obtain ⟨T106, h106, X106, e106, W106, st106⟩ := stC Y105 hx hZ e105 B106 (j := (0 : Int32)) (inb_of Sz106 ⟨by decide, by decide⟩) (g := (mkF m 35 #[.val (.int i0), .val (.int i1), .val (.int i2), .val (.int i3), .val (.int r0), .val (.int r1), .val (.int r2), .val (.int (i0 &&& (3 : Int32))), .val (.ref an), .unset, .unset, .unset, .unset, .unset] [(.int r0), (.int (0 : Int32)), (.ref ao), (.ref ao)])) rfl rfl (hb hby at_35)
  have V106 : Arv Z h106 ao c105 .char (1 : Int32) [(.int (nar .char r0))] (.int (0 : Int32)) := Arv.set B106 q1106 Sz106 q3106 Hh106 Gh106 (fits_nar_char _) W106 0 rfl (Nat.le_of_ble_eq_true rfl)
  refine EndsK.go st106 ?_
  have V106_an := V105_an.other W106 ne_an_ao
  have Z106 : n0 ≤ h106.size := Nat.le_trans Z105 (Nat.le_of_eq W106.size.symm)
  have P106 := ext_wr P105 W106 sz_ao
  have Y106 : Stand p l e room_1 s m #[(.int i0), (.int i1), (.int i2), (.int i3)] below meth c T106 [] 2 1 := (X106.dropFresh (fun xz hxz => by cases List.mem_singleton.mp hxz; rw [hh]; exact sz_ao)).mono (by decide) (by decide)
  show EndsK p e below _ (T106.setTop (mkF m 36 #[.val (.int i0), .val (.int i1), .val (.int i2), .val (.int i3), .val (.int r0), .val (.int r1), .val (.int r2), .val (.int (i0 &&& (3 : Int32))), .val (.ref an), .unset, .unset, .unset, .unset, .unset] [(.ref ao)]))
  refine EndsK.go (fun _ kz => XS.astore Y106.here hx rfl (hb hby at_36) rfl rfl (l' := #[.val (.int i0), .val (.int i1), .val (.int i2), .val (.int i3), .val (.int r0), .val (.int r1), .val (.int r2), .val (.int (i0 &&& (3 : Int32))), .val (.ref an), .val (.ref ao), .unset, .unset, .unset, .unset]) rfl kz) ?_
  show EndsK p e below _ (T106.setTop (mkF m 38 #[.val (.int i0), .val (.int i1), .val (.int i2), .val (.int i3), .val (.int r0), .val (.int r1), .val (.int r2), .val (.int (i0 &&& (3 : Int32))), .val (.ref an), .val (.ref ao), .unset, .unset, .unset, .unset] []))
  refine EndsK.go (fun _ kz => XS.iconst Y106.here hx rfl (hb hby at_38) kz) ?_
  show EndsK p e below _ (T106.setTop (mkF m 39 #[.val (.int i0), .val (.int i1), .val (.int i2), .val (.int i3), .val (.int r0), .val (.int r1), .val (.int r2), .val (.int (i0 &&& (3 : Int32))), .val (.ref an), .val (.ref ao), .unset, .unset, .unset, .unset] [(.int (2 : Int32))]))
  obtain ⟨T107, h107, c107, X107, e107, E107, A107, st107⟩ := newP Y106 hx hZ (hw _ (List.mem_of_getElem? (i := 4) rfl)) e106 (g := (mkF m 39 #[.val (.int i0), .val (.int i1), .val (.int i2), .val (.int i3), .val (.int r0), .val (.int r1), .val (.int r2), .val (.int (i0 &&& (3 : Int32))), .val (.ref an), .val (.ref ao), .unset, .unset, .unset, .unset] [(.int (2 : Int32))])) rfl (hb hby at_39) rfl (by decide) (cap := 2) (by decide) (by decide) (by decide) (by decide)
  obtain ⟨aw, g107⟩ : ∃ z, z = h106.size := ⟨_, rfl⟩
  rw [← g107] at A107 st107
  refine EndsK.go st107 ?_
  have V107_an := V106_an.ext E107
  have V107_ao := V106.ext E107
  have V107 : Arv Z h107 aw c107 .char (2 : Int32) [(.int (0 : Int32)), (.int (0 : Int32))] (.int (0 : Int32)) := (Arv.new A107 (by decide)).pad (pad_rep [] (.int (0 : Int32)) 2)
  have Y107 : Stand p l e room_1 s m #[(.int i0), (.int i1), (.int i2), (.int i3)] below meth c T107 [] 3 3 := X107
  have Z107 : n0 ≤ h107.size := Nat.le_trans Z106 E107.1
  have G107 : n0 ≤ aw := by rw [g107]; exact Z106
  have P107 := ext_trans P106 E107
  have sz_aw : h0.size ≤ aw := by rw [g107]; exact P106.1
  have ne_an_aw : an ≠ aw := Nat.ne_of_lt (by rw [g107]; exact V106_an.lt)
  have ne_ao_aw : ao ≠ aw := Nat.ne_of_lt (by rw [g107]; exact V106.lt)
  show EndsK p e below _ (T107.setTop (mkF m 41 #[.val (.int i0), .val (.int i1), .val (.int i2), .val (.int i3), .val (.int r0), .val (.int r1), .val (.int r2), .val (.int (i0 &&& (3 : Int32))), .val (.ref an), .val (.ref ao), .unset, .unset, .unset, .unset] [(.ref aw)]))
  refine EndsK.go (fun _ kz => XS.dup Y107.here hx rfl (hb hby at_41) rfl rfl kz) ?_
  show EndsK p e below _ (T107.setTop (mkF m 42 #[.val (.int i0), .val (.int i1), .val (.int i2), .val (.int i3), .val (.int r0), .val (.int r1), .val (.int r2), .val (.int (i0 &&& (3 : Int32))), .val (.ref an), .val (.ref ao), .unset, .unset, .unset, .unset] [(.ref aw), (.ref aw)]))
  refine EndsK.go (fun _ kz => XS.iconst Y107.here hx rfl (hb hby at_42) kz) ?_
  show EndsK p e below _ (T107.setTop (mkF m 43 #[.val (.int i0), .val (.int i1), .val (.int i2), .val (.int i3), .val (.int r0), .val (.int r1), .val (.int r2), .val (.int (i0 &&& (3 : Int32))), .val (.ref an), .val (.ref ao), .unset, .unset, .unset, .unset] [(.int (0 : Int32)), (.ref aw), (.ref aw)]))
  refine EndsK.go (fun _ kz => XS.iload Y107.here hx rfl (hb hby at_43) rfl kz) ?_
  show EndsK p e below _ (T107.setTop (mkF m 45 #[.val (.int i0), .val (.int i1), .val (.int i2), .val (.int i3), .val (.int r0), .val (.int r1), .val (.int r2), .val (.int (i0 &&& (3 : Int32))), .val (.ref an), .val (.ref ao), .unset, .unset, .unset, .unset] [(.int r0), (.int (0 : Int32)), (.ref aw), (.ref aw)]))
  obtain ⟨c108, B108, q1108, Sz108, q3108, Hh108, Gh108⟩ := V107
  obtain ⟨T108, h108, X108, e108, W108, st108⟩ := stC Y107 hx hZ e107 B108 (j := (0 : Int32)) (inb_of Sz108 ⟨by decide, by decide⟩) (g := (mkF m 45 #[.val (.int i0), .val (.int i1), .val (.int i2), .val (.int i3), .val (.int r0), .val (.int r1), .val (.int r2), .val (.int (i0 &&& (3 : Int32))), .val (.ref an), .val (.ref ao), .unset, .unset, .unset, .unset] [(.int r0), (.int (0 : Int32)), (.ref aw), (.ref aw)])) rfl rfl (hb hby at_45)
  have V108 : Arv Z h108 aw c107 .char (2 : Int32) [(.int (nar .char r0)), (.int (0 : Int32))] (.int (0 : Int32)) := Arv.set B108 q1108 Sz108 q3108 Hh108 Gh108 (fits_nar_char _) W108 0 rfl (Nat.le_of_ble_eq_true rfl)
  refine EndsK.go st108 ?_
  have V108_an := V107_an.other W108 ne_an_aw
  have V108_ao := V107_ao.other W108 ne_ao_aw
  have Z108 : n0 ≤ h108.size := Nat.le_trans Z107 (Nat.le_of_eq W108.size.symm)
  have P108 := ext_wr P107 W108 sz_aw
  have Y108 : Stand p l e room_1 s m #[(.int i0), (.int i1), (.int i2), (.int i3)] below meth c T108 [] 3 3 := (X108.dropFresh (fun xz hxz => by cases List.mem_singleton.mp hxz; rw [hh]; exact sz_aw)).mono (by decide) (by decide)
  show EndsK p e below _ (T108.setTop (mkF m 46 #[.val (.int i0), .val (.int i1), .val (.int i2), .val (.int i3), .val (.int r0), .val (.int r1), .val (.int r2), .val (.int (i0 &&& (3 : Int32))), .val (.ref an), .val (.ref ao), .unset, .unset, .unset, .unset] [(.ref aw)]))
  refine EndsK.go (fun _ kz => XS.dup Y108.here hx rfl (hb hby at_46) rfl rfl kz) ?_
  show EndsK p e below _ (T108.setTop (mkF m 47 #[.val (.int i0), .val (.int i1), .val (.int i2), .val (.int i3), .val (.int r0), .val (.int r1), .val (.int r2), .val (.int (i0 &&& (3 : Int32))), .val (.ref an), .val (.ref ao), .unset, .unset, .unset, .unset] [(.ref aw), (.ref aw)]))
  refine EndsK.go (fun _ kz => XS.iconst Y108.here hx rfl (hb hby at_47) kz) ?_
  show EndsK p e below _ (T108.setTop (mkF m 48 #[.val (.int i0), .val (.int i1), .val (.int i2), .val (.int i3), .val (.int r0), .val (.int r1), .val (.int r2), .val (.int (i0 &&& (3 : Int32))), .val (.ref an), .val (.ref ao), .unset, .unset, .unset, .unset] [(.int (1 : Int32)), (.ref aw), (.ref aw)]))
  refine EndsK.go (fun _ kz => XS.iload Y108.here hx rfl (hb hby at_48) rfl kz) ?_
  show EndsK p e below _ (T108.setTop (mkF m 50 #[.val (.int i0), .val (.int i1), .val (.int i2), .val (.int i3), .val (.int r0), .val (.int r1), .val (.int r2), .val (.int (i0 &&& (3 : Int32))), .val (.ref an), .val (.ref ao), .unset, .unset, .unset, .unset] [(.int r1), (.int (1 : Int32)), (.ref aw), (.ref aw)]))
  obtain ⟨c109, B109, q1109, Sz109, q3109, Hh109, Gh109⟩ := V108
  obtain ⟨T109, h109, X109, e109, W109, st109⟩ := stC Y108 hx hZ e108 B109 (j := (1 : Int32)) (inb_of Sz109 ⟨by decide, by decide⟩) (g := (mkF m 50 #[.val (.int i0), .val (.int i1), .val (.int i2), .val (.int i3), .val (.int r0), .val (.int r1), .val (.int r2), .val (.int (i0 &&& (3 : Int32))), .val (.ref an), .val (.ref ao), .unset, .unset, .unset, .unset] [(.int r1), (.int (1 : Int32)), (.ref aw), (.ref aw)])) rfl rfl (hb hby at_50)
  have V109 : Arv Z h109 aw c107 .char (2 : Int32) [(.int (nar .char r0)), (.int (nar .char r1))] (.int (0 : Int32)) := Arv.set B109 q1109 Sz109 q3109 Hh109 Gh109 (fits_nar_char _) W109 1 rfl (Nat.le_of_ble_eq_true rfl)
  refine EndsK.go st109 ?_
  have V109_an := V108_an.other W109 ne_an_aw
  have V109_ao := V108_ao.other W109 ne_ao_aw
  have Z109 : n0 ≤ h109.size := Nat.le_trans Z108 (Nat.le_of_eq W109.size.symm)
  have P109 := ext_wr P108 W109 sz_aw
  have Y109 : Stand p l e room_1 s m #[(.int i0), (.int i1), (.int i2), (.int i3)] below meth c T109 [] 3 3 := (X109.dropFresh (fun xz hxz => by cases List.mem_singleton.mp hxz; rw [hh]; exact sz_aw)).mono (by decide) (by decide)
  show EndsK p e below _ (T109.setTop (mkF m 51 #[.val (.int i0), .val (.int i1), .val (.int i2), .val (.int i3), .val (.int r0), .val (.int r1), .val (.int r2), .val (.int (i0 &&& (3 : Int32))), .val (.ref an), .val (.ref ao), .unset, .unset, .unset, .unset] [(.ref aw)]))
  refine EndsK.go (fun _ kz => XS.astore Y109.here hx rfl (hb hby at_51) rfl rfl (l' := #[.val (.int i0), .val (.int i1), .val (.int i2), .val (.int i3), .val (.int r0), .val (.int r1), .val (.int r2), .val (.int (i0 &&& (3 : Int32))), .val (.ref an), .val (.ref ao), .val (.ref aw), .unset, .unset, .unset]) rfl kz) ?_
  show EndsK p e below _ (T109.setTop (mkF m 53 #[.val (.int i0), .val (.int i1), .val (.int i2), .val (.int i3), .val (.int r0), .val (.int r1), .val (.int r2), .val (.int (i0 &&& (3 : Int32))), .val (.ref an), .val (.ref ao), .val (.ref aw), .unset, .unset, .unset] []))
  refine EndsK.go (fun _ kz => XS.iconst Y109.here hx rfl (hb hby at_53) kz) ?_
  show EndsK p e below _ (T109.setTop (mkF m 54 #[.val (.int i0), .val (.int i1), .val (.int i2), .val (.int i3), .val (.int r0), .val (.int r1), .val (.int r2), .val (.int (i0 &&& (3 : Int32))), .val (.ref an), .val (.ref ao), .val (.ref aw), .unset, .unset, .unset] [(.int (3 : Int32))]))
  obtain ⟨T110, h110, c110, X110, e110, E110, A110, st110⟩ := newP Y109 hx hZ (hw _ (List.mem_of_getElem? (i := 4) rfl)) e109 (g := (mkF m 54 #[.val (.int i0), .val (.int i1), .val (.int i2), .val (.int i3), .val (.int r0), .val (.int r1), .val (.int r2), .val (.int (i0 &&& (3 : Int32))), .val (.ref an), .val (.ref ao), .val (.ref aw), .unset, .unset, .unset] [(.int (3 : Int32))])) rfl (hb hby at_54) rfl (by decide) (cap := 3) (by decide) (by decide) (by decide) (by decide)
  obtain ⟨at3, g110⟩ : ∃ z, z = h109.size := ⟨_, rfl⟩
  rw [← g110] at A110 st110
  refine EndsK.go st110 ?_
  have V110_an := V109_an.ext E110
  have V110_ao := V109_ao.ext E110
  have V110_aw := V109.ext E110
  have V110 : Arv Z h110 at3 c110 .char (3 : Int32) [(.int (0 : Int32)), (.int (0 : Int32)), (.int (0 : Int32))] (.int (0 : Int32)) := (Arv.new A110 (by decide)).pad (pad_rep [] (.int (0 : Int32)) 3)
  have Y110 : Stand p l e room_1 s m #[(.int i0), (.int i1), (.int i2), (.int i3)] below meth c T110 [] 4 6 := X110
  have Z110 : n0 ≤ h110.size := Nat.le_trans Z109 E110.1
  have G110 : n0 ≤ at3 := by rw [g110]; exact Z109
  have P110 := ext_trans P109 E110
  have sz_at3 : h0.size ≤ at3 := by rw [g110]; exact P109.1
  have ne_an_at3 : an ≠ at3 := Nat.ne_of_lt (by rw [g110]; exact V109_an.lt)
  have ne_ao_at3 : ao ≠ at3 := Nat.ne_of_lt (by rw [g110]; exact V109_ao.lt)
  have ne_aw_at3 : aw ≠ at3 := Nat.ne_of_lt (by rw [g110]; exact V109.lt)
  show EndsK p e below _ (T110.setTop (mkF m 56 #[.val (.int i0), .val (.int i1), .val (.int i2), .val (.int i3), .val (.int r0), .val (.int r1), .val (.int r2), .val (.int (i0 &&& (3 : Int32))), .val (.ref an), .val (.ref ao), .val (.ref aw), .unset, .unset, .unset] [(.ref at3)]))
  refine EndsK.go (fun _ kz => XS.dup Y110.here hx rfl (hb hby at_56) rfl rfl kz) ?_
  show EndsK p e below _ (T110.setTop (mkF m 57 #[.val (.int i0), .val (.int i1), .val (.int i2), .val (.int i3), .val (.int r0), .val (.int r1), .val (.int r2), .val (.int (i0 &&& (3 : Int32))), .val (.ref an), .val (.ref ao), .val (.ref aw), .unset, .unset, .unset] [(.ref at3), (.ref at3)]))
  refine EndsK.go (fun _ kz => XS.iconst Y110.here hx rfl (hb hby at_57) kz) ?_
  show EndsK p e below _ (T110.setTop (mkF m 58 #[.val (.int i0), .val (.int i1), .val (.int i2), .val (.int i3), .val (.int r0), .val (.int r1), .val (.int r2), .val (.int (i0 &&& (3 : Int32))), .val (.ref an), .val (.ref ao), .val (.ref aw), .unset, .unset, .unset] [(.int (0 : Int32)), (.ref at3), (.ref at3)]))
  refine EndsK.go (fun _ kz => XS.iload Y110.here hx rfl (hb hby at_58) rfl kz) ?_
  show EndsK p e below _ (T110.setTop (mkF m 60 #[.val (.int i0), .val (.int i1), .val (.int i2), .val (.int i3), .val (.int r0), .val (.int r1), .val (.int r2), .val (.int (i0 &&& (3 : Int32))), .val (.ref an), .val (.ref ao), .val (.ref aw), .unset, .unset, .unset] [(.int r0), (.int (0 : Int32)), (.ref at3), (.ref at3)]))
  obtain ⟨c111, B111, q1111, Sz111, q3111, Hh111, Gh111⟩ := V110
  obtain ⟨T111, h111, X111, e111, W111, st111⟩ := stC Y110 hx hZ e110 B111 (j := (0 : Int32)) (inb_of Sz111 ⟨by decide, by decide⟩) (g := (mkF m 60 #[.val (.int i0), .val (.int i1), .val (.int i2), .val (.int i3), .val (.int r0), .val (.int r1), .val (.int r2), .val (.int (i0 &&& (3 : Int32))), .val (.ref an), .val (.ref ao), .val (.ref aw), .unset, .unset, .unset] [(.int r0), (.int (0 : Int32)), (.ref at3), (.ref at3)])) rfl rfl (hb hby at_60)
  have V111 : Arv Z h111 at3 c110 .char (3 : Int32) [(.int (nar .char r0)), (.int (0 : Int32)), (.int (0 : Int32))] (.int (0 : Int32)) := Arv.set B111 q1111 Sz111 q3111 Hh111 Gh111 (fits_nar_char _) W111 0 rfl (Nat.le_of_ble_eq_true rfl)
  refine EndsK.go st111 ?_
  have V111_an := V110_an.other W111 ne_an_at3
  have V111_ao := V110_ao.other W111 ne_ao_at3
  have V111_aw := V110_aw.other W111 ne_aw_at3
  have Z111 : n0 ≤ h111.size := Nat.le_trans Z110 (Nat.le_of_eq W111.size.symm)
  have P111 := ext_wr P110 W111 sz_at3
  have Y111 : Stand p l e room_1 s m #[(.int i0), (.int i1), (.int i2), (.int i3)] below meth c T111 [] 4 6 := (X111.dropFresh (fun xz hxz => by cases List.mem_singleton.mp hxz; rw [hh]; exact sz_at3)).mono (by decide) (by decide)
  show EndsK p e below _ (T111.setTop (mkF m 61 #[.val (.int i0), .val (.int i1), .val (.int i2), .val (.int i3), .val (.int r0), .val (.int r1), .val (.int r2), .val (.int (i0 &&& (3 : Int32))), .val (.ref an), .val (.ref ao), .val (.ref aw), .unset, .unset, .unset] [(.ref at3)]))
  refine EndsK.go (fun _ kz => XS.dup Y111.here hx rfl (hb hby at_61) rfl rfl kz) ?_
  show EndsK p e below _ (T111.setTop (mkF m 62 #[.val (.int i0), .val (.int i1), .val (.int i2), .val (.int i3), .val (.int r0), .val (.int r1), .val (.int r2), .val (.int (i0 &&& (3 : Int32))), .val (.ref an), .val (.ref ao), .val (.ref aw), .unset, .unset, .unset] [(.ref at3), (.ref at3)]))
  refine EndsK.go (fun _ kz => XS.iconst Y111.here hx rfl (hb hby at_62) kz) ?_
  show EndsK p e below _ (T111.setTop (mkF m 63 #[.val (.int i0), .val (.int i1), .val (.int i2), .val (.int i3), .val (.int r0), .val (.int r1), .val (.int r2), .val (.int (i0 &&& (3 : Int32))), .val (.ref an), .val (.ref ao), .val (.ref aw), .unset, .unset, .unset] [(.int (1 : Int32)), (.ref at3), (.ref at3)]))
  refine EndsK.go (fun _ kz => XS.iload Y111.here hx rfl (hb hby at_63) rfl kz) ?_
  show EndsK p e below _ (T111.setTop (mkF m 65 #[.val (.int i0), .val (.int i1), .val (.int i2), .val (.int i3), .val (.int r0), .val (.int r1), .val (.int r2), .val (.int (i0 &&& (3 : Int32))), .val (.ref an), .val (.ref ao), .val (.ref aw), .unset, .unset, .unset] [(.int r1), (.int (1 : Int32)), (.ref at3), (.ref at3)]))
  obtain ⟨c112, B112, q1112, Sz112, q3112, Hh112, Gh112⟩ := V111
  obtain ⟨T112, h112, X112, e112, W112, st112⟩ := stC Y111 hx hZ e111 B112 (j := (1 : Int32)) (inb_of Sz112 ⟨by decide, by decide⟩) (g := (mkF m 65 #[.val (.int i0), .val (.int i1), .val (.int i2), .val (.int i3), .val (.int r0), .val (.int r1), .val (.int r2), .val (.int (i0 &&& (3 : Int32))), .val (.ref an), .val (.ref ao), .val (.ref aw), .unset, .unset, .unset] [(.int r1), (.int (1 : Int32)), (.ref at3), (.ref at3)])) rfl rfl (hb hby at_65)
  have V112 : Arv Z h112 at3 c110 .char (3 : Int32) [(.int (nar .char r0)), (.int (nar .char r1)), (.int (0 : Int32))] (.int (0 : Int32)) := Arv.set B112 q1112 Sz112 q3112 Hh112 Gh112 (fits_nar_char _) W112 1 rfl (Nat.le_of_ble_eq_true rfl)
  refine EndsK.go st112 ?_
  have V112_an := V111_an.other W112 ne_an_at3
  have V112_ao := V111_ao.other W112 ne_ao_at3
  have V112_aw := V111_aw.other W112 ne_aw_at3
  have Z112 : n0 ≤ h112.size := Nat.le_trans Z111 (Nat.le_of_eq W112.size.symm)
  have P112 := ext_wr P111 W112 sz_at3
  have Y112 : Stand p l e room_1 s m #[(.int i0), (.int i1), (.int i2), (.int i3)] below meth c T112 [] 4 6 := (X112.dropFresh (fun xz hxz => by cases List.mem_singleton.mp hxz; rw [hh]; exact sz_at3)).mono (by decide) (by decide)
  show EndsK p e below _ (T112.setTop (mkF m 66 #[.val (.int i0), .val (.int i1), .val (.int i2), .val (.int i3), .val (.int r0), .val (.int r1), .val (.int r2), .val (.int (i0 &&& (3 : Int32))), .val (.ref an), .val (.ref ao), .val (.ref aw), .unset, .unset, .unset] [(.ref at3)]))
  refine EndsK.go (fun _ kz => XS.dup Y112.here hx rfl (hb hby at_66) rfl rfl kz) ?_
  show EndsK p e below _ (T112.setTop (mkF m 67 #[.val (.int i0), .val (.int i1), .val (.int i2), .val (.int i3), .val (.int r0), .val (.int r1), .val (.int r2), .val (.int (i0 &&& (3 : Int32))), .val (.ref an), .val (.ref ao), .val (.ref aw), .unset, .unset, .unset] [(.ref at3), (.ref at3)]))
  refine EndsK.go (fun _ kz => XS.iconst Y112.here hx rfl (hb hby at_67) kz) ?_
  show EndsK p e below _ (T112.setTop (mkF m 68 #[.val (.int i0), .val (.int i1), .val (.int i2), .val (.int i3), .val (.int r0), .val (.int r1), .val (.int r2), .val (.int (i0 &&& (3 : Int32))), .val (.ref an), .val (.ref ao), .val (.ref aw), .unset, .unset, .unset] [(.int (2 : Int32)), (.ref at3), (.ref at3)]))
  refine EndsK.go (fun _ kz => XS.iload Y112.here hx rfl (hb hby at_68) rfl kz) ?_
  show EndsK p e below _ (T112.setTop (mkF m 70 #[.val (.int i0), .val (.int i1), .val (.int i2), .val (.int i3), .val (.int r0), .val (.int r1), .val (.int r2), .val (.int (i0 &&& (3 : Int32))), .val (.ref an), .val (.ref ao), .val (.ref aw), .unset, .unset, .unset] [(.int r2), (.int (2 : Int32)), (.ref at3), (.ref at3)]))
  obtain ⟨c113, B113, q1113, Sz113, q3113, Hh113, Gh113⟩ := V112
  obtain ⟨T113, h113, X113, e113, W113, st113⟩ := stC Y112 hx hZ e112 B113 (j := (2 : Int32)) (inb_of Sz113 ⟨by decide, by decide⟩) (g := (mkF m 70 #[.val (.int i0), .val (.int i1), .val (.int i2), .val (.int i3), .val (.int r0), .val (.int r1), .val (.int r2), .val (.int (i0 &&& (3 : Int32))), .val (.ref an), .val (.ref ao), .val (.ref aw), .unset, .unset, .unset] [(.int r2), (.int (2 : Int32)), (.ref at3), (.ref at3)])) rfl rfl (hb hby at_70)
  have V113 : Arv Z h113 at3 c110 .char (3 : Int32) [(.int (nar .char r0)), (.int (nar .char r1)), (.int (nar .char r2))] (.int (0 : Int32)) := Arv.set B113 q1113 Sz113 q3113 Hh113 Gh113 (fits_nar_char _) W113 2 rfl (Nat.le_of_ble_eq_true rfl)
  refine EndsK.go st113 ?_
  have V113_an := V112_an.other W113 ne_an_at3
  have V113_ao := V112_ao.other W113 ne_ao_at3
  have V113_aw := V112_aw.other W113 ne_aw_at3
  have Z113 : n0 ≤ h113.size := Nat.le_trans Z112 (Nat.le_of_eq W113.size.symm)
  have P113 := ext_wr P112 W113 sz_at3
  have Y113 : Stand p l e room_1 s m #[(.int i0), (.int i1), (.int i2), (.int i3)] below meth c T113 [] 4 6 := (X113.dropFresh (fun xz hxz => by cases List.mem_singleton.mp hxz; rw [hh]; exact sz_at3)).mono (by decide) (by decide)
  show EndsK p e below _ (T113.setTop (mkF m 71 #[.val (.int i0), .val (.int i1), .val (.int i2), .val (.int i3), .val (.int r0), .val (.int r1), .val (.int r2), .val (.int (i0 &&& (3 : Int32))), .val (.ref an), .val (.ref ao), .val (.ref aw), .unset, .unset, .unset] [(.ref at3)]))
  refine EndsK.go (fun _ kz => XS.astore Y113.here hx rfl (hb hby at_71) rfl rfl (l' := #[.val (.int i0), .val (.int i1), .val (.int i2), .val (.int i3), .val (.int r0), .val (.int r1), .val (.int r2), .val (.int (i0 &&& (3 : Int32))), .val (.ref an), .val (.ref ao), .val (.ref aw), .val (.ref at3), .unset, .unset]) rfl kz) ?_
  show EndsK p e below _ (T113.setTop (mkF m 73 #[.val (.int i0), .val (.int i1), .val (.int i2), .val (.int i3), .val (.int r0), .val (.int r1), .val (.int r2), .val (.int (i0 &&& (3 : Int32))), .val (.ref an), .val (.ref ao), .val (.ref aw), .val (.ref at3), .unset, .unset] []))
  refine EndsK.go (fun _ kz => XS.iload Y113.here hx rfl (hb hby at_73) rfl kz) ?_
  show EndsK p e below _ (T113.setTop (mkF m 75 #[.val (.int i0), .val (.int i1), .val (.int i2), .val (.int i3), .val (.int r0), .val (.int r1), .val (.int r2), .val (.int (i0 &&& (3 : Int32))), .val (.ref an), .val (.ref ao), .val (.ref aw), .val (.ref at3), .unset, .unset] [(.int (i0 &&& (3 : Int32)))]))
  by_cases H75_114 : (i0 &&& (3 : Int32)) = (0 : Int32)
  · refine EndsK.go (fun _ kz => XS.ifNo Y113.here hx rfl (hb hby at_75) rfl ((if0 _ _).trans (teq H75_114).2) kz) ?_
    show EndsK p e below _ (T113.setTop (mkF m 78 #[.val (.int i0), .val (.int i1), .val (.int i2), .val (.int i3), .val (.int r0), .val (.int r1), .val (.int r2), .val (.int (i0 &&& (3 : Int32))), .val (.ref an), .val (.ref ao), .val (.ref aw), .val (.ref at3), .unset, .unset] []))
    obtain ⟨T115, h115, X115, e115, E115, A115, D115, -, st115⟩ := newO Y113 hx hZ hown (hw _ (List.mem_of_getElem? (i := 5) rfl)) (hw _ (List.mem_of_getElem? (i := 6) rfl)) (hw _ (List.mem_of_getElem? (i := 7) rfl)) e113 (g := (mkF m 78 #[.val (.int i0), .val (.int i1), .val (.int i2), .val (.int i3), .val (.int r0), .val (.int r1), .val (.int r2), .val (.int (i0 &&& (3 : Int32))), .val (.ref an), .val (.ref ao), .val (.ref aw), .val (.ref at3), .unset, .unset] [])) rfl (hb hby at_78) (by decide) (by decide)
    obtain ⟨x0, g115⟩ : ∃ z, z = h113.size := ⟨_, rfl⟩
    rw [← g115] at A115 D115 st115
    refine EndsK.go st115 ?_
    have V115_an := V113_an.ext E115
    have V115_ao := V113_ao.ext E115
    have V115_aw := V113_aw.ext E115
    have V115_at3 := V113.ext E115
    have F115_value : Fld Z h115 x0 "java/lang/String" "value" "[B" .null := D115 (Or.inr (hw _ (List.mem_of_getElem? (i := 20) rfl))) (ty := (.array .byte)) (by decide)
    have F115_coder : Fld Z h115 x0 "java/lang/String" "coder" "B" (.int (0 : Int32)) := D115 (Or.inr (hw _ (List.mem_of_getElem? (i := 21) rfl))) (ty := .byte) (by decide)
    have Z115 : n0 ≤ h115.size := Nat.le_trans Z113 E115.1
    have G115 : n0 ≤ x0 := by rw [g115]; exact Z113
    have P115 := ext_trans P113 E115
    have sz_x0 : h0.size ≤ x0 := by rw [g115]; exact P113.1
    have ne_an_x0 : an ≠ x0 := Nat.ne_of_lt (by rw [g115]; exact V113_an.lt)
    have ne_ao_x0 : ao ≠ x0 := Nat.ne_of_lt (by rw [g115]; exact V113_ao.lt)
    have ne_aw_x0 : aw ≠ x0 := Nat.ne_of_lt (by rw [g115]; exact V113_aw.lt)
    have ne_at3_x0 : at3 ≠ x0 := Nat.ne_of_lt (by rw [g115]; exact V113.lt)
    show EndsK p e below _ (T115.setTop (mkF m 81 #[.val (.int i0), .val (.int i1), .val (.int i2), .val (.int i3), .val (.int r0), .val (.int r1), .val (.int r2), .val (.int (i0 &&& (3 : Int32))), .val (.ref an), .val (.ref ao), .val (.ref aw), .val (.ref at3), .unset, .unset] [(.ref x0)]))
    refine EndsK.go (fun _ kz => XS.dup X115.here hx rfl (hb hby at_81) rfl rfl kz) ?_
    show EndsK p e below _ (T115.setTop (mkF m 82 #[.val (.int i0), .val (.int i1), .val (.int i2), .val (.int i3), .val (.int r0), .val (.int r1), .val (.int r2), .val (.int (i0 &&& (3 : Int32))), .val (.ref an), .val (.ref ao), .val (.ref aw), .val (.ref at3), .unset, .unset] [(.ref x0), (.ref x0)]))
    refine EndsK.go (fun _ kz => XS.aload X115.here hx rfl (hb hby at_82) rfl rfl kz) ?_
    show EndsK p e below _ (T115.setTop (mkF m 84 #[.val (.int i0), .val (.int i1), .val (.int i2), .val (.int i3), .val (.int r0), .val (.int r1), .val (.int r2), .val (.int (i0 &&& (3 : Int32))), .val (.ref an), .val (.ref ao), .val (.ref aw), .val (.ref at3), .unset, .unset] [(.ref an), (.ref x0), (.ref x0)]))
    obtain ⟨cz, ABz, -, Szz, -⟩ := V115_an
    have hSf := Safe.ext P115 hCH (Safe.new (x := x0) sz_x0)
    have hCH := hCH.ext P115
    obtain ⟨_, _, ⟨T116, L116, k116, n116⟩, -, X116, hS, gr116, ⟨Lc116, hQ116, l116, y116, z116⟩, st116⟩ := X115.specialBackS hx (y := (⟨"java/lang/String", "<init>", "([C)V"⟩ : MethodName)) rfl hown (mvT hZ (hw _ (List.mem_of_getElem? (i := 8) rfl))) (mvT hZ (hw _ (List.mem_of_getElem? (i := 9) rfl))) (mvT hZ (hw _ (List.mem_of_getElem? (i := 10) rfl))) (by decide) (backOfK (W := 1) (rm_i1 l Z a0 hw [] x0 an cz .null (.int (0 : Int32)) h115 n0 Z115 G115 A115 F115_value F115_coder ABz (by rw [Szz]; rfl)) hZ (hw _ (List.mem_of_getElem? (i := 10) rfl)) (hw _ (List.mem_of_getElem? (i := 7) rfl)) (by decide) (by decide) hEL hCH A115.lt hSf) (g := (mkF m 84 #[.val (.int i0), .val (.int i1), .val (.int i2), .val (.int i3), .val (.int r0), .val (.int r1), .val (.int r2), .val (.int (i0 &&& (3 : Int32))), .val (.ref an), .val (.ref ao), .val (.ref aw), .val (.ref at3), .unset, .unset] [(.ref an), (.ref x0), (.ref x0)])) rfl (by rw [hml]; rfl) (Steps.refl _) (a := x0) (argsL := [(.ref an)]) (rest := [(.ref x0)]) (lenOf pd5 rfl) rfl (by show 2 * 0 + _ ≤ _; exact Nat.le_of_eq rfl) (hb hby at_84) (fun _ _ => ⟨rfl, e115, (by decide : 4 + 1 + 4 ≤ _), (by decide : 6 + 4 + 8 ≤ _)⟩)
    dsimp only [Pt.U, Pt.locs, Pt.cells, Pt.slots] at X116 hS gr116 l116 y116 z116 st116 hQ116
    subst l116 y116 z116
    refine EndsK.tr st116 ?_
    obtain ⟨rfl, N116, K116, Ex116, Fc116, vb116, kb116, Fv116, Av116⟩ := hQ116
    have hZ : Z.Warmed39 (s.setVm T116.vm).vm := State.Warmed39.trans hZ hS.1
    have hown : (s.setVm T116.vm).vm.findClass "com/example/windrow/windrow/ComparisonOfPinLaw" = some m.cls := (hS.1.alike.findClass _ _).trans hown
    obtain ⟨h116, e116⟩ : ∃ z, T116.heap = z := ⟨_, rfl⟩
    rw [e116] at K116 Ex116 Fc116 Fv116 Av116
    obtain ⟨cb116, Ab116, -, Sz116, -, Hb116, -⟩ := Av116
    have hk : T116.heap.size ≤ h116.size := Nat.le_of_eq (congrArg Array.size e116)
    have Y116 : Stand p l e room_1 (s.setVm T116.vm) m #[(.int i0), (.int i1), (.int i2), (.int i3)] below meth c T116 [] 12 40 := (X116.dropFresh (fun xz hxz => by have q := N116 xz hxz; rw [hn0, ← hh] at q; exact q)).mono (by decide) (by decide)
    have P116 : Ext h0 h116 := ext_kept P115 K116 (allS sz_x0 all0)
    have Z116 : n0 ≤ h116.size := Nat.le_trans Z0 P116.1
    show EndsK p e below _ (T116.setTop (mkF m 87 #[.val (.int i0), .val (.int i1), .val (.int i2), .val (.int i3), .val (.int r0), .val (.int r1), .val (.int r2), .val (.int (i0 &&& (3 : Int32))), .val (.ref an), .val (.ref ao), .val (.ref aw), .val (.ref at3), .unset, .unset] [(.ref x0)]))
    refine EndsK.go (fun _ kz => XS.astore Y116.here hx rfl (hb hby at_87) rfl rfl (l' := #[.val (.int i0), .val (.int i1), .val (.int i2), .val (.int i3), .val (.int r0), .val (.int r1), .val (.int r2), .val (.int (i0 &&& (3 : Int32))), .val (.ref an), .val (.ref ao), .val (.ref aw), .val (.ref at3), .val (.ref x0), .unset]) rfl kz) ?_
    show EndsK p e below _ (T116.setTop (mkF m 89 #[.val (.int i0), .val (.int i1), .val (.int i2), .val (.int i3), .val (.int r0), .val (.int r1), .val (.int r2), .val (.int (i0 &&& (3 : Int32))), .val (.ref an), .val (.ref ao), .val (.ref aw), .val (.ref at3), .val (.ref x0), .unset] []))
    refine EndsK.go (fun _ kz => XS.goto Y116.here hx rfl (pc0 := 89) (pc' := 143) rfl (hb hby at_89) (by decide) (by decide) kz) ?_
    show EndsK p e below _ (T116.setTop (mkF m 143 #[.val (.int i0), .val (.int i1), .val (.int i2), .val (.int i3), .val (.int r0), .val (.int r1), .val (.int r2), .val (.int (i0 &&& (3 : Int32))), .val (.ref an), .val (.ref ao), .val (.ref aw), .val (.ref at3), .val (.ref x0), .unset] []))
    refine EndsK.go (fun _ kz => XS.iloadN Y116.here hx rfl (hb hby at_143) rfl kz) ?_
    show EndsK p e below _ (T116.setTop (mkF m 144 #[.val (.int i0), .val (.int i1), .val (.int i2), .val (.int i3), .val (.int r0), .val (.int r1), .val (.int r2), .val (.int (i0 &&& (3 : Int32))), .val (.ref an), .val (.ref ao), .val (.ref aw), .val (.ref at3), .val (.ref x0), .unset] [(.int i0)]))
    refine EndsK.go (fun _ kz => XS.iconst Y116.here hx rfl (hb hby at_144) kz) ?_
    show EndsK p e below _ (T116.setTop (mkF m 145 #[.val (.int i0), .val (.int i1), .val (.int i2), .val (.int i3), .val (.int r0), .val (.int r1), .val (.int r2), .val (.int (i0 &&& (3 : Int32))), .val (.ref an), .val (.ref ao), .val (.ref aw), .val (.ref at3), .val (.ref x0), .unset] [(.int (4 : Int32)), (.int i0)]))
    refine EndsK.go (fun _ kz => XS.iand Y116.here hx rfl (hb hby at_145) rfl kz) ?_
    show EndsK p e below _ (T116.setTop (mkF m 146 #[.val (.int i0), .val (.int i1), .val (.int i2), .val (.int i3), .val (.int r0), .val (.int r1), .val (.int r2), .val (.int (i0 &&& (3 : Int32))), .val (.ref an), .val (.ref ao), .val (.ref aw), .val (.ref at3), .val (.ref x0), .unset] [(.int (i0 &&& (4 : Int32)))]))
    by_cases H146_117 : (i0 &&& (4 : Int32)) = (0 : Int32)
    · refine EndsK.go (fun _ kz => XS.ifYes Y116.here hx rfl (pc0 := 146) (pc' := 157) rfl (hb hby at_146) rfl ((if0 _ _).trans (teq H146_117).1) (by decide) (by decide) kz) ?_
      show EndsK p e below _ (T116.setTop (mkF m 157 #[.val (.int i0), .val (.int i1), .val (.int i2), .val (.int i3), .val (.int r0), .val (.int r1), .val (.int r2), .val (.int (i0 &&& (3 : Int32))), .val (.ref an), .val (.ref ao), .val (.ref aw), .val (.ref at3), .val (.ref x0), .unset] []))
      refine EndsK.go (fun _ kz => XS.aconstNull Y116.here hx rfl (hb hby at_157) kz) ?_
      show EndsK p e below _ (T116.setTop (mkF m 158 #[.val (.int i0), .val (.int i1), .val (.int i2), .val (.int i3), .val (.int r0), .val (.int r1), .val (.int r2), .val (.int (i0 &&& (3 : Int32))), .val (.ref an), .val (.ref ao), .val (.ref aw), .val (.ref at3), .val (.ref x0), .unset] [.null]))
      refine EndsK.go (fun _ kz => XS.astore Y116.here hx rfl (hb hby at_158) rfl rfl (l' := #[.val (.int i0), .val (.int i1), .val (.int i2), .val (.int i3), .val (.int r0), .val (.int r1), .val (.int r2), .val (.int (i0 &&& (3 : Int32))), .val (.ref an), .val (.ref ao), .val (.ref aw), .val (.ref at3), .val (.ref x0), .val .null]) rfl kz) ?_
      show EndsK p e below _ (T116.setTop (mkF m 160 #[.val (.int i0), .val (.int i1), .val (.int i2), .val (.int i3), .val (.int r0), .val (.int r1), .val (.int r2), .val (.int (i0 &&& (3 : Int32))), .val (.ref an), .val (.ref ao), .val (.ref aw), .val (.ref at3), .val (.ref x0), .val .null] []))
      refine EndsK.go (fun _ kz => XS.aload Y116.here hx rfl (hb hby at_160) rfl rfl kz) ?_
      show EndsK p e below _ (T116.setTop (mkF m 162 #[.val (.int i0), .val (.int i1), .val (.int i2), .val (.int i3), .val (.int r0), .val (.int r1), .val (.int r2), .val (.int (i0 &&& (3 : Int32))), .val (.ref an), .val (.ref ao), .val (.ref aw), .val (.ref at3), .val (.ref x0), .val .null] [(.ref x0)]))
      refine EndsK.go (fun _ kz => XS.ifnullNo Y116.here hx rfl (hb hby at_162) rfl kz) ?_
      show EndsK p e below _ (T116.setTop (mkF m 165 #[.val (.int i0), .val (.int i1), .val (.int i2), .val (.int i3), .val (.int r0), .val (.int r1), .val (.int r2), .val (.int (i0 &&& (3 : Int32))), .val (.ref an), .val (.ref ao), .val (.ref aw), .val (.ref at3), .val (.ref x0), .val .null] []))
      refine EndsK.go (fun _ kz => XS.iload Y116.here hx rfl (hb hby at_165) rfl kz) ?_
      show EndsK p e below _ (T116.setTop (mkF m 167 #[.val (.int i0), .val (.int i1), .val (.int i2), .val (.int i3), .val (.int r0), .val (.int r1), .val (.int r2), .val (.int (i0 &&& (3 : Int32))), .val (.ref an), .val (.ref ao), .val (.ref aw), .val (.ref at3), .val (.ref x0), .val .null] [(.int (i0 &&& (3 : Int32)))]))
      refine EndsK.go (fun _ kz => XS.iconst Y116.here hx rfl (hb hby at_167) kz) ?_
      show EndsK p e below _ (T116.setTop (mkF m 168 #[.val (.int i0), .val (.int i1), .val (.int i2), .val (.int i3), .val (.int r0), .val (.int r1), .val (.int r2), .val (.int (i0 &&& (3 : Int32))), .val (.ref an), .val (.ref ao), .val (.ref aw), .val (.ref at3), .val (.ref x0), .val .null] [(.int (1 : Int32)), (.int (i0 &&& (3 : Int32)))]))
      refine EndsK.go (fun _ kz => XS.icmpYes Y116.here hx rfl (pc0 := 168) (pc' := 216) rfl (hb hby at_168) rfl (feq (by rw [H75_114]; decide : ¬ ((i0 &&& (3 : Int32)) = (1 : Int32)))).2 (by decide) (by decide) kz) ?_
      show EndsK p e below _ (T116.setTop (mkF m 216 #[.val (.int i0), .val (.int i1), .val (.int i2), .val (.int i3), .val (.int r0), .val (.int r1), .val (.int r2), .val (.int (i0 &&& (3 : Int32))), .val (.ref an), .val (.ref ao), .val (.ref aw), .val (.ref at3), .val (.ref x0), .val .null] []))
      refine EndsK.go (fun _ kz => XS.iload Y116.here hx rfl (hb hby at_216) rfl kz) ?_
      show EndsK p e below _ (T116.setTop (mkF m 218 #[.val (.int i0), .val (.int i1), .val (.int i2), .val (.int i3), .val (.int r0), .val (.int r1), .val (.int r2), .val (.int (i0 &&& (3 : Int32))), .val (.ref an), .val (.ref ao), .val (.ref aw), .val (.ref at3), .val (.ref x0), .val .null] [(.int (i0 &&& (3 : Int32)))]))
      refine EndsK.go (fun _ kz => XS.iconst Y116.here hx rfl (hb hby at_218) kz) ?_
      show EndsK p e below _ (T116.setTop (mkF m 219 #[.val (.int i0), .val (.int i1), .val (.int i2), .val (.int i3), .val (.int r0), .val (.int r1), .val (.int r2), .val (.int (i0 &&& (3 : Int32))), .val (.ref an), .val (.ref ao), .val (.ref aw), .val (.ref at3), .val (.ref x0), .val .null] [(.int (2 : Int32)), (.int (i0 &&& (3 : Int32)))]))
      refine EndsK.go (fun _ kz => XS.icmpYes Y116.here hx rfl (pc0 := 219) (pc' := 271) rfl (hb hby at_219) rfl (feq (by rw [H75_114]; decide : ¬ ((i0 &&& (3 : Int32)) = (2 : Int32)))).2 (by decide) (by decide) kz) ?_
      show EndsK p e below _ (T116.setTop (mkF m 271 #[.val (.int i0), .val (.int i1), .val (.int i2), .val (.int i3), .val (.int r0), .val (.int r1), .val (.int r2), .val (.int (i0 &&& (3 : Int32))), .val (.ref an), .val (.ref ao), .val (.ref aw), .val (.ref at3), .val (.ref x0), .val .null] []))
      refine EndsK.go (fun _ kz => XS.aload Y116.here hx rfl (hb hby at_271) rfl rfl kz) ?_
      show EndsK p e below _ (T116.setTop (mkF m 273 #[.val (.int i0), .val (.int i1), .val (.int i2), .val (.int i3), .val (.int r0), .val (.int r1), .val (.int r2), .val (.int (i0 &&& (3 : Int32))), .val (.ref an), .val (.ref ao), .val (.ref aw), .val (.ref at3), .val (.ref x0), .val .null] [(.ref x0)]))
      have hof : ofL [((0 : Int32), .ref b0), ((0 : Int32), .ref b1), ((0 : Int32), .ref b2), ((0 : Int32), .ref b3), ((0 : Int32), .ref b4), ((0 : Int32), .ref b5)] = .null := by simp [ofL]
      obtain ⟨_, _, ⟨T118, L118, k118, n118⟩, -, X118, ⟨Lc118, hQ118, l118, y118, z118⟩, st118⟩ := Jvm.LawKit.callS Y116 hx (y := (⟨"com/example/windrow/windrow/Condition$Comparison", "of", "(Ljava/lang/String;)Lcom/example/windrow/windrow/Condition$Comparison;"⟩ : MethodName)) hown (mvT hZ (hw _ (List.mem_of_getElem? (i := 26) rfl))) (mvT hZ (hw _ (List.mem_of_getElem? (i := 27) rfl))) (mvT hZ (hw _ (List.mem_of_getElem? (i := 28) rfl))) (mvT hZ (hw _ (List.mem_of_getElem? (i := 29) rfl))) (by decide) (backOf (W := 0) (rm_of0 l Z a0 hw [] x0 vb116 cb116 zc  av cv b0 b1 b2 b3 b4 b5 s0 s1 s2 s3 s4 s5 v0 v1 v2 v3 v4 v5 c0 c1 c2 c3 c4 c5 h116 n0 Z116 (fun q => absurd Es0.lt (by rw [q]; exact Nat.not_lt.mpr sz_x0)) (fun q => absurd Es1.lt (by rw [q]; exact Nat.not_lt.mpr sz_x0)) (fun q => absurd Es2.lt (by rw [q]; exact Nat.not_lt.mpr sz_x0)) (fun q => absurd Es3.lt (by rw [q]; exact Nat.not_lt.mpr sz_x0)) (fun q => absurd Es4.lt (by rw [q]; exact Nat.not_lt.mpr sz_x0)) (fun q => absurd Es5.lt (by rw [q]; exact Nat.not_lt.mpr sz_x0)) Ex116 Fc116 Fv116 (SC.ext P116) hzc Ab116 (by rw [Sz116]; rfl)  (SV.ext P116) (AV.ext P116) (EV.ext P116) FV hsz w0 (Fb0.ext P116) (Es0.ext P116) (Fc0.ext P116) (Fv0.ext P116) (Av0.ext P116) zv0 uv0_0 w1 (Fb1.ext P116) (Es1.ext P116) (Fc1.ext P116) (Fv1.ext P116) (Av1.ext P116) zv1 uv1_0 uv1_1 w2 (Fb2.ext P116) (Es2.ext P116) (Fc2.ext P116) (Fv2.ext P116) (Av2.ext P116) zv2 uv2_0 w3 (Fb3.ext P116) (Es3.ext P116) (Fc3.ext P116) (Fv3.ext P116) (Av3.ext P116) zv3 uv3_0 uv3_1 w4 (Fb4.ext P116) (Es4.ext P116) (Fc4.ext P116) (Fv4.ext P116) (Av4.ext P116) zv4 uv4_0 w5 (Fb5.ext P116) (Es5.ext P116) (Fc5.ext P116) (Fv5.ext P116) (Av5.ext P116) zv5 uv5_0 uv5_1) hZ (hw _ (List.mem_of_getElem? (i := 29) rfl)) (hw _ (List.mem_of_getElem? (i := 28) rfl)) (by decide) (by decide)) (g := (mkF m 273 #[.val (.int i0), .val (.int i1), .val (.int i2), .val (.int i3), .val (.int r0), .val (.int r1), .val (.int r2), .val (.int (i0 &&& (3 : Int32))), .val (.ref an), .val (.ref ao), .val (.ref aw), .val (.ref at3), .val (.ref x0), .val .null] [(.ref x0)])) rfl (by rw [hml]; rfl) (argsL := [(.ref x0)]) (rest := []) (lenOf pd6 rfl) rfl (by show 2 * 0 + _ ≤ _; exact Nat.le_of_eq rfl) (hb hby at_273) (fun _ _ => ⟨rfl, e116, (by decide : 12 + 1 ≤ _), (by decide : 40 + 6 ≤ _)⟩)
      dsimp only [Pt.U, Pt.locs, Pt.cells, Pt.slots] at X118 l118 y118 z118 st118 hQ118
      subst l118 y118 z118
      obtain ⟨hv118, N118, E118⟩ := hQ118
      rw [hof] at hv118
      subst hv118
      have M118 := Fr.app N0 N118
      refine EndsK.go st118 ?_
      have hk := Nat.le_trans hk E118.1
      show EndsK p e below _ (T118.setTop (mkF m 276 #[.val (.int i0), .val (.int i1), .val (.int i2), .val (.int i3), .val (.int r0), .val (.int r1), .val (.int r2), .val (.int (i0 &&& (3 : Int32))), .val (.ref an), .val (.ref ao), .val (.ref aw), .val (.ref at3), .val (.ref x0), .val .null] [.null]))
      refine EndsK.go (fun _ kz => XS.aload X118.here hx rfl (hb hby at_276) rfl rfl kz) ?_
      show EndsK p e below _ (T118.setTop (mkF m 278 #[.val (.int i0), .val (.int i1), .val (.int i2), .val (.int i3), .val (.int r0), .val (.int r1), .val (.int r2), .val (.int (i0 &&& (3 : Int32))), .val (.ref an), .val (.ref ao), .val (.ref aw), .val (.ref at3), .val (.ref x0), .val .null] [.null, .null]))
      refine EndsK.go (fun _ kz => Jvm.RoadKit.acmp (g := (mkF m 278 #[.val (.int i0), .val (.int i1), .val (.int i2), .val (.int i3), .val (.int r0), .val (.int r1), .val (.int r2), .val (.int (i0 &&& (3 : Int32))), .val (.ref an), .val (.ref ao), .val (.ref aw), .val (.ref at3), .val (.ref x0), .val .null] [.null, .null])) X118 hx rfl rfl rfl (pc0 := 278) (pc' := 281) (same := true) rfl (hb hby at_278) rfl (decide_eq_true rfl) (by decide) (by decide) kz) ?_
      show EndsK p e below _ (T118.setTop (mkF m 281 #[.val (.int i0), .val (.int i1), .val (.int i2), .val (.int i3), .val (.int r0), .val (.int r1), .val (.int r2), .val (.int (i0 &&& (3 : Int32))), .val (.ref an), .val (.ref ao), .val (.ref aw), .val (.ref at3), .val (.ref x0), .val .null] []))
      refine EndsK.go (fun _ kz => XS.iconst X118.here hx rfl (hb hby at_281) kz) ?_
      show EndsK p e below _ (T118.setTop (mkF m 282 #[.val (.int i0), .val (.int i1), .val (.int i2), .val (.int i3), .val (.int r0), .val (.int r1), .val (.int r2), .val (.int (i0 &&& (3 : Int32))), .val (.ref an), .val (.ref ao), .val (.ref aw), .val (.ref at3), .val (.ref x0), .val .null] [(.int (1 : Int32))]))
      refine EndsK.go (fun _ kz => XS.goto X118.here hx rfl (pc0 := 282) (pc' := 286) rfl (hb hby at_282) (by decide) (by decide) kz) ?_
      show EndsK p e below _ (T118.setTop (mkF m 286 #[.val (.int i0), .val (.int i1), .val (.int i2), .val (.int i3), .val (.int r0), .val (.int r1), .val (.int r2), .val (.int (i0 &&& (3 : Int32))), .val (.ref an), .val (.ref ao), .val (.ref aw), .val (.ref at3), .val (.ref x0), .val .null] [(.int (1 : Int32))]))
      exact endNW X118 hS hk hx (t := .boolean) Bd.returns (by simp) (hb hby at_286) hlk ⟨rfl, M118⟩ (by decide) (by decide)
    · refine EndsK.go (fun _ kz => XS.ifNo Y116.here hx rfl (hb hby at_146) rfl ((if0 _ _).trans (feq H146_117).1) kz) ?_
      show EndsK p e below _ (T116.setTop (mkF m 149 #[.val (.int i0), .val (.int i1), .val (.int i2), .val (.int i3), .val (.int r0), .val (.int r1), .val (.int r2), .val (.int (i0 &&& (3 : Int32))), .val (.ref an), .val (.ref ao), .val (.ref aw), .val (.ref at3), .val (.ref x0), .unset] []))
      refine EndsK.go (fun _ kz => XS.iload Y116.here hx rfl (hb hby at_149) rfl kz) ?_
      show EndsK p e below _ (T116.setTop (mkF m 151 #[.val (.int i0), .val (.int i1), .val (.int i2), .val (.int i3), .val (.int r0), .val (.int r1), .val (.int r2), .val (.int (i0 &&& (3 : Int32))), .val (.ref an), .val (.ref ao), .val (.ref aw), .val (.ref at3), .val (.ref x0), .unset] [(.int (i0 &&& (3 : Int32)))]))
      refine EndsK.go (fun _ kz => XS.ifNo Y116.here hx rfl (hb hby at_151) rfl ((if0 _ _).trans (teq H75_114).2) kz) ?_
      show EndsK p e below _ (T116.setTop (mkF m 154 #[.val (.int i0), .val (.int i1), .val (.int i2), .val (.int i3), .val (.int r0), .val (.int r1), .val (.int r2), .val (.int (i0 &&& (3 : Int32))), .val (.ref an), .val (.ref ao), .val (.ref aw), .val (.ref at3), .val (.ref x0), .unset] []))
      refine EndsK.go (fun _ kz => XS.aconstNull Y116.here hx rfl (hb hby at_154) kz) ?_
      show EndsK p e below _ (T116.setTop (mkF m 155 #[.val (.int i0), .val (.int i1), .val (.int i2), .val (.int i3), .val (.int r0), .val (.int r1), .val (.int r2), .val (.int (i0 &&& (3 : Int32))), .val (.ref an), .val (.ref ao), .val (.ref aw), .val (.ref at3), .val (.ref x0), .unset] [.null]))
      refine EndsK.go (fun _ kz => XS.astore Y116.here hx rfl (hb hby at_155) rfl rfl (l' := #[.val (.int i0), .val (.int i1), .val (.int i2), .val (.int i3), .val (.int r0), .val (.int r1), .val (.int r2), .val (.int (i0 &&& (3 : Int32))), .val (.ref an), .val (.ref ao), .val (.ref aw), .val (.ref at3), .val .null, .unset]) rfl kz) ?_
      show EndsK p e below _ (T116.setTop (mkF m 157 #[.val (.int i0), .val (.int i1), .val (.int i2), .val (.int i3), .val (.int r0), .val (.int r1), .val (.int r2), .val (.int (i0 &&& (3 : Int32))), .val (.ref an), .val (.ref ao), .val (.ref aw), .val (.ref at3), .val .null, .unset] []))
      refine EndsK.go (fun _ kz => XS.aconstNull Y116.here hx rfl (hb hby at_157) kz) ?_
      show EndsK p e below _ (T116.setTop (mkF m 158 #[.val (.int i0), .val (.int i1), .val (.int i2), .val (.int i3), .val (.int r0), .val (.int r1), .val (.int r2), .val (.int (i0 &&& (3 : Int32))), .val (.ref an), .val (.ref ao), .val (.ref aw), .val (.ref at3), .val .null, .unset] [.null]))
      refine EndsK.go (fun _ kz => XS.astore Y116.here hx rfl (hb hby at_158) rfl rfl (l' := #[.val (.int i0), .val (.int i1), .val (.int i2), .val (.int i3), .val (.int r0), .val (.int r1), .val (.int r2), .val (.int (i0 &&& (3 : Int32))), .val (.ref an), .val (.ref ao), .val (.ref aw), .val (.ref at3), .val .null, .val .null]) rfl kz) ?_
      show EndsK p e below _ (T116.setTop (mkF m 160 #[.val (.int i0), .val (.int i1), .val (.int i2), .val (.int i3), .val (.int r0), .val (.int r1), .val (.int r2), .val (.int (i0 &&& (3 : Int32))), .val (.ref an), .val (.ref ao), .val (.ref aw), .val (.ref at3), .val .null, .val .null] []))
      refine EndsK.go (fun _ kz => XS.aload Y116.here hx rfl (hb hby at_160) rfl rfl kz) ?_
      show EndsK p e below _ (T116.setTop (mkF m 162 #[.val (.int i0), .val (.int i1), .val (.int i2), .val (.int i3), .val (.int r0), .val (.int r1), .val (.int r2), .val (.int (i0 &&& (3 : Int32))), .val (.ref an), .val (.ref ao), .val (.ref aw), .val (.ref at3), .val .null, .val .null] [.null]))
      refine EndsK.go (fun _ kz => XS.ifnullYes Y116.here hx rfl (pc0 := 162) (pc' := 271) rfl (hb hby at_162) rfl (by decide) (by decide) kz) ?_
      show EndsK p e below _ (T116.setTop (mkF m 271 #[.val (.int i0), .val (.int i1), .val (.int i2), .val (.int i3), .val (.int r0), .val (.int r1), .val (.int r2), .val (.int (i0 &&& (3 : Int32))), .val (.ref an), .val (.ref ao), .val (.ref aw), .val (.ref at3), .val .null, .val .null] []))
      refine EndsK.go (fun _ kz => XS.aload Y116.here hx rfl (hb hby at_271) rfl rfl kz) ?_
      show EndsK p e below _ (T116.setTop (mkF m 273 #[.val (.int i0), .val (.int i1), .val (.int i2), .val (.int i3), .val (.int r0), .val (.int r1), .val (.int r2), .val (.int (i0 &&& (3 : Int32))), .val (.ref an), .val (.ref ao), .val (.ref aw), .val (.ref at3), .val .null, .val .null] [.null]))
      have hof : ofL [((0 : Int32), .ref b0), ((0 : Int32), .ref b1), ((0 : Int32), .ref b2), ((0 : Int32), .ref b3), ((0 : Int32), .ref b4), ((0 : Int32), .ref b5)] = .null := by simp [ofL]
      obtain ⟨_, _, ⟨T119, L119, k119, n119⟩, -, X119, ⟨Lc119, hQ119, l119, y119, z119⟩, st119⟩ := Jvm.LawKit.callS Y116 hx (y := (⟨"com/example/windrow/windrow/Condition$Comparison", "of", "(Ljava/lang/String;)Lcom/example/windrow/windrow/Condition$Comparison;"⟩ : MethodName)) hown (mvT hZ (hw _ (List.mem_of_getElem? (i := 26) rfl))) (mvT hZ (hw _ (List.mem_of_getElem? (i := 27) rfl))) (mvT hZ (hw _ (List.mem_of_getElem? (i := 28) rfl))) (mvT hZ (hw _ (List.mem_of_getElem? (i := 29) rfl))) (by decide) (backOf (W := 0) (rm_ofN l Z a0 hw [] av cv b0 b1 b2 b3 b4 b5 s0 s1 s2 s3 s4 s5 v0 v1 v2 v3 v4 v5 c0 c1 c2 c3 c4 c5 h116 n0 Z116 (SV.ext P116) (AV.ext P116) (EV.ext P116) FV hsz w0 (Fb0.ext P116) (Es0.ext P116) (Fc0.ext P116) (Fv0.ext P116) (Av0.ext P116) zv0 uv0_0 w1 (Fb1.ext P116) (Es1.ext P116) (Fc1.ext P116) (Fv1.ext P116) (Av1.ext P116) zv1 uv1_0 uv1_1 w2 (Fb2.ext P116) (Es2.ext P116) (Fc2.ext P116) (Fv2.ext P116) (Av2.ext P116) zv2 uv2_0 w3 (Fb3.ext P116) (Es3.ext P116) (Fc3.ext P116) (Fv3.ext P116) (Av3.ext P116) zv3 uv3_0 uv3_1 w4 (Fb4.ext P116) (Es4.ext P116) (Fc4.ext P116) (Fv4.ext P116) (Av4.ext P116) zv4 uv4_0 w5 (Fb5.ext P116) (Es5.ext P116) (Fc5.ext P116) (Fv5.ext P116) (Av5.ext P116) zv5 uv5_0 uv5_1) hZ (hw _ (List.mem_of_getElem? (i := 29) rfl)) (hw _ (List.mem_of_getElem? (i := 28) rfl)) (by decide) (by decide)) (g := (mkF m 273 #[.val (.int i0), .val (.int i1), .val (.int i2), .val (.int i3), .val (.int r0), .val (.int r1), .val (.int r2), .val (.int (i0 &&& (3 : Int32))), .val (.ref an), .val (.ref ao), .val (.ref aw), .val (.ref at3), .val .null, .val .null] [.null])) rfl (by rw [hml]; rfl) (argsL := [.null]) (rest := []) (lenOf pd6 rfl) rfl (by show 2 * 0 + _ ≤ _; exact Nat.le_of_eq rfl) (hb hby at_273) (fun _ _ => ⟨rfl, e116, (by decide : 12 + 1 ≤ _), (by decide : 40 + 6 ≤ _)⟩)
      dsimp only [Pt.U, Pt.locs, Pt.cells, Pt.slots] at X119 l119 y119 z119 st119 hQ119
      subst l119 y119 z119
      obtain ⟨hv119, N119, E119⟩ := hQ119
      rw [hof] at hv119
      subst hv119
      have M119 := Fr.app N0 N119
      refine EndsK.go st119 ?_
      have hk := Nat.le_trans hk E119.1
      show EndsK p e below _ (T119.setTop (mkF m 276 #[.val (.int i0), .val (.int i1), .val (.int i2), .val (.int i3), .val (.int r0), .val (.int r1), .val (.int r2), .val (.int (i0 &&& (3 : Int32))), .val (.ref an), .val (.ref ao), .val (.ref aw), .val (.ref at3), .val .null, .val .null] [.null]))
      refine EndsK.go (fun _ kz => XS.aload X119.here hx rfl (hb hby at_276) rfl rfl kz) ?_
      show EndsK p e below _ (T119.setTop (mkF m 278 #[.val (.int i0), .val (.int i1), .val (.int i2), .val (.int i3), .val (.int r0), .val (.int r1), .val (.int r2), .val (.int (i0 &&& (3 : Int32))), .val (.ref an), .val (.ref ao), .val (.ref aw), .val (.ref at3), .val .null, .val .null] [.null, .null]))
      refine EndsK.go (fun _ kz => Jvm.RoadKit.acmp (g := (mkF m 278 #[.val (.int i0), .val (.int i1), .val (.int i2), .val (.int i3), .val (.int r0), .val (.int r1), .val (.int r2), .val (.int (i0 &&& (3 : Int32))), .val (.ref an), .val (.ref ao), .val (.ref aw), .val (.ref at3), .val .null, .val .null] [.null, .null])) X119 hx rfl rfl rfl (pc0 := 278) (pc' := 281) (same := true) rfl (hb hby at_278) rfl (decide_eq_true rfl) (by decide) (by decide) kz) ?_
      show EndsK p e below _ (T119.setTop (mkF m 281 #[.val (.int i0), .val (.int i1), .val (.int i2), .val (.int i3), .val (.int r0), .val (.int r1), .val (.int r2), .val (.int (i0 &&& (3 : Int32))), .val (.ref an), .val (.ref ao), .val (.ref aw), .val (.ref at3), .val .null, .val .null] []))
      refine EndsK.go (fun _ kz => XS.iconst X119.here hx rfl (hb hby at_281) kz) ?_
      show EndsK p e below _ (T119.setTop (mkF m 282 #[.val (.int i0), .val (.int i1), .val (.int i2), .val (.int i3), .val (.int r0), .val (.int r1), .val (.int r2), .val (.int (i0 &&& (3 : Int32))), .val (.ref an), .val (.ref ao), .val (.ref aw), .val (.ref at3), .val .null, .val .null] [(.int (1 : Int32))]))
      refine EndsK.go (fun _ kz => XS.goto X119.here hx rfl (pc0 := 282) (pc' := 286) rfl (hb hby at_282) (by decide) (by decide) kz) ?_
      show EndsK p e below _ (T119.setTop (mkF m 286 #[.val (.int i0), .val (.int i1), .val (.int i2), .val (.int i3), .val (.int r0), .val (.int r1), .val (.int r2), .val (.int (i0 &&& (3 : Int32))), .val (.ref an), .val (.ref ao), .val (.ref aw), .val (.ref at3), .val .null, .val .null] [(.int (1 : Int32))]))
      exact endNW X119 hS hk hx (t := .boolean) Bd.returns (by simp) (hb hby at_286) hlk ⟨rfl, M119⟩ (by decide) (by decide)
  · refine EndsK.go (fun _ kz => XS.ifYes Y113.here hx rfl (pc0 := 75) (pc' := 92) rfl (hb hby at_75) rfl ((if0 _ _).trans (feq H75_114).2) (by decide) (by decide) kz) ?_
    show EndsK p e below _ (T113.setTop (mkF m 92 #[.val (.int i0), .val (.int i1), .val (.int i2), .val (.int i3), .val (.int r0), .val (.int r1), .val (.int r2), .val (.int (i0 &&& (3 : Int32))), .val (.ref an), .val (.ref ao), .val (.ref aw), .val (.ref at3), .unset, .unset] []))
    refine EndsK.wide ?_
    show EndsK p e below _ (T113.setTop (mkF m 92 #[.val (.int i0), .val (.int i1), .val (.int i2), .val (.int i3), .val (.int r0), .val (.int r1), .val (.int r2), .val (.int (i0 &&& (3 : Int32))), .val (.ref an), .val (.ref ao), .val (.ref aw), .val (.ref at3), .unset, .unset] []))
    refine EndsK.go (fun _ kz => XS.iload Y113.here hx rfl (hb hby at_92) rfl kz) ?_
    show EndsK p e below _ (T113.setTop (mkF m 94 #[.val (.int i0), .val (.int i1), .val (.int i2), .val (.int i3), .val (.int r0), .val (.int r1), .val (.int r2), .val (.int (i0 &&& (3 : Int32))), .val (.ref an), .val (.ref ao), .val (.ref aw), .val (.ref at3), .unset, .unset] [(.int (i0 &&& (3 : Int32)))]))
    refine EndsK.go (fun _ kz => XS.iconst Y113.here hx rfl (hb hby at_94) kz) ?_
    show EndsK p e below _ (T113.setTop (mkF m 95 #[.val (.int i0), .val (.int i1), .val (.int i2), .val (.int i3), .val (.int r0), .val (.int r1), .val (.int r2), .val (.int (i0 &&& (3 : Int32))), .val (.ref an), .val (.ref ao), .val (.ref aw), .val (.ref at3), .unset, .unset] [(.int (1 : Int32)), (.int (i0 &&& (3 : Int32)))]))
    by_cases H95_120 : (i0 &&& (3 : Int32)) = (1 : Int32)
    · refine EndsK.go (fun _ kz => XS.icmpNo Y113.here hx rfl (hb hby at_95) rfl (teq H95_120).2 kz) ?_
      show EndsK p e below _ (T113.setTop (mkF m 98 #[.val (.int i0), .val (.int i1), .val (.int i2), .val (.int i3), .val (.int r0), .val (.int r1), .val (.int r2), .val (.int (i0 &&& (3 : Int32))), .val (.ref an), .val (.ref ao), .val (.ref aw), .val (.ref at3), .unset, .unset] []))
      obtain ⟨T121, h121, X121, e121, E121, A121, D121, -, st121⟩ := newO Y113 hx hZ hown (hw _ (List.mem_of_getElem? (i := 5) rfl)) (hw _ (List.mem_of_getElem? (i := 6) rfl)) (hw _ (List.mem_of_getElem? (i := 7) rfl)) e113 (g := (mkF m 98 #[.val (.int i0), .val (.int i1), .val (.int i2), .val (.int i3), .val (.int r0), .val (.int r1), .val (.int r2), .val (.int (i0 &&& (3 : Int32))), .val (.ref an), .val (.ref ao), .val (.ref aw), .val (.ref at3), .unset, .unset] [])) rfl (hb hby at_98) (by decide) (by decide)
      obtain ⟨x1, g121⟩ : ∃ z, z = h113.size := ⟨_, rfl⟩
      rw [← g121] at A121 D121 st121
      refine EndsK.go st121 ?_
      have V121_an := V113_an.ext E121
      have V121_ao := V113_ao.ext E121
      have V121_aw := V113_aw.ext E121
      have V121_at3 := V113.ext E121
      have F121_value : Fld Z h121 x1 "java/lang/String" "value" "[B" .null := D121 (Or.inr (hw _ (List.mem_of_getElem? (i := 20) rfl))) (ty := (.array .byte)) (by decide)
      have F121_coder : Fld Z h121 x1 "java/lang/String" "coder" "B" (.int (0 : Int32)) := D121 (Or.inr (hw _ (List.mem_of_getElem? (i := 21) rfl))) (ty := .byte) (by decide)
      have Z121 : n0 ≤ h121.size := Nat.le_trans Z113 E121.1
      have G121 : n0 ≤ x1 := by rw [g121]; exact Z113
      have P121 := ext_trans P113 E121
      have sz_x1 : h0.size ≤ x1 := by rw [g121]; exact P113.1
      have ne_an_x1 : an ≠ x1 := Nat.ne_of_lt (by rw [g121]; exact V113_an.lt)
      have ne_ao_x1 : ao ≠ x1 := Nat.ne_of_lt (by rw [g121]; exact V113_ao.lt)
      have ne_aw_x1 : aw ≠ x1 := Nat.ne_of_lt (by rw [g121]; exact V113_aw.lt)
      have ne_at3_x1 : at3 ≠ x1 := Nat.ne_of_lt (by rw [g121]; exact V113.lt)
      show EndsK p e below _ (T121.setTop (mkF m 101 #[.val (.int i0), .val (.int i1), .val (.int i2), .val (.int i3), .val (.int r0), .val (.int r1), .val (.int r2), .val (.int (i0 &&& (3 : Int32))), .val (.ref an), .val (.ref ao), .val (.ref aw), .val (.ref at3), .unset, .unset] [(.ref x1)]))
      refine EndsK.go (fun _ kz => XS.dup X121.here hx rfl (hb hby at_101) rfl rfl kz) ?_
      show EndsK p e below _ (T121.setTop (mkF m 102 #[.val (.int i0), .val (.int i1), .val (.int i2), .val (.int i3), .val (.int r0), .val (.int r1), .val (.int r2), .val (.int (i0 &&& (3 : Int32))), .val (.ref an), .val (.ref ao), .val (.ref aw), .val (.ref at3), .unset, .unset] [(.ref x1), (.ref x1)]))
      refine EndsK.go (fun _ kz => XS.aload X121.here hx rfl (hb hby at_102) rfl rfl kz) ?_
      show EndsK p e below _ (T121.setTop (mkF m 104 #[.val (.int i0), .val (.int i1), .val (.int i2), .val (.int i3), .val (.int r0), .val (.int r1), .val (.int r2), .val (.int (i0 &&& (3 : Int32))), .val (.ref an), .val (.ref ao), .val (.ref aw), .val (.ref at3), .unset, .unset] [(.ref ao), (.ref x1), (.ref x1)]))
      obtain ⟨_, _, ⟨T122, L122, k122, n122⟩, -, X122, ⟨Lc122, hQ122, l122, y122, z122⟩, st122⟩ := X121.specialBack hx (y := (⟨"java/lang/String", "<init>", "([C)V"⟩ : MethodName)) rfl hown (mvT hZ (hw _ (List.mem_of_getElem? (i := 8) rfl))) (mvT hZ (hw _ (List.mem_of_getElem? (i := 9) rfl))) (mvT hZ (hw _ (List.mem_of_getElem? (i := 10) rfl))) (by decide) (StrChars.Road.backV (W := 1) hZ hws (kI := 4) (hw _ (List.mem_of_getElem? (i := 6) rfl)) (cs := ([nar .char r0] : List Int32)) (bs := (([nar .char r0] : List Int32)).map (fun c => c.toInt8.toInt32)) (n := 1) G121 Z121 A121 F121_value F121_coder V121_ao (SC.ext P121) hzc rfl rfl (by decide) (by decide) (by intro c hc; simp only [List.mem_cons, List.not_mem_nil, or_false] at hc; rcases hc with rfl <;> first | (rw [nc r0 ga0 gb0]; exact ⟨ga0, gb0⟩) | (rw [nc r1 ga1 gb1]; exact ⟨ga1, gb1⟩) | (rw [nc r2 ga2 gb2]; exact ⟨ga2, gb2⟩)) rfl (by decide) (by decide)) (g := (mkF m 104 #[.val (.int i0), .val (.int i1), .val (.int i2), .val (.int i3), .val (.int r0), .val (.int r1), .val (.int r2), .val (.int (i0 &&& (3 : Int32))), .val (.ref an), .val (.ref ao), .val (.ref aw), .val (.ref at3), .unset, .unset] [(.ref ao), (.ref x1), (.ref x1)])) rfl (by rw [hml]; rfl) (Steps.refl _) (a := x1) (argsL := [(.ref ao)]) (rest := [(.ref x1)]) (lenOf pd5 rfl) rfl (by show 2 * 0 + _ ≤ _; exact Nat.le_of_eq rfl) (hb hby at_104) (fun _ _ => ⟨rfl, e121, (by decide : 4 + 1 + 1 ≤ _), (by decide : 6 + 4 + 1 ≤ _)⟩)
      dsimp only [Pt.U, Pt.locs, Pt.cells, Pt.slots] at X122 l122 y122 z122 st122 hQ122
      subst l122 y122 z122
      refine EndsK.tr st122 ?_
      obtain ⟨rfl, N122, K122, Ex122, Fc122, vb122, kb122, -, -, -, Fv122, Av122⟩ := hQ122
      obtain ⟨h122, e122⟩ : ∃ z, T122.heap = z := ⟨_, rfl⟩
      rw [e122] at K122 Ex122 Fc122 Fv122 Av122
      obtain ⟨cb122, Ab122, -, Sz122, -, Hb122, -⟩ := Av122
      have Y122 : Stand p l e room_1 s m #[(.int i0), (.int i1), (.int i2), (.int i3)] below meth c T122 [] 12 40 := (X122.dropFresh (fun xz hxz => by have q := N122 xz hxz; rw [hn0, ← hh] at q; exact q)).mono (by decide) (by decide)
      have P122 : Ext h0 h122 := ext_kept P121 K122 (allS sz_x1 all0)
      have Z122 : n0 ≤ h122.size := Nat.le_trans Z0 P122.1
      show EndsK p e below _ (T122.setTop (mkF m 107 #[.val (.int i0), .val (.int i1), .val (.int i2), .val (.int i3), .val (.int r0), .val (.int r1), .val (.int r2), .val (.int (i0 &&& (3 : Int32))), .val (.ref an), .val (.ref ao), .val (.ref aw), .val (.ref at3), .unset, .unset] [(.ref x1)]))
      refine EndsK.go (fun _ kz => XS.astore Y122.here hx rfl (hb hby at_107) rfl rfl (l' := #[.val (.int i0), .val (.int i1), .val (.int i2), .val (.int i3), .val (.int r0), .val (.int r1), .val (.int r2), .val (.int (i0 &&& (3 : Int32))), .val (.ref an), .val (.ref ao), .val (.ref aw), .val (.ref at3), .val (.ref x1), .unset]) rfl kz) ?_
      show EndsK p e below _ (T122.setTop (mkF m 109 #[.val (.int i0), .val (.int i1), .val (.int i2), .val (.int i3), .val (.int r0), .val (.int r1), .val (.int r2), .val (.int (i0 &&& (3 : Int32))), .val (.ref an), .val (.ref ao), .val (.ref aw), .val (.ref at3), .val (.ref x1), .unset] []))
      refine EndsK.go (fun _ kz => XS.goto Y122.here hx rfl (pc0 := 109) (pc' := 143) rfl (hb hby at_109) (by decide) (by decide) kz) ?_
      show EndsK p e below _ (T122.setTop (mkF m 143 #[.val (.int i0), .val (.int i1), .val (.int i2), .val (.int i3), .val (.int r0), .val (.int r1), .val (.int r2), .val (.int (i0 &&& (3 : Int32))), .val (.ref an), .val (.ref ao), .val (.ref aw), .val (.ref at3), .val (.ref x1), .unset] []))
      refine EndsK.go (fun _ kz => XS.iloadN Y122.here hx rfl (hb hby at_143) rfl kz) ?_
      show EndsK p e below _ (T122.setTop (mkF m 144 #[.val (.int i0), .val (.int i1), .val (.int i2), .val (.int i3), .val (.int r0), .val (.int r1), .val (.int r2), .val (.int (i0 &&& (3 : Int32))), .val (.ref an), .val (.ref ao), .val (.ref aw), .val (.ref at3), .val (.ref x1), .unset] [(.int i0)]))
      refine EndsK.go (fun _ kz => XS.iconst Y122.here hx rfl (hb hby at_144) kz) ?_
      show EndsK p e below _ (T122.setTop (mkF m 145 #[.val (.int i0), .val (.int i1), .val (.int i2), .val (.int i3), .val (.int r0), .val (.int r1), .val (.int r2), .val (.int (i0 &&& (3 : Int32))), .val (.ref an), .val (.ref ao), .val (.ref aw), .val (.ref at3), .val (.ref x1), .unset] [(.int (4 : Int32)), (.int i0)]))
      refine EndsK.go (fun _ kz => XS.iand Y122.here hx rfl (hb hby at_145) rfl kz) ?_
      show EndsK p e below _ (T122.setTop (mkF m 146 #[.val (.int i0), .val (.int i1), .val (.int i2), .val (.int i3), .val (.int r0), .val (.int r1), .val (.int r2), .val (.int (i0 &&& (3 : Int32))), .val (.ref an), .val (.ref ao), .val (.ref aw), .val (.ref at3), .val (.ref x1), .unset] [(.int (i0 &&& (4 : Int32)))]))
      by_cases H146_123 : (i0 &&& (4 : Int32)) = (0 : Int32)
      · refine EndsK.go (fun _ kz => XS.ifYes Y122.here hx rfl (pc0 := 146) (pc' := 157) rfl (hb hby at_146) rfl ((if0 _ _).trans (teq H146_123).1) (by decide) (by decide) kz) ?_
        show EndsK p e below _ (T122.setTop (mkF m 157 #[.val (.int i0), .val (.int i1), .val (.int i2), .val (.int i3), .val (.int r0), .val (.int r1), .val (.int r2), .val (.int (i0 &&& (3 : Int32))), .val (.ref an), .val (.ref ao), .val (.ref aw), .val (.ref at3), .val (.ref x1), .unset] []))
        refine EndsK.go (fun _ kz => XS.aconstNull Y122.here hx rfl (hb hby at_157) kz) ?_
        show EndsK p e below _ (T122.setTop (mkF m 158 #[.val (.int i0), .val (.int i1), .val (.int i2), .val (.int i3), .val (.int r0), .val (.int r1), .val (.int r2), .val (.int (i0 &&& (3 : Int32))), .val (.ref an), .val (.ref ao), .val (.ref aw), .val (.ref at3), .val (.ref x1), .unset] [.null]))
        refine EndsK.go (fun _ kz => XS.astore Y122.here hx rfl (hb hby at_158) rfl rfl (l' := #[.val (.int i0), .val (.int i1), .val (.int i2), .val (.int i3), .val (.int r0), .val (.int r1), .val (.int r2), .val (.int (i0 &&& (3 : Int32))), .val (.ref an), .val (.ref ao), .val (.ref aw), .val (.ref at3), .val (.ref x1), .val .null]) rfl kz) ?_
        show EndsK p e below _ (T122.setTop (mkF m 160 #[.val (.int i0), .val (.int i1), .val (.int i2), .val (.int i3), .val (.int r0), .val (.int r1), .val (.int r2), .val (.int (i0 &&& (3 : Int32))), .val (.ref an), .val (.ref ao), .val (.ref aw), .val (.ref at3), .val (.ref x1), .val .null] []))
        refine EndsK.go (fun _ kz => XS.aload Y122.here hx rfl (hb hby at_160) rfl rfl kz) ?_
        show EndsK p e below _ (T122.setTop (mkF m 162 #[.val (.int i0), .val (.int i1), .val (.int i2), .val (.int i3), .val (.int r0), .val (.int r1), .val (.int r2), .val (.int (i0 &&& (3 : Int32))), .val (.ref an), .val (.ref ao), .val (.ref aw), .val (.ref at3), .val (.ref x1), .val .null] [(.ref x1)]))
        refine EndsK.go (fun _ kz => XS.ifnullNo Y122.here hx rfl (hb hby at_162) rfl kz) ?_
        show EndsK p e below _ (T122.setTop (mkF m 165 #[.val (.int i0), .val (.int i1), .val (.int i2), .val (.int i3), .val (.int r0), .val (.int r1), .val (.int r2), .val (.int (i0 &&& (3 : Int32))), .val (.ref an), .val (.ref ao), .val (.ref aw), .val (.ref at3), .val (.ref x1), .val .null] []))
        refine EndsK.go (fun _ kz => XS.iload Y122.here hx rfl (hb hby at_165) rfl kz) ?_
        show EndsK p e below _ (T122.setTop (mkF m 167 #[.val (.int i0), .val (.int i1), .val (.int i2), .val (.int i3), .val (.int r0), .val (.int r1), .val (.int r2), .val (.int (i0 &&& (3 : Int32))), .val (.ref an), .val (.ref ao), .val (.ref aw), .val (.ref at3), .val (.ref x1), .val .null] [(.int (i0 &&& (3 : Int32)))]))
        refine EndsK.go (fun _ kz => XS.iconst Y122.here hx rfl (hb hby at_167) kz) ?_
        show EndsK p e below _ (T122.setTop (mkF m 168 #[.val (.int i0), .val (.int i1), .val (.int i2), .val (.int i3), .val (.int r0), .val (.int r1), .val (.int r2), .val (.int (i0 &&& (3 : Int32))), .val (.ref an), .val (.ref ao), .val (.ref aw), .val (.ref at3), .val (.ref x1), .val .null] [(.int (1 : Int32)), (.int (i0 &&& (3 : Int32)))]))
        refine EndsK.go (fun _ kz => XS.icmpNo Y122.here hx rfl (hb hby at_168) rfl (teq H95_120).2 kz) ?_
        show EndsK p e below _ (T122.setTop (mkF m 171 #[.val (.int i0), .val (.int i1), .val (.int i2), .val (.int i3), .val (.int r0), .val (.int r1), .val (.int r2), .val (.int (i0 &&& (3 : Int32))), .val (.ref an), .val (.ref ao), .val (.ref aw), .val (.ref at3), .val (.ref x1), .val .null] []))
        refine EndsK.go (fun _ kz => XS.iload Y122.here hx rfl (hb hby at_171) rfl kz) ?_
        show EndsK p e below _ (T122.setTop (mkF m 173 #[.val (.int i0), .val (.int i1), .val (.int i2), .val (.int i3), .val (.int r0), .val (.int r1), .val (.int r2), .val (.int (i0 &&& (3 : Int32))), .val (.ref an), .val (.ref ao), .val (.ref aw), .val (.ref at3), .val (.ref x1), .val .null] [(.int r0)]))
        refine EndsK.go (fun _ kz => XS.bipush Y122.here hx rfl (hb hby at_173) kz) ?_
        show EndsK p e below _ (T122.setTop (mkF m 175 #[.val (.int i0), .val (.int i1), .val (.int i2), .val (.int i3), .val (.int r0), .val (.int r1), .val (.int r2), .val (.int (i0 &&& (3 : Int32))), .val (.ref an), .val (.ref ao), .val (.ref aw), .val (.ref at3), .val (.ref x1), .val .null] [(.int (61 : Int32)), (.int r0)]))
        by_cases H175_124 : r0 = (61 : Int32)
        · refine EndsK.go (fun _ kz => XS.icmpNo Y122.here hx rfl (hb hby at_175) rfl (teq H175_124).2 kz) ?_
          show EndsK p e below _ (T122.setTop (mkF m 178 #[.val (.int i0), .val (.int i1), .val (.int i2), .val (.int i3), .val (.int r0), .val (.int r1), .val (.int r2), .val (.int (i0 &&& (3 : Int32))), .val (.ref an), .val (.ref ao), .val (.ref aw), .val (.ref at3), .val (.ref x1), .val .null] []))
          obtain ⟨T125, X125, e125, st125⟩ := getS2 Y122 hx hZ hown (host := "") (Or.inl (hw _ (List.mem_of_getElem? (i := 77) rfl))) Via.refl e122 (SN0.ext P122) (g := (mkF m 178 #[.val (.int i0), .val (.int i1), .val (.int i2), .val (.int i3), .val (.int r0), .val (.int r1), .val (.int r2), .val (.int (i0 &&& (3 : Int32))), .val (.ref an), .val (.ref ao), .val (.ref aw), .val (.ref at3), .val (.ref x1), .val .null] [])) rfl (hb hby at_178)
          refine EndsK.go st125 ?_
          show EndsK p e below _ (T125.setTop (mkF m 181 #[.val (.int i0), .val (.int i1), .val (.int i2), .val (.int i3), .val (.int r0), .val (.int r1), .val (.int r2), .val (.int (i0 &&& (3 : Int32))), .val (.ref an), .val (.ref ao), .val (.ref aw), .val (.ref at3), .val (.ref x1), .val .null] [(.ref b0)]))
          refine EndsK.go (fun _ kz => XS.astore X125.here hx rfl (hb hby at_181) rfl rfl (l' := #[.val (.int i0), .val (.int i1), .val (.int i2), .val (.int i3), .val (.int r0), .val (.int r1), .val (.int r2), .val (.int (i0 &&& (3 : Int32))), .val (.ref an), .val (.ref ao), .val (.ref aw), .val (.ref at3), .val (.ref x1), .val (.ref b0)]) rfl kz) ?_
          show EndsK p e below _ (T125.setTop (mkF m 183 #[.val (.int i0), .val (.int i1), .val (.int i2), .val (.int i3), .val (.int r0), .val (.int r1), .val (.int r2), .val (.int (i0 &&& (3 : Int32))), .val (.ref an), .val (.ref ao), .val (.ref aw), .val (.ref at3), .val (.ref x1), .val (.ref b0)] []))
          refine EndsK.go (fun _ kz => XS.goto X125.here hx rfl (pc0 := 183) (pc' := 271) rfl (hb hby at_183) (by decide) (by decide) kz) ?_
          show EndsK p e below _ (T125.setTop (mkF m 271 #[.val (.int i0), .val (.int i1), .val (.int i2), .val (.int i3), .val (.int r0), .val (.int r1), .val (.int r2), .val (.int (i0 &&& (3 : Int32))), .val (.ref an), .val (.ref ao), .val (.ref aw), .val (.ref at3), .val (.ref x1), .val (.ref b0)] []))
          refine EndsK.go (fun _ kz => XS.aload X125.here hx rfl (hb hby at_271) rfl rfl kz) ?_
          show EndsK p e below _ (T125.setTop (mkF m 273 #[.val (.int i0), .val (.int i1), .val (.int i2), .val (.int i3), .val (.int r0), .val (.int r1), .val (.int r2), .val (.int (i0 &&& (3 : Int32))), .val (.ref an), .val (.ref ao), .val (.ref aw), .val (.ref at3), .val (.ref x1), .val (.ref b0)] [(.ref x1)]))
          have hof : ofL [((lf1 (61 : Int32) ((nar .char r0).toInt8.toInt32)), .ref b0), ((0 : Int32), .ref b1), ((lf1 (60 : Int32) ((nar .char r0).toInt8.toInt32)), .ref b2), ((0 : Int32), .ref b3), ((lf1 (62 : Int32) ((nar .char r0).toInt8.toInt32)), .ref b4), ((0 : Int32), .ref b5)] = (.ref b0) := by simp only [lf1, lf2, b8 r0 (61 : Int32) 61 ga0 gb0 rfl (by decide) (by decide), b8 r0 (60 : Int32) 60 ga0 gb0 rfl (by decide) (by decide), b8 r0 (62 : Int32) 62 ga0 gb0 rfl (by decide) (by decide)]; simp [ofL, H175_124]
          obtain ⟨_, _, ⟨T126, L126, k126, n126⟩, -, X126, ⟨Lc126, hQ126, l126, y126, z126⟩, st126⟩ := Jvm.LawKit.callS X125 hx (y := (⟨"com/example/windrow/windrow/Condition$Comparison", "of", "(Ljava/lang/String;)Lcom/example/windrow/windrow/Condition$Comparison;"⟩ : MethodName)) hown (mvT hZ (hw _ (List.mem_of_getElem? (i := 26) rfl))) (mvT hZ (hw _ (List.mem_of_getElem? (i := 27) rfl))) (mvT hZ (hw _ (List.mem_of_getElem? (i := 28) rfl))) (mvT hZ (hw _ (List.mem_of_getElem? (i := 29) rfl))) (by decide) (backOf (W := 0) (rm_of1 l Z a0 hw [] x1 vb122 cb122 zc ((nar .char r0).toInt8.toInt32) av cv b0 b1 b2 b3 b4 b5 s0 s1 s2 s3 s4 s5 v0 v1 v2 v3 v4 v5 c0 c1 c2 c3 c4 c5 h122 n0 Z122 (fun q => absurd Es0.lt (by rw [q]; exact Nat.not_lt.mpr sz_x1)) (fun q => absurd Es1.lt (by rw [q]; exact Nat.not_lt.mpr sz_x1)) (fun q => absurd Es2.lt (by rw [q]; exact Nat.not_lt.mpr sz_x1)) (fun q => absurd Es3.lt (by rw [q]; exact Nat.not_lt.mpr sz_x1)) (fun q => absurd Es4.lt (by rw [q]; exact Nat.not_lt.mpr sz_x1)) (fun q => absurd Es5.lt (by rw [q]; exact Nat.not_lt.mpr sz_x1)) Ex122 Fc122 Fv122 (SC.ext P122) hzc Ab122 (by rw [Sz122]; rfl) ⟨inb_of (j := (0 : Int32)) Sz122 ⟨by decide, by decide⟩, (Hb122 0 (by rw [Sz122]; decide)).trans rfl⟩ (SV.ext P122) (AV.ext P122) (EV.ext P122) FV hsz w0 (Fb0.ext P122) (Es0.ext P122) (Fc0.ext P122) (Fv0.ext P122) (Av0.ext P122) zv0 uv0_0 w1 (Fb1.ext P122) (Es1.ext P122) (Fc1.ext P122) (Fv1.ext P122) (Av1.ext P122) zv1 uv1_0 uv1_1 w2 (Fb2.ext P122) (Es2.ext P122) (Fc2.ext P122) (Fv2.ext P122) (Av2.ext P122) zv2 uv2_0 w3 (Fb3.ext P122) (Es3.ext P122) (Fc3.ext P122) (Fv3.ext P122) (Av3.ext P122) zv3 uv3_0 uv3_1 w4 (Fb4.ext P122) (Es4.ext P122) (Fc4.ext P122) (Fv4.ext P122) (Av4.ext P122) zv4 uv4_0 w5 (Fb5.ext P122) (Es5.ext P122) (Fc5.ext P122) (Fv5.ext P122) (Av5.ext P122) zv5 uv5_0 uv5_1) hZ (hw _ (List.mem_of_getElem? (i := 29) rfl)) (hw _ (List.mem_of_getElem? (i := 28) rfl)) (by decide) (by decide)) (g := (mkF m 273 #[.val (.int i0), .val (.int i1), .val (.int i2), .val (.int i3), .val (.int r0), .val (.int r1), .val (.int r2), .val (.int (i0 &&& (3 : Int32))), .val (.ref an), .val (.ref ao), .val (.ref aw), .val (.ref at3), .val (.ref x1), .val (.ref b0)] [(.ref x1)])) rfl (by rw [hml]; rfl) (argsL := [(.ref x1)]) (rest := []) (lenOf pd6 rfl) rfl (by show 2 * 0 + _ ≤ _; exact Nat.le_of_eq rfl) (hb hby at_273) (fun _ _ => ⟨rfl, e125, (by decide : 12 + 1 ≤ _), (by decide : 40 + 6 ≤ _)⟩)
          dsimp only [Pt.U, Pt.locs, Pt.cells, Pt.slots] at X126 l126 y126 z126 st126 hQ126
          subst l126 y126 z126
          obtain ⟨hv126, N126, E126⟩ := hQ126
          rw [hof] at hv126
          subst hv126
          have M126 := Fr.app N0 N126
          refine EndsK.go st126 ?_
          show EndsK p e below _ (T126.setTop (mkF m 276 #[.val (.int i0), .val (.int i1), .val (.int i2), .val (.int i3), .val (.int r0), .val (.int r1), .val (.int r2), .val (.int (i0 &&& (3 : Int32))), .val (.ref an), .val (.ref ao), .val (.ref aw), .val (.ref at3), .val (.ref x1), .val (.ref b0)] [(.ref b0)]))
          refine EndsK.go (fun _ kz => XS.aload X126.here hx rfl (hb hby at_276) rfl rfl kz) ?_
          show EndsK p e below _ (T126.setTop (mkF m 278 #[.val (.int i0), .val (.int i1), .val (.int i2), .val (.int i3), .val (.int r0), .val (.int r1), .val (.int r2), .val (.int (i0 &&& (3 : Int32))), .val (.ref an), .val (.ref ao), .val (.ref aw), .val (.ref at3), .val (.ref x1), .val (.ref b0)] [(.ref b0), (.ref b0)]))
          refine EndsK.go (fun _ kz => Jvm.RoadKit.acmp (g := (mkF m 278 #[.val (.int i0), .val (.int i1), .val (.int i2), .val (.int i3), .val (.int r0), .val (.int r1), .val (.int r2), .val (.int (i0 &&& (3 : Int32))), .val (.ref an), .val (.ref ao), .val (.ref aw), .val (.ref at3), .val (.ref x1), .val (.ref b0)] [(.ref b0), (.ref b0)])) X126 hx rfl rfl rfl (pc0 := 278) (pc' := 281) (same := true) rfl (hb hby at_278) rfl (decide_eq_true rfl) (by decide) (by decide) kz) ?_
          show EndsK p e below _ (T126.setTop (mkF m 281 #[.val (.int i0), .val (.int i1), .val (.int i2), .val (.int i3), .val (.int r0), .val (.int r1), .val (.int r2), .val (.int (i0 &&& (3 : Int32))), .val (.ref an), .val (.ref ao), .val (.ref aw), .val (.ref at3), .val (.ref x1), .val (.ref b0)] []))
          refine EndsK.go (fun _ kz => XS.iconst X126.here hx rfl (hb hby at_281) kz) ?_
          show EndsK p e below _ (T126.setTop (mkF m 282 #[.val (.int i0), .val (.int i1), .val (.int i2), .val (.int i3), .val (.int r0), .val (.int r1), .val (.int r2), .val (.int (i0 &&& (3 : Int32))), .val (.ref an), .val (.ref ao), .val (.ref aw), .val (.ref at3), .val (.ref x1), .val (.ref b0)] [(.int (1 : Int32))]))
          refine EndsK.go (fun _ kz => XS.goto X126.here hx rfl (pc0 := 282) (pc' := 286) rfl (hb hby at_282) (by decide) (by decide) kz) ?_
          show EndsK p e below _ (T126.setTop (mkF m 286 #[.val (.int i0), .val (.int i1), .val (.int i2), .val (.int i3), .val (.int r0), .val (.int r1), .val (.int r2), .val (.int (i0 &&& (3 : Int32))), .val (.ref an), .val (.ref ao), .val (.ref aw), .val (.ref at3), .val (.ref x1), .val (.ref b0)] [(.int (1 : Int32))]))
          exact endN X126 hx (t := .boolean) Bd.returns (by simp) (hb hby at_286) hlk ⟨rfl, M126⟩ (by decide) (by decide)
        · refine EndsK.go (fun _ kz => XS.icmpYes Y122.here hx rfl (pc0 := 175) (pc' := 186) rfl (hb hby at_175) rfl (feq H175_124).2 (by decide) (by decide) kz) ?_
          show EndsK p e below _ (T122.setTop (mkF m 186 #[.val (.int i0), .val (.int i1), .val (.int i2), .val (.int i3), .val (.int r0), .val (.int r1), .val (.int r2), .val (.int (i0 &&& (3 : Int32))), .val (.ref an), .val (.ref ao), .val (.ref aw), .val (.ref at3), .val (.ref x1), .val .null] []))
          refine EndsK.go (fun _ kz => XS.iload Y122.here hx rfl (hb hby at_186) rfl kz) ?_
          show EndsK p e below _ (T122.setTop (mkF m 188 #[.val (.int i0), .val (.int i1), .val (.int i2), .val (.int i3), .val (.int r0), .val (.int r1), .val (.int r2), .val (.int (i0 &&& (3 : Int32))), .val (.ref an), .val (.ref ao), .val (.ref aw), .val (.ref at3), .val (.ref x1), .val .null] [(.int r0)]))
          refine EndsK.go (fun _ kz => XS.bipush Y122.here hx rfl (hb hby at_188) kz) ?_
          show EndsK p e below _ (T122.setTop (mkF m 190 #[.val (.int i0), .val (.int i1), .val (.int i2), .val (.int i3), .val (.int r0), .val (.int r1), .val (.int r2), .val (.int (i0 &&& (3 : Int32))), .val (.ref an), .val (.ref ao), .val (.ref aw), .val (.ref at3), .val (.ref x1), .val .null] [(.int (60 : Int32)), (.int r0)]))
          by_cases H190_127 : r0 = (60 : Int32)
          · refine EndsK.go (fun _ kz => XS.icmpNo Y122.here hx rfl (hb hby at_190) rfl (teq H190_127).2 kz) ?_
            show EndsK p e below _ (T122.setTop (mkF m 193 #[.val (.int i0), .val (.int i1), .val (.int i2), .val (.int i3), .val (.int r0), .val (.int r1), .val (.int r2), .val (.int (i0 &&& (3 : Int32))), .val (.ref an), .val (.ref ao), .val (.ref aw), .val (.ref at3), .val (.ref x1), .val .null] []))
            obtain ⟨T128, X128, e128, st128⟩ := getS2 Y122 hx hZ hown (host := "") (Or.inl (hw _ (List.mem_of_getElem? (i := 76) rfl))) Via.refl e122 (SN2.ext P122) (g := (mkF m 193 #[.val (.int i0), .val (.int i1), .val (.int i2), .val (.int i3), .val (.int r0), .val (.int r1), .val (.int r2), .val (.int (i0 &&& (3 : Int32))), .val (.ref an), .val (.ref ao), .val (.ref aw), .val (.ref at3), .val (.ref x1), .val .null] [])) rfl (hb hby at_193)
            refine EndsK.go st128 ?_
            show EndsK p e below _ (T128.setTop (mkF m 196 #[.val (.int i0), .val (.int i1), .val (.int i2), .val (.int i3), .val (.int r0), .val (.int r1), .val (.int r2), .val (.int (i0 &&& (3 : Int32))), .val (.ref an), .val (.ref ao), .val (.ref aw), .val (.ref at3), .val (.ref x1), .val .null] [(.ref b2)]))
            refine EndsK.go (fun _ kz => XS.astore X128.here hx rfl (hb hby at_196) rfl rfl (l' := #[.val (.int i0), .val (.int i1), .val (.int i2), .val (.int i3), .val (.int r0), .val (.int r1), .val (.int r2), .val (.int (i0 &&& (3 : Int32))), .val (.ref an), .val (.ref ao), .val (.ref aw), .val (.ref at3), .val (.ref x1), .val (.ref b2)]) rfl kz) ?_
            show EndsK p e below _ (T128.setTop (mkF m 198 #[.val (.int i0), .val (.int i1), .val (.int i2), .val (.int i3), .val (.int r0), .val (.int r1), .val (.int r2), .val (.int (i0 &&& (3 : Int32))), .val (.ref an), .val (.ref ao), .val (.ref aw), .val (.ref at3), .val (.ref x1), .val (.ref b2)] []))
            refine EndsK.go (fun _ kz => XS.goto X128.here hx rfl (pc0 := 198) (pc' := 271) rfl (hb hby at_198) (by decide) (by decide) kz) ?_
            show EndsK p e below _ (T128.setTop (mkF m 271 #[.val (.int i0), .val (.int i1), .val (.int i2), .val (.int i3), .val (.int r0), .val (.int r1), .val (.int r2), .val (.int (i0 &&& (3 : Int32))), .val (.ref an), .val (.ref ao), .val (.ref aw), .val (.ref at3), .val (.ref x1), .val (.ref b2)] []))
            refine EndsK.go (fun _ kz => XS.aload X128.here hx rfl (hb hby at_271) rfl rfl kz) ?_
            show EndsK p e below _ (T128.setTop (mkF m 273 #[.val (.int i0), .val (.int i1), .val (.int i2), .val (.int i3), .val (.int r0), .val (.int r1), .val (.int r2), .val (.int (i0 &&& (3 : Int32))), .val (.ref an), .val (.ref ao), .val (.ref aw), .val (.ref at3), .val (.ref x1), .val (.ref b2)] [(.ref x1)]))
            have hof : ofL [((lf1 (61 : Int32) ((nar .char r0).toInt8.toInt32)), .ref b0), ((0 : Int32), .ref b1), ((lf1 (60 : Int32) ((nar .char r0).toInt8.toInt32)), .ref b2), ((0 : Int32), .ref b3), ((lf1 (62 : Int32) ((nar .char r0).toInt8.toInt32)), .ref b4), ((0 : Int32), .ref b5)] = (.ref b2) := by simp only [lf1, lf2, b8 r0 (61 : Int32) 61 ga0 gb0 rfl (by decide) (by decide), b8 r0 (60 : Int32) 60 ga0 gb0 rfl (by decide) (by decide), b8 r0 (62 : Int32) 62 ga0 gb0 rfl (by decide) (by decide)]; simp [ofL, H175_124, H190_127]
            obtain ⟨_, _, ⟨T129, L129, k129, n129⟩, -, X129, ⟨Lc129, hQ129, l129, y129, z129⟩, st129⟩ := Jvm.LawKit.callS X128 hx (y := (⟨"com/example/windrow/windrow/Condition$Comparison", "of", "(Ljava/lang/String;)Lcom/example/windrow/windrow/Condition$Comparison;"⟩ : MethodName)) hown (mvT hZ (hw _ (List.mem_of_getElem? (i := 26) rfl))) (mvT hZ (hw _ (List.mem_of_getElem? (i := 27) rfl))) (mvT hZ (hw _ (List.mem_of_getElem? (i := 28) rfl))) (mvT hZ (hw _ (List.mem_of_getElem? (i := 29) rfl))) (by decide) (backOf (W := 0) (rm_of1 l Z a0 hw [] x1 vb122 cb122 zc ((nar .char r0).toInt8.toInt32) av cv b0 b1 b2 b3 b4 b5 s0 s1 s2 s3 s4 s5 v0 v1 v2 v3 v4 v5 c0 c1 c2 c3 c4 c5 h122 n0 Z122 (fun q => absurd Es0.lt (by rw [q]; exact Nat.not_lt.mpr sz_x1)) (fun q => absurd Es1.lt (by rw [q]; exact Nat.not_lt.mpr sz_x1)) (fun q => absurd Es2.lt (by rw [q]; exact Nat.not_lt.mpr sz_x1)) (fun q => absurd Es3.lt (by rw [q]; exact Nat.not_lt.mpr sz_x1)) (fun q => absurd Es4.lt (by rw [q]; exact Nat.not_lt.mpr sz_x1)) (fun q => absurd Es5.lt (by rw [q]; exact Nat.not_lt.mpr sz_x1)) Ex122 Fc122 Fv122 (SC.ext P122) hzc Ab122 (by rw [Sz122]; rfl) ⟨inb_of (j := (0 : Int32)) Sz122 ⟨by decide, by decide⟩, (Hb122 0 (by rw [Sz122]; decide)).trans rfl⟩ (SV.ext P122) (AV.ext P122) (EV.ext P122) FV hsz w0 (Fb0.ext P122) (Es0.ext P122) (Fc0.ext P122) (Fv0.ext P122) (Av0.ext P122) zv0 uv0_0 w1 (Fb1.ext P122) (Es1.ext P122) (Fc1.ext P122) (Fv1.ext P122) (Av1.ext P122) zv1 uv1_0 uv1_1 w2 (Fb2.ext P122) (Es2.ext P122) (Fc2.ext P122) (Fv2.ext P122) (Av2.ext P122) zv2 uv2_0 w3 (Fb3.ext P122) (Es3.ext P122) (Fc3.ext P122) (Fv3.ext P122) (Av3.ext P122) zv3 uv3_0 uv3_1 w4 (Fb4.ext P122) (Es4.ext P122) (Fc4.ext P122) (Fv4.ext P122) (Av4.ext P122) zv4 uv4_0 w5 (Fb5.ext P122) (Es5.ext P122) (Fc5.ext P122) (Fv5.ext P122) (Av5.ext P122) zv5 uv5_0 uv5_1) hZ (hw _ (List.mem_of_getElem? (i := 29) rfl)) (hw _ (List.mem_of_getElem? (i := 28) rfl)) (by decide) (by decide)) (g := (mkF m 273 #[.val (.int i0), .val (.int i1), .val (.int i2), .val (.int i3), .val (.int r0), .val (.int r1), .val (.int r2), .val (.int (i0 &&& (3 : Int32))), .val (.ref an), .val (.ref ao), .val (.ref aw), .val (.ref at3), .val (.ref x1), .val (.ref b2)] [(.ref x1)])) rfl (by rw [hml]; rfl) (argsL := [(.ref x1)]) (rest := []) (lenOf pd6 rfl) rfl (by show 2 * 0 + _ ≤ _; exact Nat.le_of_eq rfl) (hb hby at_273) (fun _ _ => ⟨rfl, e128, (by decide : 12 + 1 ≤ _), (by decide : 40 + 6 ≤ _)⟩)
            dsimp only [Pt.U, Pt.locs, Pt.cells, Pt.slots] at X129 l129 y129 z129 st129 hQ129
            subst l129 y129 z129
            obtain ⟨hv129, N129, E129⟩ := hQ129
            rw [hof] at hv129
            subst hv129
            have M129 := Fr.app N0 N129
            refine EndsK.go st129 ?_
            show EndsK p e below _ (T129.setTop (mkF m 276 #[.val (.int i0), .val (.int i1), .val (.int i2), .val (.int i3), .val (.int r0), .val (.int r1), .val (.int r2), .val (.int (i0 &&& (3 : Int32))), .val (.ref an), .val (.ref ao), .val (.ref aw), .val (.ref at3), .val (.ref x1), .val (.ref b2)] [(.ref b2)]))
            refine EndsK.go (fun _ kz => XS.aload X129.here hx rfl (hb hby at_276) rfl rfl kz) ?_
            show EndsK p e below _ (T129.setTop (mkF m 278 #[.val (.int i0), .val (.int i1), .val (.int i2), .val (.int i3), .val (.int r0), .val (.int r1), .val (.int r2), .val (.int (i0 &&& (3 : Int32))), .val (.ref an), .val (.ref ao), .val (.ref aw), .val (.ref at3), .val (.ref x1), .val (.ref b2)] [(.ref b2), (.ref b2)]))
            refine EndsK.go (fun _ kz => Jvm.RoadKit.acmp (g := (mkF m 278 #[.val (.int i0), .val (.int i1), .val (.int i2), .val (.int i3), .val (.int r0), .val (.int r1), .val (.int r2), .val (.int (i0 &&& (3 : Int32))), .val (.ref an), .val (.ref ao), .val (.ref aw), .val (.ref at3), .val (.ref x1), .val (.ref b2)] [(.ref b2), (.ref b2)])) X129 hx rfl rfl rfl (pc0 := 278) (pc' := 281) (same := true) rfl (hb hby at_278) rfl (decide_eq_true rfl) (by decide) (by decide) kz) ?_
            show EndsK p e below _ (T129.setTop (mkF m 281 #[.val (.int i0), .val (.int i1), .val (.int i2), .val (.int i3), .val (.int r0), .val (.int r1), .val (.int r2), .val (.int (i0 &&& (3 : Int32))), .val (.ref an), .val (.ref ao), .val (.ref aw), .val (.ref at3), .val (.ref x1), .val (.ref b2)] []))
            refine EndsK.go (fun _ kz => XS.iconst X129.here hx rfl (hb hby at_281) kz) ?_
            show EndsK p e below _ (T129.setTop (mkF m 282 #[.val (.int i0), .val (.int i1), .val (.int i2), .val (.int i3), .val (.int r0), .val (.int r1), .val (.int r2), .val (.int (i0 &&& (3 : Int32))), .val (.ref an), .val (.ref ao), .val (.ref aw), .val (.ref at3), .val (.ref x1), .val (.ref b2)] [(.int (1 : Int32))]))
            refine EndsK.go (fun _ kz => XS.goto X129.here hx rfl (pc0 := 282) (pc' := 286) rfl (hb hby at_282) (by decide) (by decide) kz) ?_
            show EndsK p e below _ (T129.setTop (mkF m 286 #[.val (.int i0), .val (.int i1), .val (.int i2), .val (.int i3), .val (.int r0), .val (.int r1), .val (.int r2), .val (.int (i0 &&& (3 : Int32))), .val (.ref an), .val (.ref ao), .val (.ref aw), .val (.ref at3), .val (.ref x1), .val (.ref b2)] [(.int (1 : Int32))]))
            exact endN X129 hx (t := .boolean) Bd.returns (by simp) (hb hby at_286) hlk ⟨rfl, M129⟩ (by decide) (by decide)
          · refine EndsK.go (fun _ kz => XS.icmpYes Y122.here hx rfl (pc0 := 190) (pc' := 201) rfl (hb hby at_190) rfl (feq H190_127).2 (by decide) (by decide) kz) ?_
            show EndsK p e below _ (T122.setTop (mkF m 201 #[.val (.int i0), .val (.int i1), .val (.int i2), .val (.int i3), .val (.int r0), .val (.int r1), .val (.int r2), .val (.int (i0 &&& (3 : Int32))), .val (.ref an), .val (.ref ao), .val (.ref aw), .val (.ref at3), .val (.ref x1), .val .null] []))
            refine EndsK.go (fun _ kz => XS.iload Y122.here hx rfl (hb hby at_201) rfl kz) ?_
            show EndsK p e below _ (T122.setTop (mkF m 203 #[.val (.int i0), .val (.int i1), .val (.int i2), .val (.int i3), .val (.int r0), .val (.int r1), .val (.int r2), .val (.int (i0 &&& (3 : Int32))), .val (.ref an), .val (.ref ao), .val (.ref aw), .val (.ref at3), .val (.ref x1), .val .null] [(.int r0)]))
            refine EndsK.go (fun _ kz => XS.bipush Y122.here hx rfl (hb hby at_203) kz) ?_
            show EndsK p e below _ (T122.setTop (mkF m 205 #[.val (.int i0), .val (.int i1), .val (.int i2), .val (.int i3), .val (.int r0), .val (.int r1), .val (.int r2), .val (.int (i0 &&& (3 : Int32))), .val (.ref an), .val (.ref ao), .val (.ref aw), .val (.ref at3), .val (.ref x1), .val .null] [(.int (62 : Int32)), (.int r0)]))
            by_cases H205_130 : r0 = (62 : Int32)
            · refine EndsK.go (fun _ kz => XS.icmpNo Y122.here hx rfl (hb hby at_205) rfl (teq H205_130).2 kz) ?_
              show EndsK p e below _ (T122.setTop (mkF m 208 #[.val (.int i0), .val (.int i1), .val (.int i2), .val (.int i3), .val (.int r0), .val (.int r1), .val (.int r2), .val (.int (i0 &&& (3 : Int32))), .val (.ref an), .val (.ref ao), .val (.ref aw), .val (.ref at3), .val (.ref x1), .val .null] []))
              obtain ⟨T131, X131, e131, st131⟩ := getS2 Y122 hx hZ hown (host := "") (Or.inl (hw _ (List.mem_of_getElem? (i := 74) rfl))) Via.refl e122 (SN4.ext P122) (g := (mkF m 208 #[.val (.int i0), .val (.int i1), .val (.int i2), .val (.int i3), .val (.int r0), .val (.int r1), .val (.int r2), .val (.int (i0 &&& (3 : Int32))), .val (.ref an), .val (.ref ao), .val (.ref aw), .val (.ref at3), .val (.ref x1), .val .null] [])) rfl (hb hby at_208)
              refine EndsK.go st131 ?_
              show EndsK p e below _ (T131.setTop (mkF m 211 #[.val (.int i0), .val (.int i1), .val (.int i2), .val (.int i3), .val (.int r0), .val (.int r1), .val (.int r2), .val (.int (i0 &&& (3 : Int32))), .val (.ref an), .val (.ref ao), .val (.ref aw), .val (.ref at3), .val (.ref x1), .val .null] [(.ref b4)]))
              refine EndsK.go (fun _ kz => XS.astore X131.here hx rfl (hb hby at_211) rfl rfl (l' := #[.val (.int i0), .val (.int i1), .val (.int i2), .val (.int i3), .val (.int r0), .val (.int r1), .val (.int r2), .val (.int (i0 &&& (3 : Int32))), .val (.ref an), .val (.ref ao), .val (.ref aw), .val (.ref at3), .val (.ref x1), .val (.ref b4)]) rfl kz) ?_
              show EndsK p e below _ (T131.setTop (mkF m 213 #[.val (.int i0), .val (.int i1), .val (.int i2), .val (.int i3), .val (.int r0), .val (.int r1), .val (.int r2), .val (.int (i0 &&& (3 : Int32))), .val (.ref an), .val (.ref ao), .val (.ref aw), .val (.ref at3), .val (.ref x1), .val (.ref b4)] []))
              refine EndsK.go (fun _ kz => XS.goto X131.here hx rfl (pc0 := 213) (pc' := 271) rfl (hb hby at_213) (by decide) (by decide) kz) ?_
              show EndsK p e below _ (T131.setTop (mkF m 271 #[.val (.int i0), .val (.int i1), .val (.int i2), .val (.int i3), .val (.int r0), .val (.int r1), .val (.int r2), .val (.int (i0 &&& (3 : Int32))), .val (.ref an), .val (.ref ao), .val (.ref aw), .val (.ref at3), .val (.ref x1), .val (.ref b4)] []))
              refine EndsK.go (fun _ kz => XS.aload X131.here hx rfl (hb hby at_271) rfl rfl kz) ?_
              show EndsK p e below _ (T131.setTop (mkF m 273 #[.val (.int i0), .val (.int i1), .val (.int i2), .val (.int i3), .val (.int r0), .val (.int r1), .val (.int r2), .val (.int (i0 &&& (3 : Int32))), .val (.ref an), .val (.ref ao), .val (.ref aw), .val (.ref at3), .val (.ref x1), .val (.ref b4)] [(.ref x1)]))
              have hof : ofL [((lf1 (61 : Int32) ((nar .char r0).toInt8.toInt32)), .ref b0), ((0 : Int32), .ref b1), ((lf1 (60 : Int32) ((nar .char r0).toInt8.toInt32)), .ref b2), ((0 : Int32), .ref b3), ((lf1 (62 : Int32) ((nar .char r0).toInt8.toInt32)), .ref b4), ((0 : Int32), .ref b5)] = (.ref b4) := by simp only [lf1, lf2, b8 r0 (61 : Int32) 61 ga0 gb0 rfl (by decide) (by decide), b8 r0 (60 : Int32) 60 ga0 gb0 rfl (by decide) (by decide), b8 r0 (62 : Int32) 62 ga0 gb0 rfl (by decide) (by decide)]; simp [ofL, H175_124, H190_127, H205_130]
              obtain ⟨_, _, ⟨T132, L132, k132, n132⟩, -, X132, ⟨Lc132, hQ132, l132, y132, z132⟩, st132⟩ := Jvm.LawKit.callS X131 hx (y := (⟨"com/example/windrow/windrow/Condition$Comparison", "of", "(Ljava/lang/String;)Lcom/example/windrow/windrow/Condition$Comparison;"⟩ : MethodName)) hown (mvT hZ (hw _ (List.mem_of_getElem? (i := 26) rfl))) (mvT hZ (hw _ (List.mem_of_getElem? (i := 27) rfl))) (mvT hZ (hw _ (List.mem_of_getElem? (i := 28) rfl))) (mvT hZ (hw _ (List.mem_of_getElem? (i := 29) rfl))) (by decide) (backOf (W := 0) (rm_of1 l Z a0 hw [] x1 vb122 cb122 zc ((nar .char r0).toInt8.toInt32) av cv b0 b1 b2 b3 b4 b5 s0 s1 s2 s3 s4 s5 v0 v1 v2 v3 v4 v5 c0 c1 c2 c3 c4 c5 h122 n0 Z122 (fun q => absurd Es0.lt (by rw [q]; exact Nat.not_lt.mpr sz_x1)) (fun q => absurd Es1.lt (by rw [q]; exact Nat.not_lt.mpr sz_x1)) (fun q => absurd Es2.lt (by rw [q]; exact Nat.not_lt.mpr sz_x1)) (fun q => absurd Es3.lt (by rw [q]; exact Nat.not_lt.mpr sz_x1)) (fun q => absurd Es4.lt (by rw [q]; exact Nat.not_lt.mpr sz_x1)) (fun q => absurd Es5.lt (by rw [q]; exact Nat.not_lt.mpr sz_x1)) Ex122 Fc122 Fv122 (SC.ext P122) hzc Ab122 (by rw [Sz122]; rfl) ⟨inb_of (j := (0 : Int32)) Sz122 ⟨by decide, by decide⟩, (Hb122 0 (by rw [Sz122]; decide)).trans rfl⟩ (SV.ext P122) (AV.ext P122) (EV.ext P122) FV hsz w0 (Fb0.ext P122) (Es0.ext P122) (Fc0.ext P122) (Fv0.ext P122) (Av0.ext P122) zv0 uv0_0 w1 (Fb1.ext P122) (Es1.ext P122) (Fc1.ext P122) (Fv1.ext P122) (Av1.ext P122) zv1 uv1_0 uv1_1 w2 (Fb2.ext P122) (Es2.ext P122) (Fc2.ext P122) (Fv2.ext P122) (Av2.ext P122) zv2 uv2_0 w3 (Fb3.ext P122) (Es3.ext P122) (Fc3.ext P122) (Fv3.ext P122) (Av3.ext P122) zv3 uv3_0 uv3_1 w4 (Fb4.ext P122) (Es4.ext P122) (Fc4.ext P122) (Fv4.ext P122) (Av4.ext P122) zv4 uv4_0 w5 (Fb5.ext P122) (Es5.ext P122) (Fc5.ext P122) (Fv5.ext P122) (Av5.ext P122) zv5 uv5_0 uv5_1) hZ (hw _ (List.mem_of_getElem? (i := 29) rfl)) (hw _ (List.mem_of_getElem? (i := 28) rfl)) (by decide) (by decide)) (g := (mkF m 273 #[.val (.int i0), .val (.int i1), .val (.int i2), .val (.int i3), .val (.int r0), .val (.int r1), .val (.int r2), .val (.int (i0 &&& (3 : Int32))), .val (.ref an), .val (.ref ao), .val (.ref aw), .val (.ref at3), .val (.ref x1), .val (.ref b4)] [(.ref x1)])) rfl (by rw [hml]; rfl) (argsL := [(.ref x1)]) (rest := []) (lenOf pd6 rfl) rfl (by show 2 * 0 + _ ≤ _; exact Nat.le_of_eq rfl) (hb hby at_273) (fun _ _ => ⟨rfl, e131, (by decide : 12 + 1 ≤ _), (by decide : 40 + 6 ≤ _)⟩)
              dsimp only [Pt.U, Pt.locs, Pt.cells, Pt.slots] at X132 l132 y132 z132 st132 hQ132
              subst l132 y132 z132
              obtain ⟨hv132, N132, E132⟩ := hQ132
              rw [hof] at hv132
              subst hv132
              have M132 := Fr.app N0 N132
              refine EndsK.go st132 ?_
              show EndsK p e below _ (T132.setTop (mkF m 276 #[.val (.int i0), .val (.int i1), .val (.int i2), .val (.int i3), .val (.int r0), .val (.int r1), .val (.int r2), .val (.int (i0 &&& (3 : Int32))), .val (.ref an), .val (.ref ao), .val (.ref aw), .val (.ref at3), .val (.ref x1), .val (.ref b4)] [(.ref b4)]))
              refine EndsK.go (fun _ kz => XS.aload X132.here hx rfl (hb hby at_276) rfl rfl kz) ?_
              show EndsK p e below _ (T132.setTop (mkF m 278 #[.val (.int i0), .val (.int i1), .val (.int i2), .val (.int i3), .val (.int r0), .val (.int r1), .val (.int r2), .val (.int (i0 &&& (3 : Int32))), .val (.ref an), .val (.ref ao), .val (.ref aw), .val (.ref at3), .val (.ref x1), .val (.ref b4)] [(.ref b4), (.ref b4)]))
              refine EndsK.go (fun _ kz => Jvm.RoadKit.acmp (g := (mkF m 278 #[.val (.int i0), .val (.int i1), .val (.int i2), .val (.int i3), .val (.int r0), .val (.int r1), .val (.int r2), .val (.int (i0 &&& (3 : Int32))), .val (.ref an), .val (.ref ao), .val (.ref aw), .val (.ref at3), .val (.ref x1), .val (.ref b4)] [(.ref b4), (.ref b4)])) X132 hx rfl rfl rfl (pc0 := 278) (pc' := 281) (same := true) rfl (hb hby at_278) rfl (decide_eq_true rfl) (by decide) (by decide) kz) ?_
              show EndsK p e below _ (T132.setTop (mkF m 281 #[.val (.int i0), .val (.int i1), .val (.int i2), .val (.int i3), .val (.int r0), .val (.int r1), .val (.int r2), .val (.int (i0 &&& (3 : Int32))), .val (.ref an), .val (.ref ao), .val (.ref aw), .val (.ref at3), .val (.ref x1), .val (.ref b4)] []))
              refine EndsK.go (fun _ kz => XS.iconst X132.here hx rfl (hb hby at_281) kz) ?_
              show EndsK p e below _ (T132.setTop (mkF m 282 #[.val (.int i0), .val (.int i1), .val (.int i2), .val (.int i3), .val (.int r0), .val (.int r1), .val (.int r2), .val (.int (i0 &&& (3 : Int32))), .val (.ref an), .val (.ref ao), .val (.ref aw), .val (.ref at3), .val (.ref x1), .val (.ref b4)] [(.int (1 : Int32))]))
              refine EndsK.go (fun _ kz => XS.goto X132.here hx rfl (pc0 := 282) (pc' := 286) rfl (hb hby at_282) (by decide) (by decide) kz) ?_
              show EndsK p e below _ (T132.setTop (mkF m 286 #[.val (.int i0), .val (.int i1), .val (.int i2), .val (.int i3), .val (.int r0), .val (.int r1), .val (.int r2), .val (.int (i0 &&& (3 : Int32))), .val (.ref an), .val (.ref ao), .val (.ref aw), .val (.ref at3), .val (.ref x1), .val (.ref b4)] [(.int (1 : Int32))]))
              exact endN X132 hx (t := .boolean) Bd.returns (by simp) (hb hby at_286) hlk ⟨rfl, M132⟩ (by decide) (by decide)
            · refine EndsK.go (fun _ kz => XS.icmpYes Y122.here hx rfl (pc0 := 205) (pc' := 271) rfl (hb hby at_205) rfl (feq H205_130).2 (by decide) (by decide) kz) ?_
              show EndsK p e below _ (T122.setTop (mkF m 271 #[.val (.int i0), .val (.int i1), .val (.int i2), .val (.int i3), .val (.int r0), .val (.int r1), .val (.int r2), .val (.int (i0 &&& (3 : Int32))), .val (.ref an), .val (.ref ao), .val (.ref aw), .val (.ref at3), .val (.ref x1), .val .null] []))
              refine EndsK.go (fun _ kz => XS.aload Y122.here hx rfl (hb hby at_271) rfl rfl kz) ?_
              show EndsK p e below _ (T122.setTop (mkF m 273 #[.val (.int i0), .val (.int i1), .val (.int i2), .val (.int i3), .val (.int r0), .val (.int r1), .val (.int r2), .val (.int (i0 &&& (3 : Int32))), .val (.ref an), .val (.ref ao), .val (.ref aw), .val (.ref at3), .val (.ref x1), .val .null] [(.ref x1)]))
              have hof : ofL [((lf1 (61 : Int32) ((nar .char r0).toInt8.toInt32)), .ref b0), ((0 : Int32), .ref b1), ((lf1 (60 : Int32) ((nar .char r0).toInt8.toInt32)), .ref b2), ((0 : Int32), .ref b3), ((lf1 (62 : Int32) ((nar .char r0).toInt8.toInt32)), .ref b4), ((0 : Int32), .ref b5)] = .null := by simp only [lf1, lf2, b8 r0 (61 : Int32) 61 ga0 gb0 rfl (by decide) (by decide), b8 r0 (60 : Int32) 60 ga0 gb0 rfl (by decide) (by decide), b8 r0 (62 : Int32) 62 ga0 gb0 rfl (by decide) (by decide)]; simp [ofL, H175_124, H190_127, H205_130]
              obtain ⟨_, _, ⟨T133, L133, k133, n133⟩, -, X133, ⟨Lc133, hQ133, l133, y133, z133⟩, st133⟩ := Jvm.LawKit.callS Y122 hx (y := (⟨"com/example/windrow/windrow/Condition$Comparison", "of", "(Ljava/lang/String;)Lcom/example/windrow/windrow/Condition$Comparison;"⟩ : MethodName)) hown (mvT hZ (hw _ (List.mem_of_getElem? (i := 26) rfl))) (mvT hZ (hw _ (List.mem_of_getElem? (i := 27) rfl))) (mvT hZ (hw _ (List.mem_of_getElem? (i := 28) rfl))) (mvT hZ (hw _ (List.mem_of_getElem? (i := 29) rfl))) (by decide) (backOf (W := 0) (rm_of1 l Z a0 hw [] x1 vb122 cb122 zc ((nar .char r0).toInt8.toInt32) av cv b0 b1 b2 b3 b4 b5 s0 s1 s2 s3 s4 s5 v0 v1 v2 v3 v4 v5 c0 c1 c2 c3 c4 c5 h122 n0 Z122 (fun q => absurd Es0.lt (by rw [q]; exact Nat.not_lt.mpr sz_x1)) (fun q => absurd Es1.lt (by rw [q]; exact Nat.not_lt.mpr sz_x1)) (fun q => absurd Es2.lt (by rw [q]; exact Nat.not_lt.mpr sz_x1)) (fun q => absurd Es3.lt (by rw [q]; exact Nat.not_lt.mpr sz_x1)) (fun q => absurd Es4.lt (by rw [q]; exact Nat.not_lt.mpr sz_x1)) (fun q => absurd Es5.lt (by rw [q]; exact Nat.not_lt.mpr sz_x1)) Ex122 Fc122 Fv122 (SC.ext P122) hzc Ab122 (by rw [Sz122]; rfl) ⟨inb_of (j := (0 : Int32)) Sz122 ⟨by decide, by decide⟩, (Hb122 0 (by rw [Sz122]; decide)).trans rfl⟩ (SV.ext P122) (AV.ext P122) (EV.ext P122) FV hsz w0 (Fb0.ext P122) (Es0.ext P122) (Fc0.ext P122) (Fv0.ext P122) (Av0.ext P122) zv0 uv0_0 w1 (Fb1.ext P122) (Es1.ext P122) (Fc1.ext P122) (Fv1.ext P122) (Av1.ext P122) zv1 uv1_0 uv1_1 w2 (Fb2.ext P122) (Es2.ext P122) (Fc2.ext P122) (Fv2.ext P122) (Av2.ext P122) zv2 uv2_0 w3 (Fb3.ext P122) (Es3.ext P122) (Fc3.ext P122) (Fv3.ext P122) (Av3.ext P122) zv3 uv3_0 uv3_1 w4 (Fb4.ext P122) (Es4.ext P122) (Fc4.ext P122) (Fv4.ext P122) (Av4.ext P122) zv4 uv4_0 w5 (Fb5.ext P122) (Es5.ext P122) (Fc5.ext P122) (Fv5.ext P122) (Av5.ext P122) zv5 uv5_0 uv5_1) hZ (hw _ (List.mem_of_getElem? (i := 29) rfl)) (hw _ (List.mem_of_getElem? (i := 28) rfl)) (by decide) (by decide)) (g := (mkF m 273 #[.val (.int i0), .val (.int i1), .val (.int i2), .val (.int i3), .val (.int r0), .val (.int r1), .val (.int r2), .val (.int (i0 &&& (3 : Int32))), .val (.ref an), .val (.ref ao), .val (.ref aw), .val (.ref at3), .val (.ref x1), .val .null] [(.ref x1)])) rfl (by rw [hml]; rfl) (argsL := [(.ref x1)]) (rest := []) (lenOf pd6 rfl) rfl (by show 2 * 0 + _ ≤ _; exact Nat.le_of_eq rfl) (hb hby at_273) (fun _ _ => ⟨rfl, e122, (by decide : 12 + 1 ≤ _), (by decide : 40 + 6 ≤ _)⟩)
              dsimp only [Pt.U, Pt.locs, Pt.cells, Pt.slots] at X133 l133 y133 z133 st133 hQ133
              subst l133 y133 z133
              obtain ⟨hv133, N133, E133⟩ := hQ133
              rw [hof] at hv133
              subst hv133
              have M133 := Fr.app N0 N133
              refine EndsK.go st133 ?_
              show EndsK p e below _ (T133.setTop (mkF m 276 #[.val (.int i0), .val (.int i1), .val (.int i2), .val (.int i3), .val (.int r0), .val (.int r1), .val (.int r2), .val (.int (i0 &&& (3 : Int32))), .val (.ref an), .val (.ref ao), .val (.ref aw), .val (.ref at3), .val (.ref x1), .val .null] [.null]))
              refine EndsK.go (fun _ kz => XS.aload X133.here hx rfl (hb hby at_276) rfl rfl kz) ?_
              show EndsK p e below _ (T133.setTop (mkF m 278 #[.val (.int i0), .val (.int i1), .val (.int i2), .val (.int i3), .val (.int r0), .val (.int r1), .val (.int r2), .val (.int (i0 &&& (3 : Int32))), .val (.ref an), .val (.ref ao), .val (.ref aw), .val (.ref at3), .val (.ref x1), .val .null] [.null, .null]))
              refine EndsK.go (fun _ kz => Jvm.RoadKit.acmp (g := (mkF m 278 #[.val (.int i0), .val (.int i1), .val (.int i2), .val (.int i3), .val (.int r0), .val (.int r1), .val (.int r2), .val (.int (i0 &&& (3 : Int32))), .val (.ref an), .val (.ref ao), .val (.ref aw), .val (.ref at3), .val (.ref x1), .val .null] [.null, .null])) X133 hx rfl rfl rfl (pc0 := 278) (pc' := 281) (same := true) rfl (hb hby at_278) rfl (decide_eq_true rfl) (by decide) (by decide) kz) ?_
              show EndsK p e below _ (T133.setTop (mkF m 281 #[.val (.int i0), .val (.int i1), .val (.int i2), .val (.int i3), .val (.int r0), .val (.int r1), .val (.int r2), .val (.int (i0 &&& (3 : Int32))), .val (.ref an), .val (.ref ao), .val (.ref aw), .val (.ref at3), .val (.ref x1), .val .null] []))
              refine EndsK.go (fun _ kz => XS.iconst X133.here hx rfl (hb hby at_281) kz) ?_
              show EndsK p e below _ (T133.setTop (mkF m 282 #[.val (.int i0), .val (.int i1), .val (.int i2), .val (.int i3), .val (.int r0), .val (.int r1), .val (.int r2), .val (.int (i0 &&& (3 : Int32))), .val (.ref an), .val (.ref ao), .val (.ref aw), .val (.ref at3), .val (.ref x1), .val .null] [(.int (1 : Int32))]))
              refine EndsK.go (fun _ kz => XS.goto X133.here hx rfl (pc0 := 282) (pc' := 286) rfl (hb hby at_282) (by decide) (by decide) kz) ?_
              show EndsK p e below _ (T133.setTop (mkF m 286 #[.val (.int i0), .val (.int i1), .val (.int i2), .val (.int i3), .val (.int r0), .val (.int r1), .val (.int r2), .val (.int (i0 &&& (3 : Int32))), .val (.ref an), .val (.ref ao), .val (.ref aw), .val (.ref at3), .val (.ref x1), .val .null] [(.int (1 : Int32))]))
              exact endN X133 hx (t := .boolean) Bd.returns (by simp) (hb hby at_286) hlk ⟨rfl, M133⟩ (by decide) (by decide)
      · refine EndsK.go (fun _ kz => XS.ifNo Y122.here hx rfl (hb hby at_146) rfl ((if0 _ _).trans (feq H146_123).1) kz) ?_
        show EndsK p e below _ (T122.setTop (mkF m 149 #[.val (.int i0), .val (.int i1), .val (.int i2), .val (.int i3), .val (.int r0), .val (.int r1), .val (.int r2), .val (.int (i0 &&& (3 : Int32))), .val (.ref an), .val (.ref ao), .val (.ref aw), .val (.ref at3), .val (.ref x1), .unset] []))
        refine EndsK.go (fun _ kz => XS.iload Y122.here hx rfl (hb hby at_149) rfl kz) ?_
        show EndsK p e below _ (T122.setTop (mkF m 151 #[.val (.int i0), .val (.int i1), .val (.int i2), .val (.int i3), .val (.int r0), .val (.int r1), .val (.int r2), .val (.int (i0 &&& (3 : Int32))), .val (.ref an), .val (.ref ao), .val (.ref aw), .val (.ref at3), .val (.ref x1), .unset] [(.int (i0 &&& (3 : Int32)))]))
        refine EndsK.go (fun _ kz => XS.ifYes Y122.here hx rfl (pc0 := 151) (pc' := 157) rfl (hb hby at_151) rfl ((if0 _ _).trans (feq (by rw [H95_120]; decide : ¬ ((i0 &&& (3 : Int32)) = (0 : Int32)))).2) (by decide) (by decide) kz) ?_
        show EndsK p e below _ (T122.setTop (mkF m 157 #[.val (.int i0), .val (.int i1), .val (.int i2), .val (.int i3), .val (.int r0), .val (.int r1), .val (.int r2), .val (.int (i0 &&& (3 : Int32))), .val (.ref an), .val (.ref ao), .val (.ref aw), .val (.ref at3), .val (.ref x1), .unset] []))
        refine EndsK.go (fun _ kz => XS.aconstNull Y122.here hx rfl (hb hby at_157) kz) ?_
        show EndsK p e below _ (T122.setTop (mkF m 158 #[.val (.int i0), .val (.int i1), .val (.int i2), .val (.int i3), .val (.int r0), .val (.int r1), .val (.int r2), .val (.int (i0 &&& (3 : Int32))), .val (.ref an), .val (.ref ao), .val (.ref aw), .val (.ref at3), .val (.ref x1), .unset] [.null]))
        refine EndsK.go (fun _ kz => XS.astore Y122.here hx rfl (hb hby at_158) rfl rfl (l' := #[.val (.int i0), .val (.int i1), .val (.int i2), .val (.int i3), .val (.int r0), .val (.int r1), .val (.int r2), .val (.int (i0 &&& (3 : Int32))), .val (.ref an), .val (.ref ao), .val (.ref aw), .val (.ref at3), .val (.ref x1), .val .null]) rfl kz) ?_
        show EndsK p e below _ (T122.setTop (mkF m 160 #[.val (.int i0), .val (.int i1), .val (.int i2), .val (.int i3), .val (.int r0), .val (.int r1), .val (.int r2), .val (.int (i0 &&& (3 : Int32))), .val (.ref an), .val (.ref ao), .val (.ref aw), .val (.ref at3), .val (.ref x1), .val .null] []))
        refine EndsK.go (fun _ kz => XS.aload Y122.here hx rfl (hb hby at_160) rfl rfl kz) ?_
        show EndsK p e below _ (T122.setTop (mkF m 162 #[.val (.int i0), .val (.int i1), .val (.int i2), .val (.int i3), .val (.int r0), .val (.int r1), .val (.int r2), .val (.int (i0 &&& (3 : Int32))), .val (.ref an), .val (.ref ao), .val (.ref aw), .val (.ref at3), .val (.ref x1), .val .null] [(.ref x1)]))
        refine EndsK.go (fun _ kz => XS.ifnullNo Y122.here hx rfl (hb hby at_162) rfl kz) ?_
        show EndsK p e below _ (T122.setTop (mkF m 165 #[.val (.int i0), .val (.int i1), .val (.int i2), .val (.int i3), .val (.int r0), .val (.int r1), .val (.int r2), .val (.int (i0 &&& (3 : Int32))), .val (.ref an), .val (.ref ao), .val (.ref aw), .val (.ref at3), .val (.ref x1), .val .null] []))
        refine EndsK.go (fun _ kz => XS.iload Y122.here hx rfl (hb hby at_165) rfl kz) ?_
        show EndsK p e below _ (T122.setTop (mkF m 167 #[.val (.int i0), .val (.int i1), .val (.int i2), .val (.int i3), .val (.int r0), .val (.int r1), .val (.int r2), .val (.int (i0 &&& (3 : Int32))), .val (.ref an), .val (.ref ao), .val (.ref aw), .val (.ref at3), .val (.ref x1), .val .null] [(.int (i0 &&& (3 : Int32)))]))
        refine EndsK.go (fun _ kz => XS.iconst Y122.here hx rfl (hb hby at_167) kz) ?_
        show EndsK p e below _ (T122.setTop (mkF m 168 #[.val (.int i0), .val (.int i1), .val (.int i2), .val (.int i3), .val (.int r0), .val (.int r1), .val (.int r2), .val (.int (i0 &&& (3 : Int32))), .val (.ref an), .val (.ref ao), .val (.ref aw), .val (.ref at3), .val (.ref x1), .val .null] [(.int (1 : Int32)), (.int (i0 &&& (3 : Int32)))]))
        refine EndsK.go (fun _ kz => XS.icmpNo Y122.here hx rfl (hb hby at_168) rfl (teq H95_120).2 kz) ?_
        show EndsK p e below _ (T122.setTop (mkF m 171 #[.val (.int i0), .val (.int i1), .val (.int i2), .val (.int i3), .val (.int r0), .val (.int r1), .val (.int r2), .val (.int (i0 &&& (3 : Int32))), .val (.ref an), .val (.ref ao), .val (.ref aw), .val (.ref at3), .val (.ref x1), .val .null] []))
        refine EndsK.go (fun _ kz => XS.iload Y122.here hx rfl (hb hby at_171) rfl kz) ?_
        show EndsK p e below _ (T122.setTop (mkF m 173 #[.val (.int i0), .val (.int i1), .val (.int i2), .val (.int i3), .val (.int r0), .val (.int r1), .val (.int r2), .val (.int (i0 &&& (3 : Int32))), .val (.ref an), .val (.ref ao), .val (.ref aw), .val (.ref at3), .val (.ref x1), .val .null] [(.int r0)]))
        refine EndsK.go (fun _ kz => XS.bipush Y122.here hx rfl (hb hby at_173) kz) ?_
        show EndsK p e below _ (T122.setTop (mkF m 175 #[.val (.int i0), .val (.int i1), .val (.int i2), .val (.int i3), .val (.int r0), .val (.int r1), .val (.int r2), .val (.int (i0 &&& (3 : Int32))), .val (.ref an), .val (.ref ao), .val (.ref aw), .val (.ref at3), .val (.ref x1), .val .null] [(.int (61 : Int32)), (.int r0)]))
        by_cases H175_134 : r0 = (61 : Int32)
        · refine EndsK.go (fun _ kz => XS.icmpNo Y122.here hx rfl (hb hby at_175) rfl (teq H175_134).2 kz) ?_
          show EndsK p e below _ (T122.setTop (mkF m 178 #[.val (.int i0), .val (.int i1), .val (.int i2), .val (.int i3), .val (.int r0), .val (.int r1), .val (.int r2), .val (.int (i0 &&& (3 : Int32))), .val (.ref an), .val (.ref ao), .val (.ref aw), .val (.ref at3), .val (.ref x1), .val .null] []))
          obtain ⟨T135, X135, e135, st135⟩ := getS2 Y122 hx hZ hown (host := "") (Or.inl (hw _ (List.mem_of_getElem? (i := 77) rfl))) Via.refl e122 (SN0.ext P122) (g := (mkF m 178 #[.val (.int i0), .val (.int i1), .val (.int i2), .val (.int i3), .val (.int r0), .val (.int r1), .val (.int r2), .val (.int (i0 &&& (3 : Int32))), .val (.ref an), .val (.ref ao), .val (.ref aw), .val (.ref at3), .val (.ref x1), .val .null] [])) rfl (hb hby at_178)
          refine EndsK.go st135 ?_
          show EndsK p e below _ (T135.setTop (mkF m 181 #[.val (.int i0), .val (.int i1), .val (.int i2), .val (.int i3), .val (.int r0), .val (.int r1), .val (.int r2), .val (.int (i0 &&& (3 : Int32))), .val (.ref an), .val (.ref ao), .val (.ref aw), .val (.ref at3), .val (.ref x1), .val .null] [(.ref b0)]))
          refine EndsK.go (fun _ kz => XS.astore X135.here hx rfl (hb hby at_181) rfl rfl (l' := #[.val (.int i0), .val (.int i1), .val (.int i2), .val (.int i3), .val (.int r0), .val (.int r1), .val (.int r2), .val (.int (i0 &&& (3 : Int32))), .val (.ref an), .val (.ref ao), .val (.ref aw), .val (.ref at3), .val (.ref x1), .val (.ref b0)]) rfl kz) ?_
          show EndsK p e below _ (T135.setTop (mkF m 183 #[.val (.int i0), .val (.int i1), .val (.int i2), .val (.int i3), .val (.int r0), .val (.int r1), .val (.int r2), .val (.int (i0 &&& (3 : Int32))), .val (.ref an), .val (.ref ao), .val (.ref aw), .val (.ref at3), .val (.ref x1), .val (.ref b0)] []))
          refine EndsK.go (fun _ kz => XS.goto X135.here hx rfl (pc0 := 183) (pc' := 271) rfl (hb hby at_183) (by decide) (by decide) kz) ?_
          show EndsK p e below _ (T135.setTop (mkF m 271 #[.val (.int i0), .val (.int i1), .val (.int i2), .val (.int i3), .val (.int r0), .val (.int r1), .val (.int r2), .val (.int (i0 &&& (3 : Int32))), .val (.ref an), .val (.ref ao), .val (.ref aw), .val (.ref at3), .val (.ref x1), .val (.ref b0)] []))
          refine EndsK.go (fun _ kz => XS.aload X135.here hx rfl (hb hby at_271) rfl rfl kz) ?_
          show EndsK p e below _ (T135.setTop (mkF m 273 #[.val (.int i0), .val (.int i1), .val (.int i2), .val (.int i3), .val (.int r0), .val (.int r1), .val (.int r2), .val (.int (i0 &&& (3 : Int32))), .val (.ref an), .val (.ref ao), .val (.ref aw), .val (.ref at3), .val (.ref x1), .val (.ref b0)] [(.ref x1)]))
          have hof : ofL [((lf1 (61 : Int32) ((nar .char r0).toInt8.toInt32)), .ref b0), ((0 : Int32), .ref b1), ((lf1 (60 : Int32) ((nar .char r0).toInt8.toInt32)), .ref b2), ((0 : Int32), .ref b3), ((lf1 (62 : Int32) ((nar .char r0).toInt8.toInt32)), .ref b4), ((0 : Int32), .ref b5)] = (.ref b0) := by simp only [lf1, lf2, b8 r0 (61 : Int32) 61 ga0 gb0 rfl (by decide) (by decide), b8 r0 (60 : Int32) 60 ga0 gb0 rfl (by decide) (by decide), b8 r0 (62 : Int32) 62 ga0 gb0 rfl (by decide) (by decide)]; simp [ofL, H175_134]
          obtain ⟨_, _, ⟨T136, L136, k136, n136⟩, -, X136, ⟨Lc136, hQ136, l136, y136, z136⟩, st136⟩ := Jvm.LawKit.callS X135 hx (y := (⟨"com/example/windrow/windrow/Condition$Comparison", "of", "(Ljava/lang/String;)Lcom/example/windrow/windrow/Condition$Comparison;"⟩ : MethodName)) hown (mvT hZ (hw _ (List.mem_of_getElem? (i := 26) rfl))) (mvT hZ (hw _ (List.mem_of_getElem? (i := 27) rfl))) (mvT hZ (hw _ (List.mem_of_getElem? (i := 28) rfl))) (mvT hZ (hw _ (List.mem_of_getElem? (i := 29) rfl))) (by decide) (backOf (W := 0) (rm_of1 l Z a0 hw [] x1 vb122 cb122 zc ((nar .char r0).toInt8.toInt32) av cv b0 b1 b2 b3 b4 b5 s0 s1 s2 s3 s4 s5 v0 v1 v2 v3 v4 v5 c0 c1 c2 c3 c4 c5 h122 n0 Z122 (fun q => absurd Es0.lt (by rw [q]; exact Nat.not_lt.mpr sz_x1)) (fun q => absurd Es1.lt (by rw [q]; exact Nat.not_lt.mpr sz_x1)) (fun q => absurd Es2.lt (by rw [q]; exact Nat.not_lt.mpr sz_x1)) (fun q => absurd Es3.lt (by rw [q]; exact Nat.not_lt.mpr sz_x1)) (fun q => absurd Es4.lt (by rw [q]; exact Nat.not_lt.mpr sz_x1)) (fun q => absurd Es5.lt (by rw [q]; exact Nat.not_lt.mpr sz_x1)) Ex122 Fc122 Fv122 (SC.ext P122) hzc Ab122 (by rw [Sz122]; rfl) ⟨inb_of (j := (0 : Int32)) Sz122 ⟨by decide, by decide⟩, (Hb122 0 (by rw [Sz122]; decide)).trans rfl⟩ (SV.ext P122) (AV.ext P122) (EV.ext P122) FV hsz w0 (Fb0.ext P122) (Es0.ext P122) (Fc0.ext P122) (Fv0.ext P122) (Av0.ext P122) zv0 uv0_0 w1 (Fb1.ext P122) (Es1.ext P122) (Fc1.ext P122) (Fv1.ext P122) (Av1.ext P122) zv1 uv1_0 uv1_1 w2 (Fb2.ext P122) (Es2.ext P122) (Fc2.ext P122) (Fv2.ext P122) (Av2.ext P122) zv2 uv2_0 w3 (Fb3.ext P122) (Es3.ext P122) (Fc3.ext P122) (Fv3.ext P122) (Av3.ext P122) zv3 uv3_0 uv3_1 w4 (Fb4.ext P122) (Es4.ext P122) (Fc4.ext P122) (Fv4.ext P122) (Av4.ext P122) zv4 uv4_0 w5 (Fb5.ext P122) (Es5.ext P122) (Fc5.ext P122) (Fv5.ext P122) (Av5.ext P122) zv5 uv5_0 uv5_1) hZ (hw _ (List.mem_of_getElem? (i := 29) rfl)) (hw _ (List.mem_of_getElem? (i := 28) rfl)) (by decide) (by decide)) (g := (mkF m 273 #[.val (.int i0), .val (.int i1), .val (.int i2), .val (.int i3), .val (.int r0), .val (.int r1), .val (.int r2), .val (.int (i0 &&& (3 : Int32))), .val (.ref an), .val (.ref ao), .val (.ref aw), .val (.ref at3), .val (.ref x1), .val (.ref b0)] [(.ref x1)])) rfl (by rw [hml]; rfl) (argsL := [(.ref x1)]) (rest := []) (lenOf pd6 rfl) rfl (by show 2 * 0 + _ ≤ _; exact Nat.le_of_eq rfl) (hb hby at_273) (fun _ _ => ⟨rfl, e135, (by decide : 12 + 1 ≤ _), (by decide : 40 + 6 ≤ _)⟩)
          dsimp only [Pt.U, Pt.locs, Pt.cells, Pt.slots] at X136 l136 y136 z136 st136 hQ136
          subst l136 y136 z136
          obtain ⟨hv136, N136, E136⟩ := hQ136
          rw [hof] at hv136
          subst hv136
          have M136 := Fr.app N0 N136
          refine EndsK.go st136 ?_
          show EndsK p e below _ (T136.setTop (mkF m 276 #[.val (.int i0), .val (.int i1), .val (.int i2), .val (.int i3), .val (.int r0), .val (.int r1), .val (.int r2), .val (.int (i0 &&& (3 : Int32))), .val (.ref an), .val (.ref ao), .val (.ref aw), .val (.ref at3), .val (.ref x1), .val (.ref b0)] [(.ref b0)]))
          refine EndsK.go (fun _ kz => XS.aload X136.here hx rfl (hb hby at_276) rfl rfl kz) ?_
          show EndsK p e below _ (T136.setTop (mkF m 278 #[.val (.int i0), .val (.int i1), .val (.int i2), .val (.int i3), .val (.int r0), .val (.int r1), .val (.int r2), .val (.int (i0 &&& (3 : Int32))), .val (.ref an), .val (.ref ao), .val (.ref aw), .val (.ref at3), .val (.ref x1), .val (.ref b0)] [(.ref b0), (.ref b0)]))
          refine EndsK.go (fun _ kz => Jvm.RoadKit.acmp (g := (mkF m 278 #[.val (.int i0), .val (.int i1), .val (.int i2), .val (.int i3), .val (.int r0), .val (.int r1), .val (.int r2), .val (.int (i0 &&& (3 : Int32))), .val (.ref an), .val (.ref ao), .val (.ref aw), .val (.ref at3), .val (.ref x1), .val (.ref b0)] [(.ref b0), (.ref b0)])) X136 hx rfl rfl rfl (pc0 := 278) (pc' := 281) (same := true) rfl (hb hby at_278) rfl (decide_eq_true rfl) (by decide) (by decide) kz) ?_
          show EndsK p e below _ (T136.setTop (mkF m 281 #[.val (.int i0), .val (.int i1), .val (.int i2), .val (.int i3), .val (.int r0), .val (.int r1), .val (.int r2), .val (.int (i0 &&& (3 : Int32))), .val (.ref an), .val (.ref ao), .val (.ref aw), .val (.ref at3), .val (.ref x1), .val (.ref b0)] []))
          refine EndsK.go (fun _ kz => XS.iconst X136.here hx rfl (hb hby at_281) kz) ?_
          show EndsK p e below _ (T136.setTop (mkF m 282 #[.val (.int i0), .val (.int i1), .val (.int i2), .val (.int i3), .val (.int r0), .val (.int r1), .val (.int r2), .val (.int (i0 &&& (3 : Int32))), .val (.ref an), .val (.ref ao), .val (.ref aw), .val (.ref at3), .val (.ref x1), .val (.ref b0)] [(.int (1 : Int32))]))
          refine EndsK.go (fun _ kz => XS.goto X136.here hx rfl (pc0 := 282) (pc' := 286) rfl (hb hby at_282) (by decide) (by decide) kz) ?_
          show EndsK p e below _ (T136.setTop (mkF m 286 #[.val (.int i0), .val (.int i1), .val (.int i2), .val (.int i3), .val (.int r0), .val (.int r1), .val (.int r2), .val (.int (i0 &&& (3 : Int32))), .val (.ref an), .val (.ref ao), .val (.ref aw), .val (.ref at3), .val (.ref x1), .val (.ref b0)] [(.int (1 : Int32))]))
          exact endN X136 hx (t := .boolean) Bd.returns (by simp) (hb hby at_286) hlk ⟨rfl, M136⟩ (by decide) (by decide)
        · refine EndsK.go (fun _ kz => XS.icmpYes Y122.here hx rfl (pc0 := 175) (pc' := 186) rfl (hb hby at_175) rfl (feq H175_134).2 (by decide) (by decide) kz) ?_
          show EndsK p e below _ (T122.setTop (mkF m 186 #[.val (.int i0), .val (.int i1), .val (.int i2), .val (.int i3), .val (.int r0), .val (.int r1), .val (.int r2), .val (.int (i0 &&& (3 : Int32))), .val (.ref an), .val (.ref ao), .val (.ref aw), .val (.ref at3), .val (.ref x1), .val .null] []))
          refine EndsK.go (fun _ kz => XS.iload Y122.here hx rfl (hb hby at_186) rfl kz) ?_
          show EndsK p e below _ (T122.setTop (mkF m 188 #[.val (.int i0), .val (.int i1), .val (.int i2), .val (.int i3), .val (.int r0), .val (.int r1), .val (.int r2), .val (.int (i0 &&& (3 : Int32))), .val (.ref an), .val (.ref ao), .val (.ref aw), .val (.ref at3), .val (.ref x1), .val .null] [(.int r0)]))
          refine EndsK.go (fun _ kz => XS.bipush Y122.here hx rfl (hb hby at_188) kz) ?_
          show EndsK p e below _ (T122.setTop (mkF m 190 #[.val (.int i0), .val (.int i1), .val (.int i2), .val (.int i3), .val (.int r0), .val (.int r1), .val (.int r2), .val (.int (i0 &&& (3 : Int32))), .val (.ref an), .val (.ref ao), .val (.ref aw), .val (.ref at3), .val (.ref x1), .val .null] [(.int (60 : Int32)), (.int r0)]))
          by_cases H190_137 : r0 = (60 : Int32)
          · refine EndsK.go (fun _ kz => XS.icmpNo Y122.here hx rfl (hb hby at_190) rfl (teq H190_137).2 kz) ?_
            show EndsK p e below _ (T122.setTop (mkF m 193 #[.val (.int i0), .val (.int i1), .val (.int i2), .val (.int i3), .val (.int r0), .val (.int r1), .val (.int r2), .val (.int (i0 &&& (3 : Int32))), .val (.ref an), .val (.ref ao), .val (.ref aw), .val (.ref at3), .val (.ref x1), .val .null] []))
            obtain ⟨T138, X138, e138, st138⟩ := getS2 Y122 hx hZ hown (host := "") (Or.inl (hw _ (List.mem_of_getElem? (i := 76) rfl))) Via.refl e122 (SN2.ext P122) (g := (mkF m 193 #[.val (.int i0), .val (.int i1), .val (.int i2), .val (.int i3), .val (.int r0), .val (.int r1), .val (.int r2), .val (.int (i0 &&& (3 : Int32))), .val (.ref an), .val (.ref ao), .val (.ref aw), .val (.ref at3), .val (.ref x1), .val .null] [])) rfl (hb hby at_193)
            refine EndsK.go st138 ?_
            show EndsK p e below _ (T138.setTop (mkF m 196 #[.val (.int i0), .val (.int i1), .val (.int i2), .val (.int i3), .val (.int r0), .val (.int r1), .val (.int r2), .val (.int (i0 &&& (3 : Int32))), .val (.ref an), .val (.ref ao), .val (.ref aw), .val (.ref at3), .val (.ref x1), .val .null] [(.ref b2)]))
            refine EndsK.go (fun _ kz => XS.astore X138.here hx rfl (hb hby at_196) rfl rfl (l' := #[.val (.int i0), .val (.int i1), .val (.int i2), .val (.int i3), .val (.int r0), .val (.int r1), .val (.int r2), .val (.int (i0 &&& (3 : Int32))), .val (.ref an), .val (.ref ao), .val (.ref aw), .val (.ref at3), .val (.ref x1), .val (.ref b2)]) rfl kz) ?_
            show EndsK p e below _ (T138.setTop (mkF m 198 #[.val (.int i0), .val (.int i1), .val (.int i2), .val (.int i3), .val (.int r0), .val (.int r1), .val (.int r2), .val (.int (i0 &&& (3 : Int32))), .val (.ref an), .val (.ref ao), .val (.ref aw), .val (.ref at3), .val (.ref x1), .val (.ref b2)] []))
            refine EndsK.go (fun _ kz => XS.goto X138.here hx rfl (pc0 := 198) (pc' := 271) rfl (hb hby at_198) (by decide) (by decide) kz) ?_
            show EndsK p e below _ (T138.setTop (mkF m 271 #[.val (.int i0), .val (.int i1), .val (.int i2), .val (.int i3), .val (.int r0), .val (.int r1), .val (.int r2), .val (.int (i0 &&& (3 : Int32))), .val (.ref an), .val (.ref ao), .val (.ref aw), .val (.ref at3), .val (.ref x1), .val (.ref b2)] []))
            refine EndsK.go (fun _ kz => XS.aload X138.here hx rfl (hb hby at_271) rfl rfl kz) ?_
            show EndsK p e below _ (T138.setTop (mkF m 273 #[.val (.int i0), .val (.int i1), .val (.int i2), .val (.int i3), .val (.int r0), .val (.int r1), .val (.int r2), .val (.int (i0 &&& (3 : Int32))), .val (.ref an), .val (.ref ao), .val (.ref aw), .val (.ref at3), .val (.ref x1), .val (.ref b2)] [(.ref x1)]))
            have hof : ofL [((lf1 (61 : Int32) ((nar .char r0).toInt8.toInt32)), .ref b0), ((0 : Int32), .ref b1), ((lf1 (60 : Int32) ((nar .char r0).toInt8.toInt32)), .ref b2), ((0 : Int32), .ref b3), ((lf1 (62 : Int32) ((nar .char r0).toInt8.toInt32)), .ref b4), ((0 : Int32), .ref b5)] = (.ref b2) := by simp only [lf1, lf2, b8 r0 (61 : Int32) 61 ga0 gb0 rfl (by decide) (by decide), b8 r0 (60 : Int32) 60 ga0 gb0 rfl (by decide) (by decide), b8 r0 (62 : Int32) 62 ga0 gb0 rfl (by decide) (by decide)]; simp [ofL, H175_134, H190_137]
            obtain ⟨_, _, ⟨T139, L139, k139, n139⟩, -, X139, ⟨Lc139, hQ139, l139, y139, z139⟩, st139⟩ := Jvm.LawKit.callS X138 hx (y := (⟨"com/example/windrow/windrow/Condition$Comparison", "of", "(Ljava/lang/String;)Lcom/example/windrow/windrow/Condition$Comparison;"⟩ : MethodName)) hown (mvT hZ (hw _ (List.mem_of_getElem? (i := 26) rfl))) (mvT hZ (hw _ (List.mem_of_getElem? (i := 27) rfl))) (mvT hZ (hw _ (List.mem_of_getElem? (i := 28) rfl))) (mvT hZ (hw _ (List.mem_of_getElem? (i := 29) rfl))) (by decide) (backOf (W := 0) (rm_of1 l Z a0 hw [] x1 vb122 cb122 zc ((nar .char r0).toInt8.toInt32) av cv b0 b1 b2 b3 b4 b5 s0 s1 s2 s3 s4 s5 v0 v1 v2 v3 v4 v5 c0 c1 c2 c3 c4 c5 h122 n0 Z122 (fun q => absurd Es0.lt (by rw [q]; exact Nat.not_lt.mpr sz_x1)) (fun q => absurd Es1.lt (by rw [q]; exact Nat.not_lt.mpr sz_x1)) (fun q => absurd Es2.lt (by rw [q]; exact Nat.not_lt.mpr sz_x1)) (fun q => absurd Es3.lt (by rw [q]; exact Nat.not_lt.mpr sz_x1)) (fun q => absurd Es4.lt (by rw [q]; exact Nat.not_lt.mpr sz_x1)) (fun q => absurd Es5.lt (by rw [q]; exact Nat.not_lt.mpr sz_x1)) Ex122 Fc122 Fv122 (SC.ext P122) hzc Ab122 (by rw [Sz122]; rfl) ⟨inb_of (j := (0 : Int32)) Sz122 ⟨by decide, by decide⟩, (Hb122 0 (by rw [Sz122]; decide)).trans rfl⟩ (SV.ext P122) (AV.ext P122) (EV.ext P122) FV hsz w0 (Fb0.ext P122) (Es0.ext P122) (Fc0.ext P122) (Fv0.ext P122) (Av0.ext P122) zv0 uv0_0 w1 (Fb1.ext P122) (Es1.ext P122) (Fc1.ext P122) (Fv1.ext P122) (Av1.ext P122) zv1 uv1_0 uv1_1 w2 (Fb2.ext P122) (Es2.ext P122) (Fc2.ext P122) (Fv2.ext P122) (Av2.ext P122) zv2 uv2_0 w3 (Fb3.ext P122) (Es3.ext P122) (Fc3.ext P122) (Fv3.ext P122) (Av3.ext P122) zv3 uv3_0 uv3_1 w4 (Fb4.ext P122) (Es4.ext P122) (Fc4.ext P122) (Fv4.ext P122) (Av4.ext P122) zv4 uv4_0 w5 (Fb5.ext P122) (Es5.ext P122) (Fc5.ext P122) (Fv5.ext P122) (Av5.ext P122) zv5 uv5_0 uv5_1) hZ (hw _ (List.mem_of_getElem? (i := 29) rfl)) (hw _ (List.mem_of_getElem? (i := 28) rfl)) (by decide) (by decide)) (g := (mkF m 273 #[.val (.int i0), .val (.int i1), .val (.int i2), .val (.int i3), .val (.int r0), .val (.int r1), .val (.int r2), .val (.int (i0 &&& (3 : Int32))), .val (.ref an), .val (.ref ao), .val (.ref aw), .val (.ref at3), .val (.ref x1), .val (.ref b2)] [(.ref x1)])) rfl (by rw [hml]; rfl) (argsL := [(.ref x1)]) (rest := []) (lenOf pd6 rfl) rfl (by show 2 * 0 + _ ≤ _; exact Nat.le_of_eq rfl) (hb hby at_273) (fun _ _ => ⟨rfl, e138, (by decide : 12 + 1 ≤ _), (by decide : 40 + 6 ≤ _)⟩)
            dsimp only [Pt.U, Pt.locs, Pt.cells, Pt.slots] at X139 l139 y139 z139 st139 hQ139
            subst l139 y139 z139
            obtain ⟨hv139, N139, E139⟩ := hQ139
            rw [hof] at hv139
            subst hv139
            have M139 := Fr.app N0 N139
            refine EndsK.go st139 ?_
            show EndsK p e below _ (T139.setTop (mkF m 276 #[.val (.int i0), .val (.int i1), .val (.int i2), .val (.int i3), .val (.int r0), .val (.int r1), .val (.int r2), .val (.int (i0 &&& (3 : Int32))), .val (.ref an), .val (.ref ao), .val (.ref aw), .val (.ref at3), .val (.ref x1), .val (.ref b2)] [(.ref b2)]))
            refine EndsK.go (fun _ kz => XS.aload X139.here hx rfl (hb hby at_276) rfl rfl kz) ?_
            show EndsK p e below _ (T139.setTop (mkF m 278 #[.val (.int i0), .val (.int i1), .val (.int i2), .val (.int i3), .val (.int r0), .val (.int r1), .val (.int r2), .val (.int (i0 &&& (3 : Int32))), .val (.ref an), .val (.ref ao), .val (.ref aw), .val (.ref at3), .val (.ref x1), .val (.ref b2)] [(.ref b2), (.ref b2)]))
            refine EndsK.go (fun _ kz => Jvm.RoadKit.acmp (g := (mkF m 278 #[.val (.int i0), .val (.int i1), .val (.int i2), .val (.int i3), .val (.int r0), .val (.int r1), .val (.int r2), .val (.int (i0 &&& (3 : Int32))), .val (.ref an), .val (.ref ao), .val (.ref aw), .val (.ref at3), .val (.ref x1), .val (.ref b2)] [(.ref b2), (.ref b2)])) X139 hx rfl rfl rfl (pc0 := 278) (pc' := 281) (same := true) rfl (hb hby at_278) rfl (decide_eq_true rfl) (by decide) (by decide) kz) ?_
            show EndsK p e below _ (T139.setTop (mkF m 281 #[.val (.int i0), .val (.int i1), .val (.int i2), .val (.int i3), .val (.int r0), .val (.int r1), .val (.int r2), .val (.int (i0 &&& (3 : Int32))), .val (.ref an), .val (.ref ao), .val (.ref aw), .val (.ref at3), .val (.ref x1), .val (.ref b2)] []))
            refine EndsK.go (fun _ kz => XS.iconst X139.here hx rfl (hb hby at_281) kz) ?_
            show EndsK p e below _ (T139.setTop (mkF m 282 #[.val (.int i0), .val (.int i1), .val (.int i2), .val (.int i3), .val (.int r0), .val (.int r1), .val (.int r2), .val (.int (i0 &&& (3 : Int32))), .val (.ref an), .val (.ref ao), .val (.ref aw), .val (.ref at3), .val (.ref x1), .val (.ref b2)] [(.int (1 : Int32))]))
            refine EndsK.go (fun _ kz => XS.goto X139.here hx rfl (pc0 := 282) (pc' := 286) rfl (hb hby at_282) (by decide) (by decide) kz) ?_
            show EndsK p e below _ (T139.setTop (mkF m 286 #[.val (.int i0), .val (.int i1), .val (.int i2), .val (.int i3), .val (.int r0), .val (.int r1), .val (.int r2), .val (.int (i0 &&& (3 : Int32))), .val (.ref an), .val (.ref ao), .val (.ref aw), .val (.ref at3), .val (.ref x1), .val (.ref b2)] [(.int (1 : Int32))]))
            exact endN X139 hx (t := .boolean) Bd.returns (by simp) (hb hby at_286) hlk ⟨rfl, M139⟩ (by decide) (by decide)
          · refine EndsK.go (fun _ kz => XS.icmpYes Y122.here hx rfl (pc0 := 190) (pc' := 201) rfl (hb hby at_190) rfl (feq H190_137).2 (by decide) (by decide) kz) ?_
            show EndsK p e below _ (T122.setTop (mkF m 201 #[.val (.int i0), .val (.int i1), .val (.int i2), .val (.int i3), .val (.int r0), .val (.int r1), .val (.int r2), .val (.int (i0 &&& (3 : Int32))), .val (.ref an), .val (.ref ao), .val (.ref aw), .val (.ref at3), .val (.ref x1), .val .null] []))
            refine EndsK.go (fun _ kz => XS.iload Y122.here hx rfl (hb hby at_201) rfl kz) ?_
            show EndsK p e below _ (T122.setTop (mkF m 203 #[.val (.int i0), .val (.int i1), .val (.int i2), .val (.int i3), .val (.int r0), .val (.int r1), .val (.int r2), .val (.int (i0 &&& (3 : Int32))), .val (.ref an), .val (.ref ao), .val (.ref aw), .val (.ref at3), .val (.ref x1), .val .null] [(.int r0)]))
            refine EndsK.go (fun _ kz => XS.bipush Y122.here hx rfl (hb hby at_203) kz) ?_
            show EndsK p e below _ (T122.setTop (mkF m 205 #[.val (.int i0), .val (.int i1), .val (.int i2), .val (.int i3), .val (.int r0), .val (.int r1), .val (.int r2), .val (.int (i0 &&& (3 : Int32))), .val (.ref an), .val (.ref ao), .val (.ref aw), .val (.ref at3), .val (.ref x1), .val .null] [(.int (62 : Int32)), (.int r0)]))
            by_cases H205_140 : r0 = (62 : Int32)
            · refine EndsK.go (fun _ kz => XS.icmpNo Y122.here hx rfl (hb hby at_205) rfl (teq H205_140).2 kz) ?_
              show EndsK p e below _ (T122.setTop (mkF m 208 #[.val (.int i0), .val (.int i1), .val (.int i2), .val (.int i3), .val (.int r0), .val (.int r1), .val (.int r2), .val (.int (i0 &&& (3 : Int32))), .val (.ref an), .val (.ref ao), .val (.ref aw), .val (.ref at3), .val (.ref x1), .val .null] []))
              obtain ⟨T141, X141, e141, st141⟩ := getS2 Y122 hx hZ hown (host := "") (Or.inl (hw _ (List.mem_of_getElem? (i := 74) rfl))) Via.refl e122 (SN4.ext P122) (g := (mkF m 208 #[.val (.int i0), .val (.int i1), .val (.int i2), .val (.int i3), .val (.int r0), .val (.int r1), .val (.int r2), .val (.int (i0 &&& (3 : Int32))), .val (.ref an), .val (.ref ao), .val (.ref aw), .val (.ref at3), .val (.ref x1), .val .null] [])) rfl (hb hby at_208)
              refine EndsK.go st141 ?_
              show EndsK p e below _ (T141.setTop (mkF m 211 #[.val (.int i0), .val (.int i1), .val (.int i2), .val (.int i3), .val (.int r0), .val (.int r1), .val (.int r2), .val (.int (i0 &&& (3 : Int32))), .val (.ref an), .val (.ref ao), .val (.ref aw), .val (.ref at3), .val (.ref x1), .val .null] [(.ref b4)]))
              refine EndsK.go (fun _ kz => XS.astore X141.here hx rfl (hb hby at_211) rfl rfl (l' := #[.val (.int i0), .val (.int i1), .val (.int i2), .val (.int i3), .val (.int r0), .val (.int r1), .val (.int r2), .val (.int (i0 &&& (3 : Int32))), .val (.ref an), .val (.ref ao), .val (.ref aw), .val (.ref at3), .val (.ref x1), .val (.ref b4)]) rfl kz) ?_
              show EndsK p e below _ (T141.setTop (mkF m 213 #[.val (.int i0), .val (.int i1), .val (.int i2), .val (.int i3), .val (.int r0), .val (.int r1), .val (.int r2), .val (.int (i0 &&& (3 : Int32))), .val (.ref an), .val (.ref ao), .val (.ref aw), .val (.ref at3), .val (.ref x1), .val (.ref b4)] []))
              refine EndsK.go (fun _ kz => XS.goto X141.here hx rfl (pc0 := 213) (pc' := 271) rfl (hb hby at_213) (by decide) (by decide) kz) ?_
              show EndsK p e below _ (T141.setTop (mkF m 271 #[.val (.int i0), .val (.int i1), .val (.int i2), .val (.int i3), .val (.int r0), .val (.int r1), .val (.int r2), .val (.int (i0 &&& (3 : Int32))), .val (.ref an), .val (.ref ao), .val (.ref aw), .val (.ref at3), .val (.ref x1), .val (.ref b4)] []))
              refine EndsK.go (fun _ kz => XS.aload X141.here hx rfl (hb hby at_271) rfl rfl kz) ?_
              show EndsK p e below _ (T141.setTop (mkF m 273 #[.val (.int i0), .val (.int i1), .val (.int i2), .val (.int i3), .val (.int r0), .val (.int r1), .val (.int r2), .val (.int (i0 &&& (3 : Int32))), .val (.ref an), .val (.ref ao), .val (.ref aw), .val (.ref at3), .val (.ref x1), .val (.ref b4)] [(.ref x1)]))
              have hof : ofL [((lf1 (61 : Int32) ((nar .char r0).toInt8.toInt32)), .ref b0), ((0 : Int32), .ref b1), ((lf1 (60 : Int32) ((nar .char r0).toInt8.toInt32)), .ref b2), ((0 : Int32), .ref b3), ((lf1 (62 : Int32) ((nar .char r0).toInt8.toInt32)), .ref b4), ((0 : Int32), .ref b5)] = (.ref b4) := by simp only [lf1, lf2, b8 r0 (61 : Int32) 61 ga0 gb0 rfl (by decide) (by decide), b8 r0 (60 : Int32) 60 ga0 gb0 rfl (by decide) (by decide), b8 r0 (62 : Int32) 62 ga0 gb0 rfl (by decide) (by decide)]; simp [ofL, H175_134, H190_137, H205_140]
              obtain ⟨_, _, ⟨T142, L142, k142, n142⟩, -, X142, ⟨Lc142, hQ142, l142, y142, z142⟩, st142⟩ := Jvm.LawKit.callS X141 hx (y := (⟨"com/example/windrow/windrow/Condition$Comparison", "of", "(Ljava/lang/String;)Lcom/example/windrow/windrow/Condition$Comparison;"⟩ : MethodName)) hown (mvT hZ (hw _ (List.mem_of_getElem? (i := 26) rfl))) (mvT hZ (hw _ (List.mem_of_getElem? (i := 27) rfl))) (mvT hZ (hw _ (List.mem_of_getElem? (i := 28) rfl))) (mvT hZ (hw _ (List.mem_of_getElem? (i := 29) rfl))) (by decide) (backOf (W := 0) (rm_of1 l Z a0 hw [] x1 vb122 cb122 zc ((nar .char r0).toInt8.toInt32) av cv b0 b1 b2 b3 b4 b5 s0 s1 s2 s3 s4 s5 v0 v1 v2 v3 v4 v5 c0 c1 c2 c3 c4 c5 h122 n0 Z122 (fun q => absurd Es0.lt (by rw [q]; exact Nat.not_lt.mpr sz_x1)) (fun q => absurd Es1.lt (by rw [q]; exact Nat.not_lt.mpr sz_x1)) (fun q => absurd Es2.lt (by rw [q]; exact Nat.not_lt.mpr sz_x1)) (fun q => absurd Es3.lt (by rw [q]; exact Nat.not_lt.mpr sz_x1)) (fun q => absurd Es4.lt (by rw [q]; exact Nat.not_lt.mpr sz_x1)) (fun q => absurd Es5.lt (by rw [q]; exact Nat.not_lt.mpr sz_x1)) Ex122 Fc122 Fv122 (SC.ext P122) hzc Ab122 (by rw [Sz122]; rfl) ⟨inb_of (j := (0 : Int32)) Sz122 ⟨by decide, by decide⟩, (Hb122 0 (by rw [Sz122]; decide)).trans rfl⟩ (SV.ext P122) (AV.ext P122) (EV.ext P122) FV hsz w0 (Fb0.ext P122) (Es0.ext P122) (Fc0.ext P122) (Fv0.ext P122) (Av0.ext P122) zv0 uv0_0 w1 (Fb1.ext P122) (Es1.ext P122) (Fc1.ext P122) (Fv1.ext P122) (Av1.ext P122) zv1 uv1_0 uv1_1 w2 (Fb2.ext P122) (Es2.ext P122) (Fc2.ext P122) (Fv2.ext P122) (Av2.ext P122) zv2 uv2_0 w3 (Fb3.ext P122) (Es3.ext P122) (Fc3.ext P122) (Fv3.ext P122) (Av3.ext P122) zv3 uv3_0 uv3_1 w4 (Fb4.ext P122) (Es4.ext P122) (Fc4.ext P122) (Fv4.ext P122) (Av4.ext P122) zv4 uv4_0 w5 (Fb5.ext P122) (Es5.ext P122) (Fc5.ext P122) (Fv5.ext P122) (Av5.ext P122) zv5 uv5_0 uv5_1) hZ (hw _ (List.mem_of_getElem? (i := 29) rfl)) (hw _ (List.mem_of_getElem? (i := 28) rfl)) (by decide) (by decide)) (g := (mkF m 273 #[.val (.int i0), .val (.int i1), .val (.int i2), .val (.int i3), .val (.int r0), .val (.int r1), .val (.int r2), .val (.int (i0 &&& (3 : Int32))), .val (.ref an), .val (.ref ao), .val (.ref aw), .val (.ref at3), .val (.ref x1), .val (.ref b4)] [(.ref x1)])) rfl (by rw [hml]; rfl) (argsL := [(.ref x1)]) (rest := []) (lenOf pd6 rfl) rfl (by show 2 * 0 + _ ≤ _; exact Nat.le_of_eq rfl) (hb hby at_273) (fun _ _ => ⟨rfl, e141, (by decide : 12 + 1 ≤ _), (by decide : 40 + 6 ≤ _)⟩)
              dsimp only [Pt.U, Pt.locs, Pt.cells, Pt.slots] at X142 l142 y142 z142 st142 hQ142
              subst l142 y142 z142
              obtain ⟨hv142, N142, E142⟩ := hQ142
              rw [hof] at hv142
              subst hv142
              have M142 := Fr.app N0 N142
              refine EndsK.go st142 ?_
              show EndsK p e below _ (T142.setTop (mkF m 276 #[.val (.int i0), .val (.int i1), .val (.int i2), .val (.int i3), .val (.int r0), .val (.int r1), .val (.int r2), .val (.int (i0 &&& (3 : Int32))), .val (.ref an), .val (.ref ao), .val (.ref aw), .val (.ref at3), .val (.ref x1), .val (.ref b4)] [(.ref b4)]))
              refine EndsK.go (fun _ kz => XS.aload X142.here hx rfl (hb hby at_276) rfl rfl kz) ?_
              show EndsK p e below _ (T142.setTop (mkF m 278 #[.val (.int i0), .val (.int i1), .val (.int i2), .val (.int i3), .val (.int r0), .val (.int r1), .val (.int r2), .val (.int (i0 &&& (3 : Int32))), .val (.ref an), .val (.ref ao), .val (.ref aw), .val (.ref at3), .val (.ref x1), .val (.ref b4)] [(.ref b4), (.ref b4)]))
              refine EndsK.go (fun _ kz => Jvm.RoadKit.acmp (g := (mkF m 278 #[.val (.int i0), .val (.int i1), .val (.int i2), .val (.int i3), .val (.int r0), .val (.int r1), .val (.int r2), .val (.int (i0 &&& (3 : Int32))), .val (.ref an), .val (.ref ao), .val (.ref aw), .val (.ref at3), .val (.ref x1), .val (.ref b4)] [(.ref b4), (.ref b4)])) X142 hx rfl rfl rfl (pc0 := 278) (pc' := 281) (same := true) rfl (hb hby at_278) rfl (decide_eq_true rfl) (by decide) (by decide) kz) ?_
              show EndsK p e below _ (T142.setTop (mkF m 281 #[.val (.int i0), .val (.int i1), .val (.int i2), .val (.int i3), .val (.int r0), .val (.int r1), .val (.int r2), .val (.int (i0 &&& (3 : Int32))), .val (.ref an), .val (.ref ao), .val (.ref aw), .val (.ref at3), .val (.ref x1), .val (.ref b4)] []))
              refine EndsK.go (fun _ kz => XS.iconst X142.here hx rfl (hb hby at_281) kz) ?_
              show EndsK p e below _ (T142.setTop (mkF m 282 #[.val (.int i0), .val (.int i1), .val (.int i2), .val (.int i3), .val (.int r0), .val (.int r1), .val (.int r2), .val (.int (i0 &&& (3 : Int32))), .val (.ref an), .val (.ref ao), .val (.ref aw), .val (.ref at3), .val (.ref x1), .val (.ref b4)] [(.int (1 : Int32))]))
              refine EndsK.go (fun _ kz => XS.goto X142.here hx rfl (pc0 := 282) (pc' := 286) rfl (hb hby at_282) (by decide) (by decide) kz) ?_
              show EndsK p e below _ (T142.setTop (mkF m 286 #[.val (.int i0), .val (.int i1), .val (.int i2), .val (.int i3), .val (.int r0), .val (.int r1), .val (.int r2), .val (.int (i0 &&& (3 : Int32))), .val (.ref an), .val (.ref ao), .val (.ref aw), .val (.ref at3), .val (.ref x1), .val (.ref b4)] [(.int (1 : Int32))]))
              exact endN X142 hx (t := .boolean) Bd.returns (by simp) (hb hby at_286) hlk ⟨rfl, M142⟩ (by decide) (by decide)
            · refine EndsK.go (fun _ kz => XS.icmpYes Y122.here hx rfl (pc0 := 205) (pc' := 271) rfl (hb hby at_205) rfl (feq H205_140).2 (by decide) (by decide) kz) ?_
              show EndsK p e below _ (T122.setTop (mkF m 271 #[.val (.int i0), .val (.int i1), .val (.int i2), .val (.int i3), .val (.int r0), .val (.int r1), .val (.int r2), .val (.int (i0 &&& (3 : Int32))), .val (.ref an), .val (.ref ao), .val (.ref aw), .val (.ref at3), .val (.ref x1), .val .null] []))
              refine EndsK.go (fun _ kz => XS.aload Y122.here hx rfl (hb hby at_271) rfl rfl kz) ?_
              show EndsK p e below _ (T122.setTop (mkF m 273 #[.val (.int i0), .val (.int i1), .val (.int i2), .val (.int i3), .val (.int r0), .val (.int r1), .val (.int r2), .val (.int (i0 &&& (3 : Int32))), .val (.ref an), .val (.ref ao), .val (.ref aw), .val (.ref at3), .val (.ref x1), .val .null] [(.ref x1)]))
              have hof : ofL [((lf1 (61 : Int32) ((nar .char r0).toInt8.toInt32)), .ref b0), ((0 : Int32), .ref b1), ((lf1 (60 : Int32) ((nar .char r0).toInt8.toInt32)), .ref b2), ((0 : Int32), .ref b3), ((lf1 (62 : Int32) ((nar .char r0).toInt8.toInt32)), .ref b4), ((0 : Int32), .ref b5)] = .null := by simp only [lf1, lf2, b8 r0 (61 : Int32) 61 ga0 gb0 rfl (by decide) (by decide), b8 r0 (60 : Int32) 60 ga0 gb0 rfl (by decide) (by decide), b8 r0 (62 : Int32) 62 ga0 gb0 rfl (by decide) (by decide)]; simp [ofL, H175_134, H190_137, H205_140]
              obtain ⟨_, _, ⟨T143, L143, k143, n143⟩, -, X143, ⟨Lc143, hQ143, l143, y143, z143⟩, st143⟩ := Jvm.LawKit.callS Y122 hx (y := (⟨"com/example/windrow/windrow/Condition$Comparison", "of", "(Ljava/lang/String;)Lcom/example/windrow/windrow/Condition$Comparison;"⟩ : MethodName)) hown (mvT hZ (hw _ (List.mem_of_getElem? (i := 26) rfl))) (mvT hZ (hw _ (List.mem_of_getElem? (i := 27) rfl))) (mvT hZ (hw _ (List.mem_of_getElem? (i := 28) rfl))) (mvT hZ (hw _ (List.mem_of_getElem? (i := 29) rfl))) (by decide) (backOf (W := 0) (rm_of1 l Z a0 hw [] x1 vb122 cb122 zc ((nar .char r0).toInt8.toInt32) av cv b0 b1 b2 b3 b4 b5 s0 s1 s2 s3 s4 s5 v0 v1 v2 v3 v4 v5 c0 c1 c2 c3 c4 c5 h122 n0 Z122 (fun q => absurd Es0.lt (by rw [q]; exact Nat.not_lt.mpr sz_x1)) (fun q => absurd Es1.lt (by rw [q]; exact Nat.not_lt.mpr sz_x1)) (fun q => absurd Es2.lt (by rw [q]; exact Nat.not_lt.mpr sz_x1)) (fun q => absurd Es3.lt (by rw [q]; exact Nat.not_lt.mpr sz_x1)) (fun q => absurd Es4.lt (by rw [q]; exact Nat.not_lt.mpr sz_x1)) (fun q => absurd Es5.lt (by rw [q]; exact Nat.not_lt.mpr sz_x1)) Ex122 Fc122 Fv122 (SC.ext P122) hzc Ab122 (by rw [Sz122]; rfl) ⟨inb_of (j := (0 : Int32)) Sz122 ⟨by decide, by decide⟩, (Hb122 0 (by rw [Sz122]; decide)).trans rfl⟩ (SV.ext P122) (AV.ext P122) (EV.ext P122) FV hsz w0 (Fb0.ext P122) (Es0.ext P122) (Fc0.ext P122) (Fv0.ext P122) (Av0.ext P122) zv0 uv0_0 w1 (Fb1.ext P122) (Es1.ext P122) (Fc1.ext P122) (Fv1.ext P122) (Av1.ext P122) zv1 uv1_0 uv1_1 w2 (Fb2.ext P122) (Es2.ext P122) (Fc2.ext P122) (Fv2.ext P122) (Av2.ext P122) zv2 uv2_0 w3 (Fb3.ext P122) (Es3.ext P122) (Fc3.ext P122) (Fv3.ext P122) (Av3.ext P122) zv3 uv3_0 uv3_1 w4 (Fb4.ext P122) (Es4.ext P122) (Fc4.ext P122) (Fv4.ext P122) (Av4.ext P122) zv4 uv4_0 w5 (Fb5.ext P122) (Es5.ext P122) (Fc5.ext P122) (Fv5.ext P122) (Av5.ext P122) zv5 uv5_0 uv5_1) hZ (hw _ (List.mem_of_getElem? (i := 29) rfl)) (hw _ (List.mem_of_getElem? (i := 28) rfl)) (by decide) (by decide)) (g := (mkF m 273 #[.val (.int i0), .val (.int i1), .val (.int i2), .val (.int i3), .val (.int r0), .val (.int r1), .val (.int r2), .val (.int (i0 &&& (3 : Int32))), .val (.ref an), .val (.ref ao), .val (.ref aw), .val (.ref at3), .val (.ref x1), .val .null] [(.ref x1)])) rfl (by rw [hml]; rfl) (argsL := [(.ref x1)]) (rest := []) (lenOf pd6 rfl) rfl (by show 2 * 0 + _ ≤ _; exact Nat.le_of_eq rfl) (hb hby at_273) (fun _ _ => ⟨rfl, e122, (by decide : 12 + 1 ≤ _), (by decide : 40 + 6 ≤ _)⟩)
              dsimp only [Pt.U, Pt.locs, Pt.cells, Pt.slots] at X143 l143 y143 z143 st143 hQ143
              subst l143 y143 z143
              obtain ⟨hv143, N143, E143⟩ := hQ143
              rw [hof] at hv143
              subst hv143
              have M143 := Fr.app N0 N143
              refine EndsK.go st143 ?_
              show EndsK p e below _ (T143.setTop (mkF m 276 #[.val (.int i0), .val (.int i1), .val (.int i2), .val (.int i3), .val (.int r0), .val (.int r1), .val (.int r2), .val (.int (i0 &&& (3 : Int32))), .val (.ref an), .val (.ref ao), .val (.ref aw), .val (.ref at3), .val (.ref x1), .val .null] [.null]))
              refine EndsK.go (fun _ kz => XS.aload X143.here hx rfl (hb hby at_276) rfl rfl kz) ?_
              show EndsK p e below _ (T143.setTop (mkF m 278 #[.val (.int i0), .val (.int i1), .val (.int i2), .val (.int i3), .val (.int r0), .val (.int r1), .val (.int r2), .val (.int (i0 &&& (3 : Int32))), .val (.ref an), .val (.ref ao), .val (.ref aw), .val (.ref at3), .val (.ref x1), .val .null] [.null, .null]))
              refine EndsK.go (fun _ kz => Jvm.RoadKit.acmp (g := (mkF m 278 #[.val (.int i0), .val (.int i1), .val (.int i2), .val (.int i3), .val (.int r0), .val (.int r1), .val (.int r2), .val (.int (i0 &&& (3 : Int32))), .val (.ref an), .val (.ref ao), .val (.ref aw), .val (.ref at3), .val (.ref x1), .val .null] [.null, .null])) X143 hx rfl rfl rfl (pc0 := 278) (pc' := 281) (same := true) rfl (hb hby at_278) rfl (decide_eq_true rfl) (by decide) (by decide) kz) ?_
              show EndsK p e below _ (T143.setTop (mkF m 281 #[.val (.int i0), .val (.int i1), .val (.int i2), .val (.int i3), .val (.int r0), .val (.int r1), .val (.int r2), .val (.int (i0 &&& (3 : Int32))), .val (.ref an), .val (.ref ao), .val (.ref aw), .val (.ref at3), .val (.ref x1), .val .null] []))
              refine EndsK.go (fun _ kz => XS.iconst X143.here hx rfl (hb hby at_281) kz) ?_
              show EndsK p e below _ (T143.setTop (mkF m 282 #[.val (.int i0), .val (.int i1), .val (.int i2), .val (.int i3), .val (.int r0), .val (.int r1), .val (.int r2), .val (.int (i0 &&& (3 : Int32))), .val (.ref an), .val (.ref ao), .val (.ref aw), .val (.ref at3), .val (.ref x1), .val .null] [(.int (1 : Int32))]))
              refine EndsK.go (fun _ kz => XS.goto X143.here hx rfl (pc0 := 282) (pc' := 286) rfl (hb hby at_282) (by decide) (by decide) kz) ?_
              show EndsK p e below _ (T143.setTop (mkF m 286 #[.val (.int i0), .val (.int i1), .val (.int i2), .val (.int i3), .val (.int r0), .val (.int r1), .val (.int r2), .val (.int (i0 &&& (3 : Int32))), .val (.ref an), .val (.ref ao), .val (.ref aw), .val (.ref at3), .val (.ref x1), .val .null] [(.int (1 : Int32))]))
              exact endN X143 hx (t := .boolean) Bd.returns (by simp) (hb hby at_286) hlk ⟨rfl, M143⟩ (by decide) (by decide)
    · refine EndsK.go (fun _ kz => XS.icmpYes Y113.here hx rfl (pc0 := 95) (pc' := 112) rfl (hb hby at_95) rfl (feq H95_120).2 (by decide) (by decide) kz) ?_
      show EndsK p e below _ (T113.setTop (mkF m 112 #[.val (.int i0), .val (.int i1), .val (.int i2), .val (.int i3), .val (.int r0), .val (.int r1), .val (.int r2), .val (.int (i0 &&& (3 : Int32))), .val (.ref an), .val (.ref ao), .val (.ref aw), .val (.ref at3), .unset, .unset] []))
      refine EndsK.go (fun _ kz => XS.iload Y113.here hx rfl (hb hby at_112) rfl kz) ?_
      show EndsK p e below _ (T113.setTop (mkF m 114 #[.val (.int i0), .val (.int i1), .val (.int i2), .val (.int i3), .val (.int r0), .val (.int r1), .val (.int r2), .val (.int (i0 &&& (3 : Int32))), .val (.ref an), .val (.ref ao), .val (.ref aw), .val (.ref at3), .unset, .unset] [(.int (i0 &&& (3 : Int32)))]))
      refine EndsK.go (fun _ kz => XS.iconst Y113.here hx rfl (hb hby at_114) kz) ?_
      show EndsK p e below _ (T113.setTop (mkF m 115 #[.val (.int i0), .val (.int i1), .val (.int i2), .val (.int i3), .val (.int r0), .val (.int r1), .val (.int r2), .val (.int (i0 &&& (3 : Int32))), .val (.ref an), .val (.ref ao), .val (.ref aw), .val (.ref at3), .unset, .unset] [(.int (2 : Int32)), (.int (i0 &&& (3 : Int32)))]))
      by_cases H115_144 : (i0 &&& (3 : Int32)) = (2 : Int32)
      · refine EndsK.go (fun _ kz => XS.icmpNo Y113.here hx rfl (hb hby at_115) rfl (teq H115_144).2 kz) ?_
        show EndsK p e below _ (T113.setTop (mkF m 118 #[.val (.int i0), .val (.int i1), .val (.int i2), .val (.int i3), .val (.int r0), .val (.int r1), .val (.int r2), .val (.int (i0 &&& (3 : Int32))), .val (.ref an), .val (.ref ao), .val (.ref aw), .val (.ref at3), .unset, .unset] []))
        obtain ⟨T145, h145, X145, e145, E145, A145, D145, -, st145⟩ := newO Y113 hx hZ hown (hw _ (List.mem_of_getElem? (i := 5) rfl)) (hw _ (List.mem_of_getElem? (i := 6) rfl)) (hw _ (List.mem_of_getElem? (i := 7) rfl)) e113 (g := (mkF m 118 #[.val (.int i0), .val (.int i1), .val (.int i2), .val (.int i3), .val (.int r0), .val (.int r1), .val (.int r2), .val (.int (i0 &&& (3 : Int32))), .val (.ref an), .val (.ref ao), .val (.ref aw), .val (.ref at3), .unset, .unset] [])) rfl (hb hby at_118) (by decide) (by decide)
        obtain ⟨x2, g145⟩ : ∃ z, z = h113.size := ⟨_, rfl⟩
        rw [← g145] at A145 D145 st145
        refine EndsK.go st145 ?_
        have V145_an := V113_an.ext E145
        have V145_ao := V113_ao.ext E145
        have V145_aw := V113_aw.ext E145
        have V145_at3 := V113.ext E145
        have F145_value : Fld Z h145 x2 "java/lang/String" "value" "[B" .null := D145 (Or.inr (hw _ (List.mem_of_getElem? (i := 20) rfl))) (ty := (.array .byte)) (by decide)
        have F145_coder : Fld Z h145 x2 "java/lang/String" "coder" "B" (.int (0 : Int32)) := D145 (Or.inr (hw _ (List.mem_of_getElem? (i := 21) rfl))) (ty := .byte) (by decide)
        have Z145 : n0 ≤ h145.size := Nat.le_trans Z113 E145.1
        have G145 : n0 ≤ x2 := by rw [g145]; exact Z113
        have P145 := ext_trans P113 E145
        have sz_x2 : h0.size ≤ x2 := by rw [g145]; exact P113.1
        have ne_an_x2 : an ≠ x2 := Nat.ne_of_lt (by rw [g145]; exact V113_an.lt)
        have ne_ao_x2 : ao ≠ x2 := Nat.ne_of_lt (by rw [g145]; exact V113_ao.lt)
        have ne_aw_x2 : aw ≠ x2 := Nat.ne_of_lt (by rw [g145]; exact V113_aw.lt)
        have ne_at3_x2 : at3 ≠ x2 := Nat.ne_of_lt (by rw [g145]; exact V113.lt)
        show EndsK p e below _ (T145.setTop (mkF m 121 #[.val (.int i0), .val (.int i1), .val (.int i2), .val (.int i3), .val (.int r0), .val (.int r1), .val (.int r2), .val (.int (i0 &&& (3 : Int32))), .val (.ref an), .val (.ref ao), .val (.ref aw), .val (.ref at3), .unset, .unset] [(.ref x2)]))
        refine EndsK.go (fun _ kz => XS.dup X145.here hx rfl (hb hby at_121) rfl rfl kz) ?_
        show EndsK p e below _ (T145.setTop (mkF m 122 #[.val (.int i0), .val (.int i1), .val (.int i2), .val (.int i3), .val (.int r0), .val (.int r1), .val (.int r2), .val (.int (i0 &&& (3 : Int32))), .val (.ref an), .val (.ref ao), .val (.ref aw), .val (.ref at3), .unset, .unset] [(.ref x2), (.ref x2)]))
        refine EndsK.go (fun _ kz => XS.aload X145.here hx rfl (hb hby at_122) rfl rfl kz) ?_
        show EndsK p e below _ (T145.setTop (mkF m 124 #[.val (.int i0), .val (.int i1), .val (.int i2), .val (.int i3), .val (.int r0), .val (.int r1), .val (.int r2), .val (.int (i0 &&& (3 : Int32))), .val (.ref an), .val (.ref ao), .val (.ref aw), .val (.ref at3), .unset, .unset] [(.ref aw), (.ref x2), (.ref x2)]))
        obtain ⟨_, _, ⟨T146, L146, k146, n146⟩, -, X146, ⟨Lc146, hQ146, l146, y146, z146⟩, st146⟩ := X145.specialBack hx (y := (⟨"java/lang/String", "<init>", "([C)V"⟩ : MethodName)) rfl hown (mvT hZ (hw _ (List.mem_of_getElem? (i := 8) rfl))) (mvT hZ (hw _ (List.mem_of_getElem? (i := 9) rfl))) (mvT hZ (hw _ (List.mem_of_getElem? (i := 10) rfl))) (by decide) (StrChars.Road.backV (W := 1) hZ hws (kI := 4) (hw _ (List.mem_of_getElem? (i := 6) rfl)) (cs := ([nar .char r0, nar .char r1] : List Int32)) (bs := (([nar .char r0, nar .char r1] : List Int32)).map (fun c => c.toInt8.toInt32)) (n := 2) G145 Z145 A145 F145_value F145_coder V145_aw (SC.ext P145) hzc rfl rfl (by decide) (by decide) (by intro c hc; simp only [List.mem_cons, List.not_mem_nil, or_false] at hc; rcases hc with rfl | rfl <;> first | (rw [nc r0 ga0 gb0]; exact ⟨ga0, gb0⟩) | (rw [nc r1 ga1 gb1]; exact ⟨ga1, gb1⟩) | (rw [nc r2 ga2 gb2]; exact ⟨ga2, gb2⟩)) rfl (by decide) (by decide)) (g := (mkF m 124 #[.val (.int i0), .val (.int i1), .val (.int i2), .val (.int i3), .val (.int r0), .val (.int r1), .val (.int r2), .val (.int (i0 &&& (3 : Int32))), .val (.ref an), .val (.ref ao), .val (.ref aw), .val (.ref at3), .unset, .unset] [(.ref aw), (.ref x2), (.ref x2)])) rfl (by rw [hml]; rfl) (Steps.refl _) (a := x2) (argsL := [(.ref aw)]) (rest := [(.ref x2)]) (lenOf pd5 rfl) rfl (by show 2 * 0 + _ ≤ _; exact Nat.le_of_eq rfl) (hb hby at_124) (fun _ _ => ⟨rfl, e145, (by decide : 4 + 1 + 1 ≤ _), (by decide : 6 + 4 + 2 ≤ _)⟩)
        dsimp only [Pt.U, Pt.locs, Pt.cells, Pt.slots] at X146 l146 y146 z146 st146 hQ146
        subst l146 y146 z146
        refine EndsK.tr st146 ?_
        obtain ⟨rfl, N146, K146, Ex146, Fc146, vb146, kb146, -, -, -, Fv146, Av146⟩ := hQ146
        obtain ⟨h146, e146⟩ : ∃ z, T146.heap = z := ⟨_, rfl⟩
        rw [e146] at K146 Ex146 Fc146 Fv146 Av146
        obtain ⟨cb146, Ab146, -, Sz146, -, Hb146, -⟩ := Av146
        have Y146 : Stand p l e room_1 s m #[(.int i0), (.int i1), (.int i2), (.int i3)] below meth c T146 [] 12 40 := (X146.dropFresh (fun xz hxz => by have q := N146 xz hxz; rw [hn0, ← hh] at q; exact q)).mono (by decide) (by decide)
        have P146 : Ext h0 h146 := ext_kept P145 K146 (allS sz_x2 all0)
        have Z146 : n0 ≤ h146.size := Nat.le_trans Z0 P146.1
        show EndsK p e below _ (T146.setTop (mkF m 127 #[.val (.int i0), .val (.int i1), .val (.int i2), .val (.int i3), .val (.int r0), .val (.int r1), .val (.int r2), .val (.int (i0 &&& (3 : Int32))), .val (.ref an), .val (.ref ao), .val (.ref aw), .val (.ref at3), .unset, .unset] [(.ref x2)]))
        refine EndsK.go (fun _ kz => XS.astore Y146.here hx rfl (hb hby at_127) rfl rfl (l' := #[.val (.int i0), .val (.int i1), .val (.int i2), .val (.int i3), .val (.int r0), .val (.int r1), .val (.int r2), .val (.int (i0 &&& (3 : Int32))), .val (.ref an), .val (.ref ao), .val (.ref aw), .val (.ref at3), .val (.ref x2), .unset]) rfl kz) ?_
        show EndsK p e below _ (T146.setTop (mkF m 129 #[.val (.int i0), .val (.int i1), .val (.int i2), .val (.int i3), .val (.int r0), .val (.int r1), .val (.int r2), .val (.int (i0 &&& (3 : Int32))), .val (.ref an), .val (.ref ao), .val (.ref aw), .val (.ref at3), .val (.ref x2), .unset] []))
        refine EndsK.go (fun _ kz => XS.goto Y146.here hx rfl (pc0 := 129) (pc' := 143) rfl (hb hby at_129) (by decide) (by decide) kz) ?_
        show EndsK p e below _ (T146.setTop (mkF m 143 #[.val (.int i0), .val (.int i1), .val (.int i2), .val (.int i3), .val (.int r0), .val (.int r1), .val (.int r2), .val (.int (i0 &&& (3 : Int32))), .val (.ref an), .val (.ref ao), .val (.ref aw), .val (.ref at3), .val (.ref x2), .unset] []))
        refine EndsK.go (fun _ kz => XS.iloadN Y146.here hx rfl (hb hby at_143) rfl kz) ?_
        show EndsK p e below _ (T146.setTop (mkF m 144 #[.val (.int i0), .val (.int i1), .val (.int i2), .val (.int i3), .val (.int r0), .val (.int r1), .val (.int r2), .val (.int (i0 &&& (3 : Int32))), .val (.ref an), .val (.ref ao), .val (.ref aw), .val (.ref at3), .val (.ref x2), .unset] [(.int i0)]))
        refine EndsK.go (fun _ kz => XS.iconst Y146.here hx rfl (hb hby at_144) kz) ?_
        show EndsK p e below _ (T146.setTop (mkF m 145 #[.val (.int i0), .val (.int i1), .val (.int i2), .val (.int i3), .val (.int r0), .val (.int r1), .val (.int r2), .val (.int (i0 &&& (3 : Int32))), .val (.ref an), .val (.ref ao), .val (.ref aw), .val (.ref at3), .val (.ref x2), .unset] [(.int (4 : Int32)), (.int i0)]))
        refine EndsK.go (fun _ kz => XS.iand Y146.here hx rfl (hb hby at_145) rfl kz) ?_
        show EndsK p e below _ (T146.setTop (mkF m 146 #[.val (.int i0), .val (.int i1), .val (.int i2), .val (.int i3), .val (.int r0), .val (.int r1), .val (.int r2), .val (.int (i0 &&& (3 : Int32))), .val (.ref an), .val (.ref ao), .val (.ref aw), .val (.ref at3), .val (.ref x2), .unset] [(.int (i0 &&& (4 : Int32)))]))
        by_cases H146_147 : (i0 &&& (4 : Int32)) = (0 : Int32)
        · refine EndsK.go (fun _ kz => XS.ifYes Y146.here hx rfl (pc0 := 146) (pc' := 157) rfl (hb hby at_146) rfl ((if0 _ _).trans (teq H146_147).1) (by decide) (by decide) kz) ?_
          show EndsK p e below _ (T146.setTop (mkF m 157 #[.val (.int i0), .val (.int i1), .val (.int i2), .val (.int i3), .val (.int r0), .val (.int r1), .val (.int r2), .val (.int (i0 &&& (3 : Int32))), .val (.ref an), .val (.ref ao), .val (.ref aw), .val (.ref at3), .val (.ref x2), .unset] []))
          refine EndsK.go (fun _ kz => XS.aconstNull Y146.here hx rfl (hb hby at_157) kz) ?_
          show EndsK p e below _ (T146.setTop (mkF m 158 #[.val (.int i0), .val (.int i1), .val (.int i2), .val (.int i3), .val (.int r0), .val (.int r1), .val (.int r2), .val (.int (i0 &&& (3 : Int32))), .val (.ref an), .val (.ref ao), .val (.ref aw), .val (.ref at3), .val (.ref x2), .unset] [.null]))
          refine EndsK.go (fun _ kz => XS.astore Y146.here hx rfl (hb hby at_158) rfl rfl (l' := #[.val (.int i0), .val (.int i1), .val (.int i2), .val (.int i3), .val (.int r0), .val (.int r1), .val (.int r2), .val (.int (i0 &&& (3 : Int32))), .val (.ref an), .val (.ref ao), .val (.ref aw), .val (.ref at3), .val (.ref x2), .val .null]) rfl kz) ?_
          show EndsK p e below _ (T146.setTop (mkF m 160 #[.val (.int i0), .val (.int i1), .val (.int i2), .val (.int i3), .val (.int r0), .val (.int r1), .val (.int r2), .val (.int (i0 &&& (3 : Int32))), .val (.ref an), .val (.ref ao), .val (.ref aw), .val (.ref at3), .val (.ref x2), .val .null] []))
          refine EndsK.go (fun _ kz => XS.aload Y146.here hx rfl (hb hby at_160) rfl rfl kz) ?_
          show EndsK p e below _ (T146.setTop (mkF m 162 #[.val (.int i0), .val (.int i1), .val (.int i2), .val (.int i3), .val (.int r0), .val (.int r1), .val (.int r2), .val (.int (i0 &&& (3 : Int32))), .val (.ref an), .val (.ref ao), .val (.ref aw), .val (.ref at3), .val (.ref x2), .val .null] [(.ref x2)]))
          refine EndsK.go (fun _ kz => XS.ifnullNo Y146.here hx rfl (hb hby at_162) rfl kz) ?_
          show EndsK p e below _ (T146.setTop (mkF m 165 #[.val (.int i0), .val (.int i1), .val (.int i2), .val (.int i3), .val (.int r0), .val (.int r1), .val (.int r2), .val (.int (i0 &&& (3 : Int32))), .val (.ref an), .val (.ref ao), .val (.ref aw), .val (.ref at3), .val (.ref x2), .val .null] []))
          refine EndsK.go (fun _ kz => XS.iload Y146.here hx rfl (hb hby at_165) rfl kz) ?_
          show EndsK p e below _ (T146.setTop (mkF m 167 #[.val (.int i0), .val (.int i1), .val (.int i2), .val (.int i3), .val (.int r0), .val (.int r1), .val (.int r2), .val (.int (i0 &&& (3 : Int32))), .val (.ref an), .val (.ref ao), .val (.ref aw), .val (.ref at3), .val (.ref x2), .val .null] [(.int (i0 &&& (3 : Int32)))]))
          refine EndsK.go (fun _ kz => XS.iconst Y146.here hx rfl (hb hby at_167) kz) ?_
          show EndsK p e below _ (T146.setTop (mkF m 168 #[.val (.int i0), .val (.int i1), .val (.int i2), .val (.int i3), .val (.int r0), .val (.int r1), .val (.int r2), .val (.int (i0 &&& (3 : Int32))), .val (.ref an), .val (.ref ao), .val (.ref aw), .val (.ref at3), .val (.ref x2), .val .null] [(.int (1 : Int32)), (.int (i0 &&& (3 : Int32)))]))
          refine EndsK.go (fun _ kz => XS.icmpYes Y146.here hx rfl (pc0 := 168) (pc' := 216) rfl (hb hby at_168) rfl (feq (by rw [H115_144]; decide : ¬ ((i0 &&& (3 : Int32)) = (1 : Int32)))).2 (by decide) (by decide) kz) ?_
          show EndsK p e below _ (T146.setTop (mkF m 216 #[.val (.int i0), .val (.int i1), .val (.int i2), .val (.int i3), .val (.int r0), .val (.int r1), .val (.int r2), .val (.int (i0 &&& (3 : Int32))), .val (.ref an), .val (.ref ao), .val (.ref aw), .val (.ref at3), .val (.ref x2), .val .null] []))
          refine EndsK.go (fun _ kz => XS.iload Y146.here hx rfl (hb hby at_216) rfl kz) ?_
          show EndsK p e below _ (T146.setTop (mkF m 218 #[.val (.int i0), .val (.int i1), .val (.int i2), .val (.int i3), .val (.int r0), .val (.int r1), .val (.int r2), .val (.int (i0 &&& (3 : Int32))), .val (.ref an), .val (.ref ao), .val (.ref aw), .val (.ref at3), .val (.ref x2), .val .null] [(.int (i0 &&& (3 : Int32)))]))
          refine EndsK.go (fun _ kz => XS.iconst Y146.here hx rfl (hb hby at_218) kz) ?_
          show EndsK p e below _ (T146.setTop (mkF m 219 #[.val (.int i0), .val (.int i1), .val (.int i2), .val (.int i3), .val (.int r0), .val (.int r1), .val (.int r2), .val (.int (i0 &&& (3 : Int32))), .val (.ref an), .val (.ref ao), .val (.ref aw), .val (.ref at3), .val (.ref x2), .val .null] [(.int (2 : Int32)), (.int (i0 &&& (3 : Int32)))]))
          refine EndsK.go (fun _ kz => XS.icmpNo Y146.here hx rfl (hb hby at_219) rfl (teq H115_144).2 kz) ?_
          show EndsK p e below _ (T146.setTop (mkF m 222 #[.val (.int i0), .val (.int i1), .val (.int i2), .val (.int i3), .val (.int r0), .val (.int r1), .val (.int r2), .val (.int (i0 &&& (3 : Int32))), .val (.ref an), .val (.ref ao), .val (.ref aw), .val (.ref at3), .val (.ref x2), .val .null] []))
          refine EndsK.go (fun _ kz => XS.iload Y146.here hx rfl (hb hby at_222) rfl kz) ?_
          show EndsK p e below _ (T146.setTop (mkF m 224 #[.val (.int i0), .val (.int i1), .val (.int i2), .val (.int i3), .val (.int r0), .val (.int r1), .val (.int r2), .val (.int (i0 &&& (3 : Int32))), .val (.ref an), .val (.ref ao), .val (.ref aw), .val (.ref at3), .val (.ref x2), .val .null] [(.int r1)]))
          refine EndsK.go (fun _ kz => XS.bipush Y146.here hx rfl (hb hby at_224) kz) ?_
          show EndsK p e below _ (T146.setTop (mkF m 226 #[.val (.int i0), .val (.int i1), .val (.int i2), .val (.int i3), .val (.int r0), .val (.int r1), .val (.int r2), .val (.int (i0 &&& (3 : Int32))), .val (.ref an), .val (.ref ao), .val (.ref aw), .val (.ref at3), .val (.ref x2), .val .null] [(.int (61 : Int32)), (.int r1)]))
          by_cases H226_148 : r1 = (61 : Int32)
          · refine EndsK.go (fun _ kz => XS.icmpNo Y146.here hx rfl (hb hby at_226) rfl (teq H226_148).2 kz) ?_
            show EndsK p e below _ (T146.setTop (mkF m 229 #[.val (.int i0), .val (.int i1), .val (.int i2), .val (.int i3), .val (.int r0), .val (.int r1), .val (.int r2), .val (.int (i0 &&& (3 : Int32))), .val (.ref an), .val (.ref ao), .val (.ref aw), .val (.ref at3), .val (.ref x2), .val .null] []))
            refine EndsK.go (fun _ kz => XS.iload Y146.here hx rfl (hb hby at_229) rfl kz) ?_
            show EndsK p e below _ (T146.setTop (mkF m 231 #[.val (.int i0), .val (.int i1), .val (.int i2), .val (.int i3), .val (.int r0), .val (.int r1), .val (.int r2), .val (.int (i0 &&& (3 : Int32))), .val (.ref an), .val (.ref ao), .val (.ref aw), .val (.ref at3), .val (.ref x2), .val .null] [(.int r0)]))
            refine EndsK.go (fun _ kz => XS.bipush Y146.here hx rfl (hb hby at_231) kz) ?_
            show EndsK p e below _ (T146.setTop (mkF m 233 #[.val (.int i0), .val (.int i1), .val (.int i2), .val (.int i3), .val (.int r0), .val (.int r1), .val (.int r2), .val (.int (i0 &&& (3 : Int32))), .val (.ref an), .val (.ref ao), .val (.ref aw), .val (.ref at3), .val (.ref x2), .val .null] [(.int (33 : Int32)), (.int r0)]))
            by_cases H233_149 : r0 = (33 : Int32)
            · refine EndsK.go (fun _ kz => XS.icmpNo Y146.here hx rfl (hb hby at_233) rfl (teq H233_149).2 kz) ?_
              show EndsK p e below _ (T146.setTop (mkF m 236 #[.val (.int i0), .val (.int i1), .val (.int i2), .val (.int i3), .val (.int r0), .val (.int r1), .val (.int r2), .val (.int (i0 &&& (3 : Int32))), .val (.ref an), .val (.ref ao), .val (.ref aw), .val (.ref at3), .val (.ref x2), .val .null] []))
              obtain ⟨T150, X150, e150, st150⟩ := getS2 Y146 hx hZ hown (host := "") (Or.inl (hw _ (List.mem_of_getElem? (i := 78) rfl))) Via.refl e146 (SN1.ext P146) (g := (mkF m 236 #[.val (.int i0), .val (.int i1), .val (.int i2), .val (.int i3), .val (.int r0), .val (.int r1), .val (.int r2), .val (.int (i0 &&& (3 : Int32))), .val (.ref an), .val (.ref ao), .val (.ref aw), .val (.ref at3), .val (.ref x2), .val .null] [])) rfl (hb hby at_236)
              refine EndsK.go st150 ?_
              show EndsK p e below _ (T150.setTop (mkF m 239 #[.val (.int i0), .val (.int i1), .val (.int i2), .val (.int i3), .val (.int r0), .val (.int r1), .val (.int r2), .val (.int (i0 &&& (3 : Int32))), .val (.ref an), .val (.ref ao), .val (.ref aw), .val (.ref at3), .val (.ref x2), .val .null] [(.ref b1)]))
              refine EndsK.go (fun _ kz => XS.astore X150.here hx rfl (hb hby at_239) rfl rfl (l' := #[.val (.int i0), .val (.int i1), .val (.int i2), .val (.int i3), .val (.int r0), .val (.int r1), .val (.int r2), .val (.int (i0 &&& (3 : Int32))), .val (.ref an), .val (.ref ao), .val (.ref aw), .val (.ref at3), .val (.ref x2), .val (.ref b1)]) rfl kz) ?_
              show EndsK p e below _ (T150.setTop (mkF m 241 #[.val (.int i0), .val (.int i1), .val (.int i2), .val (.int i3), .val (.int r0), .val (.int r1), .val (.int r2), .val (.int (i0 &&& (3 : Int32))), .val (.ref an), .val (.ref ao), .val (.ref aw), .val (.ref at3), .val (.ref x2), .val (.ref b1)] []))
              refine EndsK.go (fun _ kz => XS.goto X150.here hx rfl (pc0 := 241) (pc' := 271) rfl (hb hby at_241) (by decide) (by decide) kz) ?_
              show EndsK p e below _ (T150.setTop (mkF m 271 #[.val (.int i0), .val (.int i1), .val (.int i2), .val (.int i3), .val (.int r0), .val (.int r1), .val (.int r2), .val (.int (i0 &&& (3 : Int32))), .val (.ref an), .val (.ref ao), .val (.ref aw), .val (.ref at3), .val (.ref x2), .val (.ref b1)] []))
              refine EndsK.go (fun _ kz => XS.aload X150.here hx rfl (hb hby at_271) rfl rfl kz) ?_
              show EndsK p e below _ (T150.setTop (mkF m 273 #[.val (.int i0), .val (.int i1), .val (.int i2), .val (.int i3), .val (.int r0), .val (.int r1), .val (.int r2), .val (.int (i0 &&& (3 : Int32))), .val (.ref an), .val (.ref ao), .val (.ref aw), .val (.ref at3), .val (.ref x2), .val (.ref b1)] [(.ref x2)]))
              have hof : ofL [((0 : Int32), .ref b0), ((lf2 (33 : Int32) (61 : Int32) ((nar .char r0).toInt8.toInt32) ((nar .char r1).toInt8.toInt32)), .ref b1), ((0 : Int32), .ref b2), ((lf2 (60 : Int32) (61 : Int32) ((nar .char r0).toInt8.toInt32) ((nar .char r1).toInt8.toInt32)), .ref b3), ((0 : Int32), .ref b4), ((lf2 (62 : Int32) (61 : Int32) ((nar .char r0).toInt8.toInt32) ((nar .char r1).toInt8.toInt32)), .ref b5)] = (.ref b1) := by simp only [lf1, lf2, b8 r0 (33 : Int32) 33 ga0 gb0 rfl (by decide) (by decide), b8 r0 (60 : Int32) 60 ga0 gb0 rfl (by decide) (by decide), b8 r0 (62 : Int32) 62 ga0 gb0 rfl (by decide) (by decide), b8 r1 (61 : Int32) 61 ga1 gb1 rfl (by decide) (by decide)]; simp [ofL, H226_148, H233_149]
              obtain ⟨_, _, ⟨T151, L151, k151, n151⟩, -, X151, ⟨Lc151, hQ151, l151, y151, z151⟩, st151⟩ := Jvm.LawKit.callS X150 hx (y := (⟨"com/example/windrow/windrow/Condition$Comparison", "of", "(Ljava/lang/String;)Lcom/example/windrow/windrow/Condition$Comparison;"⟩ : MethodName)) hown (mvT hZ (hw _ (List.mem_of_getElem? (i := 26) rfl))) (mvT hZ (hw _ (List.mem_of_getElem? (i := 27) rfl))) (mvT hZ (hw _ (List.mem_of_getElem? (i := 28) rfl))) (mvT hZ (hw _ (List.mem_of_getElem? (i := 29) rfl))) (by decide) (backOf (W := 0) (rm_of2 l Z a0 hw [] x2 vb146 cb146 zc ((nar .char r0).toInt8.toInt32) ((nar .char r1).toInt8.toInt32) av cv b0 b1 b2 b3 b4 b5 s0 s1 s2 s3 s4 s5 v0 v1 v2 v3 v4 v5 c0 c1 c2 c3 c4 c5 h146 n0 Z146 (fun q => absurd Es0.lt (by rw [q]; exact Nat.not_lt.mpr sz_x2)) (fun q => absurd Es1.lt (by rw [q]; exact Nat.not_lt.mpr sz_x2)) (fun q => absurd Es2.lt (by rw [q]; exact Nat.not_lt.mpr sz_x2)) (fun q => absurd Es3.lt (by rw [q]; exact Nat.not_lt.mpr sz_x2)) (fun q => absurd Es4.lt (by rw [q]; exact Nat.not_lt.mpr sz_x2)) (fun q => absurd Es5.lt (by rw [q]; exact Nat.not_lt.mpr sz_x2)) Ex146 Fc146 Fv146 (SC.ext P146) hzc Ab146 (by rw [Sz146]; rfl) ⟨inb_of (j := (0 : Int32)) Sz146 ⟨by decide, by decide⟩, (Hb146 0 (by rw [Sz146]; decide)).trans rfl⟩ ⟨inb_of (j := (1 : Int32)) Sz146 ⟨by decide, by decide⟩, (Hb146 1 (by rw [Sz146]; decide)).trans rfl⟩ (SV.ext P146) (AV.ext P146) (EV.ext P146) FV hsz w0 (Fb0.ext P146) (Es0.ext P146) (Fc0.ext P146) (Fv0.ext P146) (Av0.ext P146) zv0 uv0_0 w1 (Fb1.ext P146) (Es1.ext P146) (Fc1.ext P146) (Fv1.ext P146) (Av1.ext P146) zv1 uv1_0 uv1_1 w2 (Fb2.ext P146) (Es2.ext P146) (Fc2.ext P146) (Fv2.ext P146) (Av2.ext P146) zv2 uv2_0 w3 (Fb3.ext P146) (Es3.ext P146) (Fc3.ext P146) (Fv3.ext P146) (Av3.ext P146) zv3 uv3_0 uv3_1 w4 (Fb4.ext P146) (Es4.ext P146) (Fc4.ext P146) (Fv4.ext P146) (Av4.ext P146) zv4 uv4_0 w5 (Fb5.ext P146) (Es5.ext P146) (Fc5.ext P146) (Fv5.ext P146) (Av5.ext P146) zv5 uv5_0 uv5_1) hZ (hw _ (List.mem_of_getElem? (i := 29) rfl)) (hw _ (List.mem_of_getElem? (i := 28) rfl)) (by decide) (by decide)) (g := (mkF m 273 #[.val (.int i0), .val (.int i1), .val (.int i2), .val (.int i3), .val (.int r0), .val (.int r1), .val (.int r2), .val (.int (i0 &&& (3 : Int32))), .val (.ref an), .val (.ref ao), .val (.ref aw), .val (.ref at3), .val (.ref x2), .val (.ref b1)] [(.ref x2)])) rfl (by rw [hml]; rfl) (argsL := [(.ref x2)]) (rest := []) (lenOf pd6 rfl) rfl (by show 2 * 0 + _ ≤ _; exact Nat.le_of_eq rfl) (hb hby at_273) (fun _ _ => ⟨rfl, e150, (by decide : 12 + 1 ≤ _), (by decide : 40 + 6 ≤ _)⟩)
              dsimp only [Pt.U, Pt.locs, Pt.cells, Pt.slots] at X151 l151 y151 z151 st151 hQ151
              subst l151 y151 z151
              obtain ⟨hv151, N151, E151⟩ := hQ151
              rw [hof] at hv151
              subst hv151
              have M151 := Fr.app N0 N151
              refine EndsK.go st151 ?_
              show EndsK p e below _ (T151.setTop (mkF m 276 #[.val (.int i0), .val (.int i1), .val (.int i2), .val (.int i3), .val (.int r0), .val (.int r1), .val (.int r2), .val (.int (i0 &&& (3 : Int32))), .val (.ref an), .val (.ref ao), .val (.ref aw), .val (.ref at3), .val (.ref x2), .val (.ref b1)] [(.ref b1)]))
              refine EndsK.go (fun _ kz => XS.aload X151.here hx rfl (hb hby at_276) rfl rfl kz) ?_
              show EndsK p e below _ (T151.setTop (mkF m 278 #[.val (.int i0), .val (.int i1), .val (.int i2), .val (.int i3), .val (.int r0), .val (.int r1), .val (.int r2), .val (.int (i0 &&& (3 : Int32))), .val (.ref an), .val (.ref ao), .val (.ref aw), .val (.ref at3), .val (.ref x2), .val (.ref b1)] [(.ref b1), (.ref b1)]))
              refine EndsK.go (fun _ kz => Jvm.RoadKit.acmp (g := (mkF m 278 #[.val (.int i0), .val (.int i1), .val (.int i2), .val (.int i3), .val (.int r0), .val (.int r1), .val (.int r2), .val (.int (i0 &&& (3 : Int32))), .val (.ref an), .val (.ref ao), .val (.ref aw), .val (.ref at3), .val (.ref x2), .val (.ref b1)] [(.ref b1), (.ref b1)])) X151 hx rfl rfl rfl (pc0 := 278) (pc' := 281) (same := true) rfl (hb hby at_278) rfl (decide_eq_true rfl) (by decide) (by decide) kz) ?_
              show EndsK p e below _ (T151.setTop (mkF m 281 #[.val (.int i0), .val (.int i1), .val (.int i2), .val (.int i3), .val (.int r0), .val (.int r1), .val (.int r2), .val (.int (i0 &&& (3 : Int32))), .val (.ref an), .val (.ref ao), .val (.ref aw), .val (.ref at3), .val (.ref x2), .val (.ref b1)] []))
              refine EndsK.go (fun _ kz => XS.iconst X151.here hx rfl (hb hby at_281) kz) ?_
              show EndsK p e below _ (T151.setTop (mkF m 282 #[.val (.int i0), .val (.int i1), .val (.int i2), .val (.int i3), .val (.int r0), .val (.int r1), .val (.int r2), .val (.int (i0 &&& (3 : Int32))), .val (.ref an), .val (.ref ao), .val (.ref aw), .val (.ref at3), .val (.ref x2), .val (.ref b1)] [(.int (1 : Int32))]))
              refine EndsK.go (fun _ kz => XS.goto X151.here hx rfl (pc0 := 282) (pc' := 286) rfl (hb hby at_282) (by decide) (by decide) kz) ?_
              show EndsK p e below _ (T151.setTop (mkF m 286 #[.val (.int i0), .val (.int i1), .val (.int i2), .val (.int i3), .val (.int r0), .val (.int r1), .val (.int r2), .val (.int (i0 &&& (3 : Int32))), .val (.ref an), .val (.ref ao), .val (.ref aw), .val (.ref at3), .val (.ref x2), .val (.ref b1)] [(.int (1 : Int32))]))
              exact endN X151 hx (t := .boolean) Bd.returns (by simp) (hb hby at_286) hlk ⟨rfl, M151⟩ (by decide) (by decide)
            · refine EndsK.go (fun _ kz => XS.icmpYes Y146.here hx rfl (pc0 := 233) (pc' := 244) rfl (hb hby at_233) rfl (feq H233_149).2 (by decide) (by decide) kz) ?_
              show EndsK p e below _ (T146.setTop (mkF m 244 #[.val (.int i0), .val (.int i1), .val (.int i2), .val (.int i3), .val (.int r0), .val (.int r1), .val (.int r2), .val (.int (i0 &&& (3 : Int32))), .val (.ref an), .val (.ref ao), .val (.ref aw), .val (.ref at3), .val (.ref x2), .val .null] []))
              refine EndsK.go (fun _ kz => XS.iload Y146.here hx rfl (hb hby at_244) rfl kz) ?_
              show EndsK p e below _ (T146.setTop (mkF m 246 #[.val (.int i0), .val (.int i1), .val (.int i2), .val (.int i3), .val (.int r0), .val (.int r1), .val (.int r2), .val (.int (i0 &&& (3 : Int32))), .val (.ref an), .val (.ref ao), .val (.ref aw), .val (.ref at3), .val (.ref x2), .val .null] [(.int r0)]))
              refine EndsK.go (fun _ kz => XS.bipush Y146.here hx rfl (hb hby at_246) kz) ?_
              show EndsK p e below _ (T146.setTop (mkF m 248 #[.val (.int i0), .val (.int i1), .val (.int i2), .val (.int i3), .val (.int r0), .val (.int r1), .val (.int r2), .val (.int (i0 &&& (3 : Int32))), .val (.ref an), .val (.ref ao), .val (.ref aw), .val (.ref at3), .val (.ref x2), .val .null] [(.int (60 : Int32)), (.int r0)]))
              by_cases H248_152 : r0 = (60 : Int32)
              · refine EndsK.go (fun _ kz => XS.icmpNo Y146.here hx rfl (hb hby at_248) rfl (teq H248_152).2 kz) ?_
                show EndsK p e below _ (T146.setTop (mkF m 251 #[.val (.int i0), .val (.int i1), .val (.int i2), .val (.int i3), .val (.int r0), .val (.int r1), .val (.int r2), .val (.int (i0 &&& (3 : Int32))), .val (.ref an), .val (.ref ao), .val (.ref aw), .val (.ref at3), .val (.ref x2), .val .null] []))
                obtain ⟨T153, X153, e153, st153⟩ := getS2 Y146 hx hZ hown (host := "") (Or.inl (hw _ (List.mem_of_getElem? (i := 79) rfl))) Via.refl e146 (SN3.ext P146) (g := (mkF m 251 #[.val (.int i0), .val (.int i1), .val (.int i2), .val (.int i3), .val (.int r0), .val (.int r1), .val (.int r2), .val (.int (i0 &&& (3 : Int32))), .val (.ref an), .val (.ref ao), .val (.ref aw), .val (.ref at3), .val (.ref x2), .val .null] [])) rfl (hb hby at_251)
                refine EndsK.go st153 ?_
                show EndsK p e below _ (T153.setTop (mkF m 254 #[.val (.int i0), .val (.int i1), .val (.int i2), .val (.int i3), .val (.int r0), .val (.int r1), .val (.int r2), .val (.int (i0 &&& (3 : Int32))), .val (.ref an), .val (.ref ao), .val (.ref aw), .val (.ref at3), .val (.ref x2), .val .null] [(.ref b3)]))
                refine EndsK.go (fun _ kz => XS.astore X153.here hx rfl (hb hby at_254) rfl rfl (l' := #[.val (.int i0), .val (.int i1), .val (.int i2), .val (.int i3), .val (.int r0), .val (.int r1), .val (.int r2), .val (.int (i0 &&& (3 : Int32))), .val (.ref an), .val (.ref ao), .val (.ref aw), .val (.ref at3), .val (.ref x2), .val (.ref b3)]) rfl kz) ?_
                show EndsK p e below _ (T153.setTop (mkF m 256 #[.val (.int i0), .val (.int i1), .val (.int i2), .val (.int i3), .val (.int r0), .val (.int r1), .val (.int r2), .val (.int (i0 &&& (3 : Int32))), .val (.ref an), .val (.ref ao), .val (.ref aw), .val (.ref at3), .val (.ref x2), .val (.ref b3)] []))
                refine EndsK.go (fun _ kz => XS.goto X153.here hx rfl (pc0 := 256) (pc' := 271) rfl (hb hby at_256) (by decide) (by decide) kz) ?_
                show EndsK p e below _ (T153.setTop (mkF m 271 #[.val (.int i0), .val (.int i1), .val (.int i2), .val (.int i3), .val (.int r0), .val (.int r1), .val (.int r2), .val (.int (i0 &&& (3 : Int32))), .val (.ref an), .val (.ref ao), .val (.ref aw), .val (.ref at3), .val (.ref x2), .val (.ref b3)] []))
                refine EndsK.go (fun _ kz => XS.aload X153.here hx rfl (hb hby at_271) rfl rfl kz) ?_
                show EndsK p e below _ (T153.setTop (mkF m 273 #[.val (.int i0), .val (.int i1), .val (.int i2), .val (.int i3), .val (.int r0), .val (.int r1), .val (.int r2), .val (.int (i0 &&& (3 : Int32))), .val (.ref an), .val (.ref ao), .val (.ref aw), .val (.ref at3), .val (.ref x2), .val (.ref b3)] [(.ref x2)]))
                have hof : ofL [((0 : Int32), .ref b0), ((lf2 (33 : Int32) (61 : Int32) ((nar .char r0).toInt8.toInt32) ((nar .char r1).toInt8.toInt32)), .ref b1), ((0 : Int32), .ref b2), ((lf2 (60 : Int32) (61 : Int32) ((nar .char r0).toInt8.toInt32) ((nar .char r1).toInt8.toInt32)), .ref b3), ((0 : Int32), .ref b4), ((lf2 (62 : Int32) (61 : Int32) ((nar .char r0).toInt8.toInt32) ((nar .char r1).toInt8.toInt32)), .ref b5)] = (.ref b3) := by simp only [lf1, lf2, b8 r0 (33 : Int32) 33 ga0 gb0 rfl (by decide) (by decide), b8 r0 (60 : Int32) 60 ga0 gb0 rfl (by decide) (by decide), b8 r0 (62 : Int32) 62 ga0 gb0 rfl (by decide) (by decide), b8 r1 (61 : Int32) 61 ga1 gb1 rfl (by decide) (by decide)]; simp [ofL, H226_148, H233_149, H248_152]
                obtain ⟨_, _, ⟨T154, L154, k154, n154⟩, -, X154, ⟨Lc154, hQ154, l154, y154, z154⟩, st154⟩ := Jvm.LawKit.callS X153 hx (y := (⟨"com/example/windrow/windrow/Condition$Comparison", "of", "(Ljava/lang/String;)Lcom/example/windrow/windrow/Condition$Comparison;"⟩ : MethodName)) hown (mvT hZ (hw _ (List.mem_of_getElem? (i := 26) rfl))) (mvT hZ (hw _ (List.mem_of_getElem? (i := 27) rfl))) (mvT hZ (hw _ (List.mem_of_getElem? (i := 28) rfl))) (mvT hZ (hw _ (List.mem_of_getElem? (i := 29) rfl))) (by decide) (backOf (W := 0) (rm_of2 l Z a0 hw [] x2 vb146 cb146 zc ((nar .char r0).toInt8.toInt32) ((nar .char r1).toInt8.toInt32) av cv b0 b1 b2 b3 b4 b5 s0 s1 s2 s3 s4 s5 v0 v1 v2 v3 v4 v5 c0 c1 c2 c3 c4 c5 h146 n0 Z146 (fun q => absurd Es0.lt (by rw [q]; exact Nat.not_lt.mpr sz_x2)) (fun q => absurd Es1.lt (by rw [q]; exact Nat.not_lt.mpr sz_x2)) (fun q => absurd Es2.lt (by rw [q]; exact Nat.not_lt.mpr sz_x2)) (fun q => absurd Es3.lt (by rw [q]; exact Nat.not_lt.mpr sz_x2)) (fun q => absurd Es4.lt (by rw [q]; exact Nat.not_lt.mpr sz_x2)) (fun q => absurd Es5.lt (by rw [q]; exact Nat.not_lt.mpr sz_x2)) Ex146 Fc146 Fv146 (SC.ext P146) hzc Ab146 (by rw [Sz146]; rfl) ⟨inb_of (j := (0 : Int32)) Sz146 ⟨by decide, by decide⟩, (Hb146 0 (by rw [Sz146]; decide)).trans rfl⟩ ⟨inb_of (j := (1 : Int32)) Sz146 ⟨by decide, by decide⟩, (Hb146 1 (by rw [Sz146]; decide)).trans rfl⟩ (SV.ext P146) (AV.ext P146) (EV.ext P146) FV hsz w0 (Fb0.ext P146) (Es0.ext P146) (Fc0.ext P146) (Fv0.ext P146) (Av0.ext P146) zv0 uv0_0 w1 (Fb1.ext P146) (Es1.ext P146) (Fc1.ext P146) (Fv1.ext P146) (Av1.ext P146) zv1 uv1_0 uv1_1 w2 (Fb2.ext P146) (Es2.ext P146) (Fc2.ext P146) (Fv2.ext P146) (Av2.ext P146) zv2 uv2_0 w3 (Fb3.ext P146) (Es3.ext P146) (Fc3.ext P146) (Fv3.ext P146) (Av3.ext P146) zv3 uv3_0 uv3_1 w4 (Fb4.ext P146) (Es4.ext P146) (Fc4.ext P146) (Fv4.ext P146) (Av4.ext P146) zv4 uv4_0 w5 (Fb5.ext P146) (Es5.ext P146) (Fc5.ext P146) (Fv5.ext P146) (Av5.ext P146) zv5 uv5_0 uv5_1) hZ (hw _ (List.mem_of_getElem? (i := 29) rfl)) (hw _ (List.mem_of_getElem? (i := 28) rfl)) (by decide) (by decide)) (g := (mkF m 273 #[.val (.int i0), .val (.int i1), .val (.int i2), .val (.int i3), .val (.int r0), .val (.int r1), .val (.int r2), .val (.int (i0 &&& (3 : Int32))), .val (.ref an), .val (.ref ao), .val (.ref aw), .val (.ref at3), .val (.ref x2), .val (.ref b3)] [(.ref x2)])) rfl (by rw [hml]; rfl) (argsL := [(.ref x2)]) (rest := []) (lenOf pd6 rfl) rfl (by show 2 * 0 + _ ≤ _; exact Nat.le_of_eq rfl) (hb hby at_273) (fun _ _ => ⟨rfl, e153, (by decide : 12 + 1 ≤ _), (by decide : 40 + 6 ≤ _)⟩)
                dsimp only [Pt.U, Pt.locs, Pt.cells, Pt.slots] at X154 l154 y154 z154 st154 hQ154
                subst l154 y154 z154
                obtain ⟨hv154, N154, E154⟩ := hQ154
                rw [hof] at hv154
                subst hv154
                have M154 := Fr.app N0 N154
                refine EndsK.go st154 ?_
                show EndsK p e below _ (T154.setTop (mkF m 276 #[.val (.int i0), .val (.int i1), .val (.int i2), .val (.int i3), .val (.int r0), .val (.int r1), .val (.int r2), .val (.int (i0 &&& (3 : Int32))), .val (.ref an), .val (.ref ao), .val (.ref aw), .val (.ref at3), .val (.ref x2), .val (.ref b3)] [(.ref b3)]))
                refine EndsK.go (fun _ kz => XS.aload X154.here hx rfl (hb hby at_276) rfl rfl kz) ?_
                show EndsK p e below _ (T154.setTop (mkF m 278 #[.val (.int i0), .val (.int i1), .val (.int i2), .val (.int i3), .val (.int r0), .val (.int r1), .val (.int r2), .val (.int (i0 &&& (3 : Int32))), .val (.ref an), .val (.ref ao), .val (.ref aw), .val (.ref at3), .val (.ref x2), .val (.ref b3)] [(.ref b3), (.ref b3)]))
                refine EndsK.go (fun _ kz => Jvm.RoadKit.acmp (g := (mkF m 278 #[.val (.int i0), .val (.int i1), .val (.int i2), .val (.int i3), .val (.int r0), .val (.int r1), .val (.int r2), .val (.int (i0 &&& (3 : Int32))), .val (.ref an), .val (.ref ao), .val (.ref aw), .val (.ref at3), .val (.ref x2), .val (.ref b3)] [(.ref b3), (.ref b3)])) X154 hx rfl rfl rfl (pc0 := 278) (pc' := 281) (same := true) rfl (hb hby at_278) rfl (decide_eq_true rfl) (by decide) (by decide) kz) ?_
                show EndsK p e below _ (T154.setTop (mkF m 281 #[.val (.int i0), .val (.int i1), .val (.int i2), .val (.int i3), .val (.int r0), .val (.int r1), .val (.int r2), .val (.int (i0 &&& (3 : Int32))), .val (.ref an), .val (.ref ao), .val (.ref aw), .val (.ref at3), .val (.ref x2), .val (.ref b3)] []))
                refine EndsK.go (fun _ kz => XS.iconst X154.here hx rfl (hb hby at_281) kz) ?_
                show EndsK p e below _ (T154.setTop (mkF m 282 #[.val (.int i0), .val (.int i1), .val (.int i2), .val (.int i3), .val (.int r0), .val (.int r1), .val (.int r2), .val (.int (i0 &&& (3 : Int32))), .val (.ref an), .val (.ref ao), .val (.ref aw), .val (.ref at3), .val (.ref x2), .val (.ref b3)] [(.int (1 : Int32))]))
                refine EndsK.go (fun _ kz => XS.goto X154.here hx rfl (pc0 := 282) (pc' := 286) rfl (hb hby at_282) (by decide) (by decide) kz) ?_
                show EndsK p e below _ (T154.setTop (mkF m 286 #[.val (.int i0), .val (.int i1), .val (.int i2), .val (.int i3), .val (.int r0), .val (.int r1), .val (.int r2), .val (.int (i0 &&& (3 : Int32))), .val (.ref an), .val (.ref ao), .val (.ref aw), .val (.ref at3), .val (.ref x2), .val (.ref b3)] [(.int (1 : Int32))]))
                exact endN X154 hx (t := .boolean) Bd.returns (by simp) (hb hby at_286) hlk ⟨rfl, M154⟩ (by decide) (by decide)
              · refine EndsK.go (fun _ kz => XS.icmpYes Y146.here hx rfl (pc0 := 248) (pc' := 259) rfl (hb hby at_248) rfl (feq H248_152).2 (by decide) (by decide) kz) ?_
                show EndsK p e below _ (T146.setTop (mkF m 259 #[.val (.int i0), .val (.int i1), .val (.int i2), .val (.int i3), .val (.int r0), .val (.int r1), .val (.int r2), .val (.int (i0 &&& (3 : Int32))), .val (.ref an), .val (.ref ao), .val (.ref aw), .val (.ref at3), .val (.ref x2), .val .null] []))
                refine EndsK.go (fun _ kz => XS.iload Y146.here hx rfl (hb hby at_259) rfl kz) ?_
                show EndsK p e below _ (T146.setTop (mkF m 261 #[.val (.int i0), .val (.int i1), .val (.int i2), .val (.int i3), .val (.int r0), .val (.int r1), .val (.int r2), .val (.int (i0 &&& (3 : Int32))), .val (.ref an), .val (.ref ao), .val (.ref aw), .val (.ref at3), .val (.ref x2), .val .null] [(.int r0)]))
                refine EndsK.go (fun _ kz => XS.bipush Y146.here hx rfl (hb hby at_261) kz) ?_
                show EndsK p e below _ (T146.setTop (mkF m 263 #[.val (.int i0), .val (.int i1), .val (.int i2), .val (.int i3), .val (.int r0), .val (.int r1), .val (.int r2), .val (.int (i0 &&& (3 : Int32))), .val (.ref an), .val (.ref ao), .val (.ref aw), .val (.ref at3), .val (.ref x2), .val .null] [(.int (62 : Int32)), (.int r0)]))
                by_cases H263_155 : r0 = (62 : Int32)
                · refine EndsK.go (fun _ kz => XS.icmpNo Y146.here hx rfl (hb hby at_263) rfl (teq H263_155).2 kz) ?_
                  show EndsK p e below _ (T146.setTop (mkF m 266 #[.val (.int i0), .val (.int i1), .val (.int i2), .val (.int i3), .val (.int r0), .val (.int r1), .val (.int r2), .val (.int (i0 &&& (3 : Int32))), .val (.ref an), .val (.ref ao), .val (.ref aw), .val (.ref at3), .val (.ref x2), .val .null] []))
                  obtain ⟨T156, X156, e156, st156⟩ := getS2 Y146 hx hZ hown (host := "") (Or.inl (hw _ (List.mem_of_getElem? (i := 75) rfl))) Via.refl e146 (SN5.ext P146) (g := (mkF m 266 #[.val (.int i0), .val (.int i1), .val (.int i2), .val (.int i3), .val (.int r0), .val (.int r1), .val (.int r2), .val (.int (i0 &&& (3 : Int32))), .val (.ref an), .val (.ref ao), .val (.ref aw), .val (.ref at3), .val (.ref x2), .val .null] [])) rfl (hb hby at_266)
                  refine EndsK.go st156 ?_
                  show EndsK p e below _ (T156.setTop (mkF m 269 #[.val (.int i0), .val (.int i1), .val (.int i2), .val (.int i3), .val (.int r0), .val (.int r1), .val (.int r2), .val (.int (i0 &&& (3 : Int32))), .val (.ref an), .val (.ref ao), .val (.ref aw), .val (.ref at3), .val (.ref x2), .val .null] [(.ref b5)]))
                  refine EndsK.go (fun _ kz => XS.astore X156.here hx rfl (hb hby at_269) rfl rfl (l' := #[.val (.int i0), .val (.int i1), .val (.int i2), .val (.int i3), .val (.int r0), .val (.int r1), .val (.int r2), .val (.int (i0 &&& (3 : Int32))), .val (.ref an), .val (.ref ao), .val (.ref aw), .val (.ref at3), .val (.ref x2), .val (.ref b5)]) rfl kz) ?_
                  show EndsK p e below _ (T156.setTop (mkF m 271 #[.val (.int i0), .val (.int i1), .val (.int i2), .val (.int i3), .val (.int r0), .val (.int r1), .val (.int r2), .val (.int (i0 &&& (3 : Int32))), .val (.ref an), .val (.ref ao), .val (.ref aw), .val (.ref at3), .val (.ref x2), .val (.ref b5)] []))
                  refine EndsK.go (fun _ kz => XS.aload X156.here hx rfl (hb hby at_271) rfl rfl kz) ?_
                  show EndsK p e below _ (T156.setTop (mkF m 273 #[.val (.int i0), .val (.int i1), .val (.int i2), .val (.int i3), .val (.int r0), .val (.int r1), .val (.int r2), .val (.int (i0 &&& (3 : Int32))), .val (.ref an), .val (.ref ao), .val (.ref aw), .val (.ref at3), .val (.ref x2), .val (.ref b5)] [(.ref x2)]))
                  have hof : ofL [((0 : Int32), .ref b0), ((lf2 (33 : Int32) (61 : Int32) ((nar .char r0).toInt8.toInt32) ((nar .char r1).toInt8.toInt32)), .ref b1), ((0 : Int32), .ref b2), ((lf2 (60 : Int32) (61 : Int32) ((nar .char r0).toInt8.toInt32) ((nar .char r1).toInt8.toInt32)), .ref b3), ((0 : Int32), .ref b4), ((lf2 (62 : Int32) (61 : Int32) ((nar .char r0).toInt8.toInt32) ((nar .char r1).toInt8.toInt32)), .ref b5)] = (.ref b5) := by simp only [lf1, lf2, b8 r0 (33 : Int32) 33 ga0 gb0 rfl (by decide) (by decide), b8 r0 (60 : Int32) 60 ga0 gb0 rfl (by decide) (by decide), b8 r0 (62 : Int32) 62 ga0 gb0 rfl (by decide) (by decide), b8 r1 (61 : Int32) 61 ga1 gb1 rfl (by decide) (by decide)]; simp [ofL, H226_148, H233_149, H248_152, H263_155]
                  obtain ⟨_, _, ⟨T157, L157, k157, n157⟩, -, X157, ⟨Lc157, hQ157, l157, y157, z157⟩, st157⟩ := Jvm.LawKit.callS X156 hx (y := (⟨"com/example/windrow/windrow/Condition$Comparison", "of", "(Ljava/lang/String;)Lcom/example/windrow/windrow/Condition$Comparison;"⟩ : MethodName)) hown (mvT hZ (hw _ (List.mem_of_getElem? (i := 26) rfl))) (mvT hZ (hw _ (List.mem_of_getElem? (i := 27) rfl))) (mvT hZ (hw _ (List.mem_of_getElem? (i := 28) rfl))) (mvT hZ (hw _ (List.mem_of_getElem? (i := 29) rfl))) (by decide) (backOf (W := 0) (rm_of2 l Z a0 hw [] x2 vb146 cb146 zc ((nar .char r0).toInt8.toInt32) ((nar .char r1).toInt8.toInt32) av cv b0 b1 b2 b3 b4 b5 s0 s1 s2 s3 s4 s5 v0 v1 v2 v3 v4 v5 c0 c1 c2 c3 c4 c5 h146 n0 Z146 (fun q => absurd Es0.lt (by rw [q]; exact Nat.not_lt.mpr sz_x2)) (fun q => absurd Es1.lt (by rw [q]; exact Nat.not_lt.mpr sz_x2)) (fun q => absurd Es2.lt (by rw [q]; exact Nat.not_lt.mpr sz_x2)) (fun q => absurd Es3.lt (by rw [q]; exact Nat.not_lt.mpr sz_x2)) (fun q => absurd Es4.lt (by rw [q]; exact Nat.not_lt.mpr sz_x2)) (fun q => absurd Es5.lt (by rw [q]; exact Nat.not_lt.mpr sz_x2)) Ex146 Fc146 Fv146 (SC.ext P146) hzc Ab146 (by rw [Sz146]; rfl) ⟨inb_of (j := (0 : Int32)) Sz146 ⟨by decide, by decide⟩, (Hb146 0 (by rw [Sz146]; decide)).trans rfl⟩ ⟨inb_of (j := (1 : Int32)) Sz146 ⟨by decide, by decide⟩, (Hb146 1 (by rw [Sz146]; decide)).trans rfl⟩ (SV.ext P146) (AV.ext P146) (EV.ext P146) FV hsz w0 (Fb0.ext P146) (Es0.ext P146) (Fc0.ext P146) (Fv0.ext P146) (Av0.ext P146) zv0 uv0_0 w1 (Fb1.ext P146) (Es1.ext P146) (Fc1.ext P146) (Fv1.ext P146) (Av1.ext P146) zv1 uv1_0 uv1_1 w2 (Fb2.ext P146) (Es2.ext P146) (Fc2.ext P146) (Fv2.ext P146) (Av2.ext P146) zv2 uv2_0 w3 (Fb3.ext P146) (Es3.ext P146) (Fc3.ext P146) (Fv3.ext P146) (Av3.ext P146) zv3 uv3_0 uv3_1 w4 (Fb4.ext P146) (Es4.ext P146) (Fc4.ext P146) (Fv4.ext P146) (Av4.ext P146) zv4 uv4_0 w5 (Fb5.ext P146) (Es5.ext P146) (Fc5.ext P146) (Fv5.ext P146) (Av5.ext P146) zv5 uv5_0 uv5_1) hZ (hw _ (List.mem_of_getElem? (i := 29) rfl)) (hw _ (List.mem_of_getElem? (i := 28) rfl)) (by decide) (by decide)) (g := (mkF m 273 #[.val (.int i0), .val (.int i1), .val (.int i2), .val (.int i3), .val (.int r0), .val (.int r1), .val (.int r2), .val (.int (i0 &&& (3 : Int32))), .val (.ref an), .val (.ref ao), .val (.ref aw), .val (.ref at3), .val (.ref x2), .val (.ref b5)] [(.ref x2)])) rfl (by rw [hml]; rfl) (argsL := [(.ref x2)]) (rest := []) (lenOf pd6 rfl) rfl (by show 2 * 0 + _ ≤ _; exact Nat.le_of_eq rfl) (hb hby at_273) (fun _ _ => ⟨rfl, e156, (by decide : 12 + 1 ≤ _), (by decide : 40 + 6 ≤ _)⟩)
                  dsimp only [Pt.U, Pt.locs, Pt.cells, Pt.slots] at X157 l157 y157 z157 st157 hQ157
                  subst l157 y157 z157
                  obtain ⟨hv157, N157, E157⟩ := hQ157
                  rw [hof] at hv157
                  subst hv157
                  have M157 := Fr.app N0 N157
                  refine EndsK.go st157 ?_
                  show EndsK p e below _ (T157.setTop (mkF m 276 #[.val (.int i0), .val (.int i1), .val (.int i2), .val (.int i3), .val (.int r0), .val (.int r1), .val (.int r2), .val (.int (i0 &&& (3 : Int32))), .val (.ref an), .val (.ref ao), .val (.ref aw), .val (.ref at3), .val (.ref x2), .val (.ref b5)] [(.ref b5)]))
                  refine EndsK.go (fun _ kz => XS.aload X157.here hx rfl (hb hby at_276) rfl rfl kz) ?_
                  show EndsK p e below _ (T157.setTop (mkF m 278 #[.val (.int i0), .val (.int i1), .val (.int i2), .val (.int i3), .val (.int r0), .val (.int r1), .val (.int r2), .val (.int (i0 &&& (3 : Int32))), .val (.ref an), .val (.ref ao), .val (.ref aw), .val (.ref at3), .val (.ref x2), .val (.ref b5)] [(.ref b5), (.ref b5)]))
                  refine EndsK.go (fun _ kz => Jvm.RoadKit.acmp (g := (mkF m 278 #[.val (.int i0), .val (.int i1), .val (.int i2), .val (.int i3), .val (.int r0), .val (.int r1), .val (.int r2), .val (.int (i0 &&& (3 : Int32))), .val (.ref an), .val (.ref ao), .val (.ref aw), .val (.ref at3), .val (.ref x2), .val (.ref b5)] [(.ref b5), (.ref b5)])) X157 hx rfl rfl rfl (pc0 := 278) (pc' := 281) (same := true) rfl (hb hby at_278) rfl (decide_eq_true rfl) (by decide) (by decide) kz) ?_
                  show EndsK p e below _ (T157.setTop (mkF m 281 #[.val (.int i0), .val (.int i1), .val (.int i2), .val (.int i3), .val (.int r0), .val (.int r1), .val (.int r2), .val (.int (i0 &&& (3 : Int32))), .val (.ref an), .val (.ref ao), .val (.ref aw), .val (.ref at3), .val (.ref x2), .val (.ref b5)] []))
                  refine EndsK.go (fun _ kz => XS.iconst X157.here hx rfl (hb hby at_281) kz) ?_
                  show EndsK p e below _ (T157.setTop (mkF m 282 #[.val (.int i0), .val (.int i1), .val (.int i2), .val (.int i3), .val (.int r0), .val (.int r1), .val (.int r2), .val (.int (i0 &&& (3 : Int32))), .val (.ref an), .val (.ref ao), .val (.ref aw), .val (.ref at3), .val (.ref x2), .val (.ref b5)] [(.int (1 : Int32))]))
                  refine EndsK.go (fun _ kz => XS.goto X157.here hx rfl (pc0 := 282) (pc' := 286) rfl (hb hby at_282) (by decide) (by decide) kz) ?_
                  show EndsK p e below _ (T157.setTop (mkF m 286 #[.val (.int i0), .val (.int i1), .val (.int i2), .val (.int i3), .val (.int r0), .val (.int r1), .val (.int r2), .val (.int (i0 &&& (3 : Int32))), .val (.ref an), .val (.ref ao), .val (.ref aw), .val (.ref at3), .val (.ref x2), .val (.ref b5)] [(.int (1 : Int32))]))
                  exact endN X157 hx (t := .boolean) Bd.returns (by simp) (hb hby at_286) hlk ⟨rfl, M157⟩ (by decide) (by decide)
                · refine EndsK.go (fun _ kz => XS.icmpYes Y146.here hx rfl (pc0 := 263) (pc' := 271) rfl (hb hby at_263) rfl (feq H263_155).2 (by decide) (by decide) kz) ?_
                  show EndsK p e below _ (T146.setTop (mkF m 271 #[.val (.int i0), .val (.int i1), .val (.int i2), .val (.int i3), .val (.int r0), .val (.int r1), .val (.int r2), .val (.int (i0 &&& (3 : Int32))), .val (.ref an), .val (.ref ao), .val (.ref aw), .val (.ref at3), .val (.ref x2), .val .null] []))
                  refine EndsK.go (fun _ kz => XS.aload Y146.here hx rfl (hb hby at_271) rfl rfl kz) ?_
                  show EndsK p e below _ (T146.setTop (mkF m 273 #[.val (.int i0), .val (.int i1), .val (.int i2), .val (.int i3), .val (.int r0), .val (.int r1), .val (.int r2), .val (.int (i0 &&& (3 : Int32))), .val (.ref an), .val (.ref ao), .val (.ref aw), .val (.ref at3), .val (.ref x2), .val .null] [(.ref x2)]))
                  have hof : ofL [((0 : Int32), .ref b0), ((lf2 (33 : Int32) (61 : Int32) ((nar .char r0).toInt8.toInt32) ((nar .char r1).toInt8.toInt32)), .ref b1), ((0 : Int32), .ref b2), ((lf2 (60 : Int32) (61 : Int32) ((nar .char r0).toInt8.toInt32) ((nar .char r1).toInt8.toInt32)), .ref b3), ((0 : Int32), .ref b4), ((lf2 (62 : Int32) (61 : Int32) ((nar .char r0).toInt8.toInt32) ((nar .char r1).toInt8.toInt32)), .ref b5)] = .null := by simp only [lf1, lf2, b8 r0 (33 : Int32) 33 ga0 gb0 rfl (by decide) (by decide), b8 r0 (60 : Int32) 60 ga0 gb0 rfl (by decide) (by decide), b8 r0 (62 : Int32) 62 ga0 gb0 rfl (by decide) (by decide), b8 r1 (61 : Int32) 61 ga1 gb1 rfl (by decide) (by decide)]; simp [ofL, H226_148, H233_149, H248_152, H263_155]
                  obtain ⟨_, _, ⟨T158, L158, k158, n158⟩, -, X158, ⟨Lc158, hQ158, l158, y158, z158⟩, st158⟩ := Jvm.LawKit.callS Y146 hx (y := (⟨"com/example/windrow/windrow/Condition$Comparison", "of", "(Ljava/lang/String;)Lcom/example/windrow/windrow/Condition$Comparison;"⟩ : MethodName)) hown (mvT hZ (hw _ (List.mem_of_getElem? (i := 26) rfl))) (mvT hZ (hw _ (List.mem_of_getElem? (i := 27) rfl))) (mvT hZ (hw _ (List.mem_of_getElem? (i := 28) rfl))) (mvT hZ (hw _ (List.mem_of_getElem? (i := 29) rfl))) (by decide) (backOf (W := 0) (rm_of2 l Z a0 hw [] x2 vb146 cb146 zc ((nar .char r0).toInt8.toInt32) ((nar .char r1).toInt8.toInt32) av cv b0 b1 b2 b3 b4 b5 s0 s1 s2 s3 s4 s5 v0 v1 v2 v3 v4 v5 c0 c1 c2 c3 c4 c5 h146 n0 Z146 (fun q => absurd Es0.lt (by rw [q]; exact Nat.not_lt.mpr sz_x2)) (fun q => absurd Es1.lt (by rw [q]; exact Nat.not_lt.mpr sz_x2)) (fun q => absurd Es2.lt (by rw [q]; exact Nat.not_lt.mpr sz_x2)) (fun q => absurd Es3.lt (by rw [q]; exact Nat.not_lt.mpr sz_x2)) (fun q => absurd Es4.lt (by rw [q]; exact Nat.not_lt.mpr sz_x2)) (fun q => absurd Es5.lt (by rw [q]; exact Nat.not_lt.mpr sz_x2)) Ex146 Fc146 Fv146 (SC.ext P146) hzc Ab146 (by rw [Sz146]; rfl) ⟨inb_of (j := (0 : Int32)) Sz146 ⟨by decide, by decide⟩, (Hb146 0 (by rw [Sz146]; decide)).trans rfl⟩ ⟨inb_of (j := (1 : Int32)) Sz146 ⟨by decide, by decide⟩, (Hb146 1 (by rw [Sz146]; decide)).trans rfl⟩ (SV.ext P146) (AV.ext P146) (EV.ext P146) FV hsz w0 (Fb0.ext P146) (Es0.ext P146) (Fc0.ext P146) (Fv0.ext P146) (Av0.ext P146) zv0 uv0_0 w1 (Fb1.ext P146) (Es1.ext P146) (Fc1.ext P146) (Fv1.ext P146) (Av1.ext P146) zv1 uv1_0 uv1_1 w2 (Fb2.ext P146) (Es2.ext P146) (Fc2.ext P146) (Fv2.ext P146) (Av2.ext P146) zv2 uv2_0 w3 (Fb3.ext P146) (Es3.ext P146) (Fc3.ext P146) (Fv3.ext P146) (Av3.ext P146) zv3 uv3_0 uv3_1 w4 (Fb4.ext P146) (Es4.ext P146) (Fc4.ext P146) (Fv4.ext P146) (Av4.ext P146) zv4 uv4_0 w5 (Fb5.ext P146) (Es5.ext P146) (Fc5.ext P146) (Fv5.ext P146) (Av5.ext P146) zv5 uv5_0 uv5_1) hZ (hw _ (List.mem_of_getElem? (i := 29) rfl)) (hw _ (List.mem_of_getElem? (i := 28) rfl)) (by decide) (by decide)) (g := (mkF m 273 #[.val (.int i0), .val (.int i1), .val (.int i2), .val (.int i3), .val (.int r0), .val (.int r1), .val (.int r2), .val (.int (i0 &&& (3 : Int32))), .val (.ref an), .val (.ref ao), .val (.ref aw), .val (.ref at3), .val (.ref x2), .val .null] [(.ref x2)])) rfl (by rw [hml]; rfl) (argsL := [(.ref x2)]) (rest := []) (lenOf pd6 rfl) rfl (by show 2 * 0 + _ ≤ _; exact Nat.le_of_eq rfl) (hb hby at_273) (fun _ _ => ⟨rfl, e146, (by decide : 12 + 1 ≤ _), (by decide : 40 + 6 ≤ _)⟩)
                  dsimp only [Pt.U, Pt.locs, Pt.cells, Pt.slots] at X158 l158 y158 z158 st158 hQ158
                  subst l158 y158 z158
                  obtain ⟨hv158, N158, E158⟩ := hQ158
                  rw [hof] at hv158
                  subst hv158
                  have M158 := Fr.app N0 N158
                  refine EndsK.go st158 ?_
                  show EndsK p e below _ (T158.setTop (mkF m 276 #[.val (.int i0), .val (.int i1), .val (.int i2), .val (.int i3), .val (.int r0), .val (.int r1), .val (.int r2), .val (.int (i0 &&& (3 : Int32))), .val (.ref an), .val (.ref ao), .val (.ref aw), .val (.ref at3), .val (.ref x2), .val .null] [.null]))
                  refine EndsK.go (fun _ kz => XS.aload X158.here hx rfl (hb hby at_276) rfl rfl kz) ?_
                  show EndsK p e below _ (T158.setTop (mkF m 278 #[.val (.int i0), .val (.int i1), .val (.int i2), .val (.int i3), .val (.int r0), .val (.int r1), .val (.int r2), .val (.int (i0 &&& (3 : Int32))), .val (.ref an), .val (.ref ao), .val (.ref aw), .val (.ref at3), .val (.ref x2), .val .null] [.null, .null]))
                  refine EndsK.go (fun _ kz => Jvm.RoadKit.acmp (g := (mkF m 278 #[.val (.int i0), .val (.int i1), .val (.int i2), .val (.int i3), .val (.int r0), .val (.int r1), .val (.int r2), .val (.int (i0 &&& (3 : Int32))), .val (.ref an), .val (.ref ao), .val (.ref aw), .val (.ref at3), .val (.ref x2), .val .null] [.null, .null])) X158 hx rfl rfl rfl (pc0 := 278) (pc' := 281) (same := true) rfl (hb hby at_278) rfl (decide_eq_true rfl) (by decide) (by decide) kz) ?_
                  show EndsK p e below _ (T158.setTop (mkF m 281 #[.val (.int i0), .val (.int i1), .val (.int i2), .val (.int i3), .val (.int r0), .val (.int r1), .val (.int r2), .val (.int (i0 &&& (3 : Int32))), .val (.ref an), .val (.ref ao), .val (.ref aw), .val (.ref at3), .val (.ref x2), .val .null] []))
                  refine EndsK.go (fun _ kz => XS.iconst X158.here hx rfl (hb hby at_281) kz) ?_
                  show EndsK p e below _ (T158.setTop (mkF m 282 #[.val (.int i0), .val (.int i1), .val (.int i2), .val (.int i3), .val (.int r0), .val (.int r1), .val (.int r2), .val (.int (i0 &&& (3 : Int32))), .val (.ref an), .val (.ref ao), .val (.ref aw), .val (.ref at3), .val (.ref x2), .val .null] [(.int (1 : Int32))]))
                  refine EndsK.go (fun _ kz => XS.goto X158.here hx rfl (pc0 := 282) (pc' := 286) rfl (hb hby at_282) (by decide) (by decide) kz) ?_
                  show EndsK p e below _ (T158.setTop (mkF m 286 #[.val (.int i0), .val (.int i1), .val (.int i2), .val (.int i3), .val (.int r0), .val (.int r1), .val (.int r2), .val (.int (i0 &&& (3 : Int32))), .val (.ref an), .val (.ref ao), .val (.ref aw), .val (.ref at3), .val (.ref x2), .val .null] [(.int (1 : Int32))]))
                  exact endN X158 hx (t := .boolean) Bd.returns (by simp) (hb hby at_286) hlk ⟨rfl, M158⟩ (by decide) (by decide)
          · refine EndsK.go (fun _ kz => XS.icmpYes Y146.here hx rfl (pc0 := 226) (pc' := 271) rfl (hb hby at_226) rfl (feq H226_148).2 (by decide) (by decide) kz) ?_
            show EndsK p e below _ (T146.setTop (mkF m 271 #[.val (.int i0), .val (.int i1), .val (.int i2), .val (.int i3), .val (.int r0), .val (.int r1), .val (.int r2), .val (.int (i0 &&& (3 : Int32))), .val (.ref an), .val (.ref ao), .val (.ref aw), .val (.ref at3), .val (.ref x2), .val .null] []))
            refine EndsK.go (fun _ kz => XS.aload Y146.here hx rfl (hb hby at_271) rfl rfl kz) ?_
            show EndsK p e below _ (T146.setTop (mkF m 273 #[.val (.int i0), .val (.int i1), .val (.int i2), .val (.int i3), .val (.int r0), .val (.int r1), .val (.int r2), .val (.int (i0 &&& (3 : Int32))), .val (.ref an), .val (.ref ao), .val (.ref aw), .val (.ref at3), .val (.ref x2), .val .null] [(.ref x2)]))
            have hof : ofL [((0 : Int32), .ref b0), ((lf2 (33 : Int32) (61 : Int32) ((nar .char r0).toInt8.toInt32) ((nar .char r1).toInt8.toInt32)), .ref b1), ((0 : Int32), .ref b2), ((lf2 (60 : Int32) (61 : Int32) ((nar .char r0).toInt8.toInt32) ((nar .char r1).toInt8.toInt32)), .ref b3), ((0 : Int32), .ref b4), ((lf2 (62 : Int32) (61 : Int32) ((nar .char r0).toInt8.toInt32) ((nar .char r1).toInt8.toInt32)), .ref b5)] = .null := by simp only [lf1, lf2, b8 r0 (33 : Int32) 33 ga0 gb0 rfl (by decide) (by decide), b8 r0 (60 : Int32) 60 ga0 gb0 rfl (by decide) (by decide), b8 r0 (62 : Int32) 62 ga0 gb0 rfl (by decide) (by decide), b8 r1 (61 : Int32) 61 ga1 gb1 rfl (by decide) (by decide)]; simp [ofL, H226_148]
            obtain ⟨_, _, ⟨T159, L159, k159, n159⟩, -, X159, ⟨Lc159, hQ159, l159, y159, z159⟩, st159⟩ := Jvm.LawKit.callS Y146 hx (y := (⟨"com/example/windrow/windrow/Condition$Comparison", "of", "(Ljava/lang/String;)Lcom/example/windrow/windrow/Condition$Comparison;"⟩ : MethodName)) hown (mvT hZ (hw _ (List.mem_of_getElem? (i := 26) rfl))) (mvT hZ (hw _ (List.mem_of_getElem? (i := 27) rfl))) (mvT hZ (hw _ (List.mem_of_getElem? (i := 28) rfl))) (mvT hZ (hw _ (List.mem_of_getElem? (i := 29) rfl))) (by decide) (backOf (W := 0) (rm_of2 l Z a0 hw [] x2 vb146 cb146 zc ((nar .char r0).toInt8.toInt32) ((nar .char r1).toInt8.toInt32) av cv b0 b1 b2 b3 b4 b5 s0 s1 s2 s3 s4 s5 v0 v1 v2 v3 v4 v5 c0 c1 c2 c3 c4 c5 h146 n0 Z146 (fun q => absurd Es0.lt (by rw [q]; exact Nat.not_lt.mpr sz_x2)) (fun q => absurd Es1.lt (by rw [q]; exact Nat.not_lt.mpr sz_x2)) (fun q => absurd Es2.lt (by rw [q]; exact Nat.not_lt.mpr sz_x2)) (fun q => absurd Es3.lt (by rw [q]; exact Nat.not_lt.mpr sz_x2)) (fun q => absurd Es4.lt (by rw [q]; exact Nat.not_lt.mpr sz_x2)) (fun q => absurd Es5.lt (by rw [q]; exact Nat.not_lt.mpr sz_x2)) Ex146 Fc146 Fv146 (SC.ext P146) hzc Ab146 (by rw [Sz146]; rfl) ⟨inb_of (j := (0 : Int32)) Sz146 ⟨by decide, by decide⟩, (Hb146 0 (by rw [Sz146]; decide)).trans rfl⟩ ⟨inb_of (j := (1 : Int32)) Sz146 ⟨by decide, by decide⟩, (Hb146 1 (by rw [Sz146]; decide)).trans rfl⟩ (SV.ext P146) (AV.ext P146) (EV.ext P146) FV hsz w0 (Fb0.ext P146) (Es0.ext P146) (Fc0.ext P146) (Fv0.ext P146) (Av0.ext P146) zv0 uv0_0 w1 (Fb1.ext P146) (Es1.ext P146) (Fc1.ext P146) (Fv1.ext P146) (Av1.ext P146) zv1 uv1_0 uv1_1 w2 (Fb2.ext P146) (Es2.ext P146) (Fc2.ext P146) (Fv2.ext P146) (Av2.ext P146) zv2 uv2_0 w3 (Fb3.ext P146) (Es3.ext P146) (Fc3.ext P146) (Fv3.ext P146) (Av3.ext P146) zv3 uv3_0 uv3_1 w4 (Fb4.ext P146) (Es4.ext P146) (Fc4.ext P146) (Fv4.ext P146) (Av4.ext P146) zv4 uv4_0 w5 (Fb5.ext P146) (Es5.ext P146) (Fc5.ext P146) (Fv5.ext P146) (Av5.ext P146) zv5 uv5_0 uv5_1) hZ (hw _ (List.mem_of_getElem? (i := 29) rfl)) (hw _ (List.mem_of_getElem? (i := 28) rfl)) (by decide) (by decide)) (g := (mkF m 273 #[.val (.int i0), .val (.int i1), .val (.int i2), .val (.int i3), .val (.int r0), .val (.int r1), .val (.int r2), .val (.int (i0 &&& (3 : Int32))), .val (.ref an), .val (.ref ao), .val (.ref aw), .val (.ref at3), .val (.ref x2), .val .null] [(.ref x2)])) rfl (by rw [hml]; rfl) (argsL := [(.ref x2)]) (rest := []) (lenOf pd6 rfl) rfl (by show 2 * 0 + _ ≤ _; exact Nat.le_of_eq rfl) (hb hby at_273) (fun _ _ => ⟨rfl, e146, (by decide : 12 + 1 ≤ _), (by decide : 40 + 6 ≤ _)⟩)
            dsimp only [Pt.U, Pt.locs, Pt.cells, Pt.slots] at X159 l159 y159 z159 st159 hQ159
            subst l159 y159 z159
            obtain ⟨hv159, N159, E159⟩ := hQ159
            rw [hof] at hv159
            subst hv159
            have M159 := Fr.app N0 N159
            refine EndsK.go st159 ?_
            show EndsK p e below _ (T159.setTop (mkF m 276 #[.val (.int i0), .val (.int i1), .val (.int i2), .val (.int i3), .val (.int r0), .val (.int r1), .val (.int r2), .val (.int (i0 &&& (3 : Int32))), .val (.ref an), .val (.ref ao), .val (.ref aw), .val (.ref at3), .val (.ref x2), .val .null] [.null]))
            refine EndsK.go (fun _ kz => XS.aload X159.here hx rfl (hb hby at_276) rfl rfl kz) ?_
            show EndsK p e below _ (T159.setTop (mkF m 278 #[.val (.int i0), .val (.int i1), .val (.int i2), .val (.int i3), .val (.int r0), .val (.int r1), .val (.int r2), .val (.int (i0 &&& (3 : Int32))), .val (.ref an), .val (.ref ao), .val (.ref aw), .val (.ref at3), .val (.ref x2), .val .null] [.null, .null]))
            refine EndsK.go (fun _ kz => Jvm.RoadKit.acmp (g := (mkF m 278 #[.val (.int i0), .val (.int i1), .val (.int i2), .val (.int i3), .val (.int r0), .val (.int r1), .val (.int r2), .val (.int (i0 &&& (3 : Int32))), .val (.ref an), .val (.ref ao), .val (.ref aw), .val (.ref at3), .val (.ref x2), .val .null] [.null, .null])) X159 hx rfl rfl rfl (pc0 := 278) (pc' := 281) (same := true) rfl (hb hby at_278) rfl (decide_eq_true rfl) (by decide) (by decide) kz) ?_
            show EndsK p e below _ (T159.setTop (mkF m 281 #[.val (.int i0), .val (.int i1), .val (.int i2), .val (.int i3), .val (.int r0), .val (.int r1), .val (.int r2), .val (.int (i0 &&& (3 : Int32))), .val (.ref an), .val (.ref ao), .val (.ref aw), .val (.ref at3), .val (.ref x2), .val .null] []))
            refine EndsK.go (fun _ kz => XS.iconst X159.here hx rfl (hb hby at_281) kz) ?_
            show EndsK p e below _ (T159.setTop (mkF m 282 #[.val (.int i0), .val (.int i1), .val (.int i2), .val (.int i3), .val (.int r0), .val (.int r1), .val (.int r2), .val (.int (i0 &&& (3 : Int32))), .val (.ref an), .val (.ref ao), .val (.ref aw), .val (.ref at3), .val (.ref x2), .val .null] [(.int (1 : Int32))]))
            refine EndsK.go (fun _ kz => XS.goto X159.here hx rfl (pc0 := 282) (pc' := 286) rfl (hb hby at_282) (by decide) (by decide) kz) ?_
            show EndsK p e below _ (T159.setTop (mkF m 286 #[.val (.int i0), .val (.int i1), .val (.int i2), .val (.int i3), .val (.int r0), .val (.int r1), .val (.int r2), .val (.int (i0 &&& (3 : Int32))), .val (.ref an), .val (.ref ao), .val (.ref aw), .val (.ref at3), .val (.ref x2), .val .null] [(.int (1 : Int32))]))
            exact endN X159 hx (t := .boolean) Bd.returns (by simp) (hb hby at_286) hlk ⟨rfl, M159⟩ (by decide) (by decide)
        · refine EndsK.go (fun _ kz => XS.ifNo Y146.here hx rfl (hb hby at_146) rfl ((if0 _ _).trans (feq H146_147).1) kz) ?_
          show EndsK p e below _ (T146.setTop (mkF m 149 #[.val (.int i0), .val (.int i1), .val (.int i2), .val (.int i3), .val (.int r0), .val (.int r1), .val (.int r2), .val (.int (i0 &&& (3 : Int32))), .val (.ref an), .val (.ref ao), .val (.ref aw), .val (.ref at3), .val (.ref x2), .unset] []))
          refine EndsK.go (fun _ kz => XS.iload Y146.here hx rfl (hb hby at_149) rfl kz) ?_
          show EndsK p e below _ (T146.setTop (mkF m 151 #[.val (.int i0), .val (.int i1), .val (.int i2), .val (.int i3), .val (.int r0), .val (.int r1), .val (.int r2), .val (.int (i0 &&& (3 : Int32))), .val (.ref an), .val (.ref ao), .val (.ref aw), .val (.ref at3), .val (.ref x2), .unset] [(.int (i0 &&& (3 : Int32)))]))
          refine EndsK.go (fun _ kz => XS.ifYes Y146.here hx rfl (pc0 := 151) (pc' := 157) rfl (hb hby at_151) rfl ((if0 _ _).trans (feq (by rw [H115_144]; decide : ¬ ((i0 &&& (3 : Int32)) = (0 : Int32)))).2) (by decide) (by decide) kz) ?_
          show EndsK p e below _ (T146.setTop (mkF m 157 #[.val (.int i0), .val (.int i1), .val (.int i2), .val (.int i3), .val (.int r0), .val (.int r1), .val (.int r2), .val (.int (i0 &&& (3 : Int32))), .val (.ref an), .val (.ref ao), .val (.ref aw), .val (.ref at3), .val (.ref x2), .unset] []))
          refine EndsK.go (fun _ kz => XS.aconstNull Y146.here hx rfl (hb hby at_157) kz) ?_
          show EndsK p e below _ (T146.setTop (mkF m 158 #[.val (.int i0), .val (.int i1), .val (.int i2), .val (.int i3), .val (.int r0), .val (.int r1), .val (.int r2), .val (.int (i0 &&& (3 : Int32))), .val (.ref an), .val (.ref ao), .val (.ref aw), .val (.ref at3), .val (.ref x2), .unset] [.null]))
          refine EndsK.go (fun _ kz => XS.astore Y146.here hx rfl (hb hby at_158) rfl rfl (l' := #[.val (.int i0), .val (.int i1), .val (.int i2), .val (.int i3), .val (.int r0), .val (.int r1), .val (.int r2), .val (.int (i0 &&& (3 : Int32))), .val (.ref an), .val (.ref ao), .val (.ref aw), .val (.ref at3), .val (.ref x2), .val .null]) rfl kz) ?_
          show EndsK p e below _ (T146.setTop (mkF m 160 #[.val (.int i0), .val (.int i1), .val (.int i2), .val (.int i3), .val (.int r0), .val (.int r1), .val (.int r2), .val (.int (i0 &&& (3 : Int32))), .val (.ref an), .val (.ref ao), .val (.ref aw), .val (.ref at3), .val (.ref x2), .val .null] []))
          refine EndsK.go (fun _ kz => XS.aload Y146.here hx rfl (hb hby at_160) rfl rfl kz) ?_
          show EndsK p e below _ (T146.setTop (mkF m 162 #[.val (.int i0), .val (.int i1), .val (.int i2), .val (.int i3), .val (.int r0), .val (.int r1), .val (.int r2), .val (.int (i0 &&& (3 : Int32))), .val (.ref an), .val (.ref ao), .val (.ref aw), .val (.ref at3), .val (.ref x2), .val .null] [(.ref x2)]))
          refine EndsK.go (fun _ kz => XS.ifnullNo Y146.here hx rfl (hb hby at_162) rfl kz) ?_
          show EndsK p e below _ (T146.setTop (mkF m 165 #[.val (.int i0), .val (.int i1), .val (.int i2), .val (.int i3), .val (.int r0), .val (.int r1), .val (.int r2), .val (.int (i0 &&& (3 : Int32))), .val (.ref an), .val (.ref ao), .val (.ref aw), .val (.ref at3), .val (.ref x2), .val .null] []))
          refine EndsK.go (fun _ kz => XS.iload Y146.here hx rfl (hb hby at_165) rfl kz) ?_
          show EndsK p e below _ (T146.setTop (mkF m 167 #[.val (.int i0), .val (.int i1), .val (.int i2), .val (.int i3), .val (.int r0), .val (.int r1), .val (.int r2), .val (.int (i0 &&& (3 : Int32))), .val (.ref an), .val (.ref ao), .val (.ref aw), .val (.ref at3), .val (.ref x2), .val .null] [(.int (i0 &&& (3 : Int32)))]))
          refine EndsK.go (fun _ kz => XS.iconst Y146.here hx rfl (hb hby at_167) kz) ?_
          show EndsK p e below _ (T146.setTop (mkF m 168 #[.val (.int i0), .val (.int i1), .val (.int i2), .val (.int i3), .val (.int r0), .val (.int r1), .val (.int r2), .val (.int (i0 &&& (3 : Int32))), .val (.ref an), .val (.ref ao), .val (.ref aw), .val (.ref at3), .val (.ref x2), .val .null] [(.int (1 : Int32)), (.int (i0 &&& (3 : Int32)))]))
          refine EndsK.go (fun _ kz => XS.icmpYes Y146.here hx rfl (pc0 := 168) (pc' := 216) rfl (hb hby at_168) rfl (feq (by rw [H115_144]; decide : ¬ ((i0 &&& (3 : Int32)) = (1 : Int32)))).2 (by decide) (by decide) kz) ?_
          show EndsK p e below _ (T146.setTop (mkF m 216 #[.val (.int i0), .val (.int i1), .val (.int i2), .val (.int i3), .val (.int r0), .val (.int r1), .val (.int r2), .val (.int (i0 &&& (3 : Int32))), .val (.ref an), .val (.ref ao), .val (.ref aw), .val (.ref at3), .val (.ref x2), .val .null] []))
          refine EndsK.go (fun _ kz => XS.iload Y146.here hx rfl (hb hby at_216) rfl kz) ?_
          show EndsK p e below _ (T146.setTop (mkF m 218 #[.val (.int i0), .val (.int i1), .val (.int i2), .val (.int i3), .val (.int r0), .val (.int r1), .val (.int r2), .val (.int (i0 &&& (3 : Int32))), .val (.ref an), .val (.ref ao), .val (.ref aw), .val (.ref at3), .val (.ref x2), .val .null] [(.int (i0 &&& (3 : Int32)))]))
          refine EndsK.go (fun _ kz => XS.iconst Y146.here hx rfl (hb hby at_218) kz) ?_
          show EndsK p e below _ (T146.setTop (mkF m 219 #[.val (.int i0), .val (.int i1), .val (.int i2), .val (.int i3), .val (.int r0), .val (.int r1), .val (.int r2), .val (.int (i0 &&& (3 : Int32))), .val (.ref an), .val (.ref ao), .val (.ref aw), .val (.ref at3), .val (.ref x2), .val .null] [(.int (2 : Int32)), (.int (i0 &&& (3 : Int32)))]))
          refine EndsK.go (fun _ kz => XS.icmpNo Y146.here hx rfl (hb hby at_219) rfl (teq H115_144).2 kz) ?_
          show EndsK p e below _ (T146.setTop (mkF m 222 #[.val (.int i0), .val (.int i1), .val (.int i2), .val (.int i3), .val (.int r0), .val (.int r1), .val (.int r2), .val (.int (i0 &&& (3 : Int32))), .val (.ref an), .val (.ref ao), .val (.ref aw), .val (.ref at3), .val (.ref x2), .val .null] []))
          refine EndsK.go (fun _ kz => XS.iload Y146.here hx rfl (hb hby at_222) rfl kz) ?_
          show EndsK p e below _ (T146.setTop (mkF m 224 #[.val (.int i0), .val (.int i1), .val (.int i2), .val (.int i3), .val (.int r0), .val (.int r1), .val (.int r2), .val (.int (i0 &&& (3 : Int32))), .val (.ref an), .val (.ref ao), .val (.ref aw), .val (.ref at3), .val (.ref x2), .val .null] [(.int r1)]))
          refine EndsK.go (fun _ kz => XS.bipush Y146.here hx rfl (hb hby at_224) kz) ?_
          show EndsK p e below _ (T146.setTop (mkF m 226 #[.val (.int i0), .val (.int i1), .val (.int i2), .val (.int i3), .val (.int r0), .val (.int r1), .val (.int r2), .val (.int (i0 &&& (3 : Int32))), .val (.ref an), .val (.ref ao), .val (.ref aw), .val (.ref at3), .val (.ref x2), .val .null] [(.int (61 : Int32)), (.int r1)]))
          by_cases H226_160 : r1 = (61 : Int32)
          · refine EndsK.go (fun _ kz => XS.icmpNo Y146.here hx rfl (hb hby at_226) rfl (teq H226_160).2 kz) ?_
            show EndsK p e below _ (T146.setTop (mkF m 229 #[.val (.int i0), .val (.int i1), .val (.int i2), .val (.int i3), .val (.int r0), .val (.int r1), .val (.int r2), .val (.int (i0 &&& (3 : Int32))), .val (.ref an), .val (.ref ao), .val (.ref aw), .val (.ref at3), .val (.ref x2), .val .null] []))
            refine EndsK.go (fun _ kz => XS.iload Y146.here hx rfl (hb hby at_229) rfl kz) ?_
            show EndsK p e below _ (T146.setTop (mkF m 231 #[.val (.int i0), .val (.int i1), .val (.int i2), .val (.int i3), .val (.int r0), .val (.int r1), .val (.int r2), .val (.int (i0 &&& (3 : Int32))), .val (.ref an), .val (.ref ao), .val (.ref aw), .val (.ref at3), .val (.ref x2), .val .null] [(.int r0)]))
            refine EndsK.go (fun _ kz => XS.bipush Y146.here hx rfl (hb hby at_231) kz) ?_
            show EndsK p e below _ (T146.setTop (mkF m 233 #[.val (.int i0), .val (.int i1), .val (.int i2), .val (.int i3), .val (.int r0), .val (.int r1), .val (.int r2), .val (.int (i0 &&& (3 : Int32))), .val (.ref an), .val (.ref ao), .val (.ref aw), .val (.ref at3), .val (.ref x2), .val .null] [(.int (33 : Int32)), (.int r0)]))
            by_cases H233_161 : r0 = (33 : Int32)
            · refine EndsK.go (fun _ kz => XS.icmpNo Y146.here hx rfl (hb hby at_233) rfl (teq H233_161).2 kz) ?_
              show EndsK p e below _ (T146.setTop (mkF m 236 #[.val (.int i0), .val (.int i1), .val (.int i2), .val (.int i3), .val (.int r0), .val (.int r1), .val (.int r2), .val (.int (i0 &&& (3 : Int32))), .val (.ref an), .val (.ref ao), .val (.ref aw), .val (.ref at3), .val (.ref x2), .val .null] []))
              obtain ⟨T162, X162, e162, st162⟩ := getS2 Y146 hx hZ hown (host := "") (Or.inl (hw _ (List.mem_of_getElem? (i := 78) rfl))) Via.refl e146 (SN1.ext P146) (g := (mkF m 236 #[.val (.int i0), .val (.int i1), .val (.int i2), .val (.int i3), .val (.int r0), .val (.int r1), .val (.int r2), .val (.int (i0 &&& (3 : Int32))), .val (.ref an), .val (.ref ao), .val (.ref aw), .val (.ref at3), .val (.ref x2), .val .null] [])) rfl (hb hby at_236)
              refine EndsK.go st162 ?_
              show EndsK p e below _ (T162.setTop (mkF m 239 #[.val (.int i0), .val (.int i1), .val (.int i2), .val (.int i3), .val (.int r0), .val (.int r1), .val (.int r2), .val (.int (i0 &&& (3 : Int32))), .val (.ref an), .val (.ref ao), .val (.ref aw), .val (.ref at3), .val (.ref x2), .val .null] [(.ref b1)]))
              refine EndsK.go (fun _ kz => XS.astore X162.here hx rfl (hb hby at_239) rfl rfl (l' := #[.val (.int i0), .val (.int i1), .val (.int i2), .val (.int i3), .val (.int r0), .val (.int r1), .val (.int r2), .val (.int (i0 &&& (3 : Int32))), .val (.ref an), .val (.ref ao), .val (.ref aw), .val (.ref at3), .val (.ref x2), .val (.ref b1)]) rfl kz) ?_
              show EndsK p e below _ (T162.setTop (mkF m 241 #[.val (.int i0), .val (.int i1), .val (.int i2), .val (.int i3), .val (.int r0), .val (.int r1), .val (.int r2), .val (.int (i0 &&& (3 : Int32))), .val (.ref an), .val (.ref ao), .val (.ref aw), .val (.ref at3), .val (.ref x2), .val (.ref b1)] []))
              refine EndsK.go (fun _ kz => XS.goto X162.here hx rfl (pc0 := 241) (pc' := 271) rfl (hb hby at_241) (by decide) (by decide) kz) ?_
              show EndsK p e below _ (T162.setTop (mkF m 271 #[.val (.int i0), .val (.int i1), .val (.int i2), .val (.int i3), .val (.int r0), .val (.int r1), .val (.int r2), .val (.int (i0 &&& (3 : Int32))), .val (.ref an), .val (.ref ao), .val (.ref aw), .val (.ref at3), .val (.ref x2), .val (.ref b1)] []))
              refine EndsK.go (fun _ kz => XS.aload X162.here hx rfl (hb hby at_271) rfl rfl kz) ?_
              show EndsK p e below _ (T162.setTop (mkF m 273 #[.val (.int i0), .val (.int i1), .val (.int i2), .val (.int i3), .val (.int r0), .val (.int r1), .val (.int r2), .val (.int (i0 &&& (3 : Int32))), .val (.ref an), .val (.ref ao), .val (.ref aw), .val (.ref at3), .val (.ref x2), .val (.ref b1)] [(.ref x2)]))
              have hof : ofL [((0 : Int32), .ref b0), ((lf2 (33 : Int32) (61 : Int32) ((nar .char r0).toInt8.toInt32) ((nar .char r1).toInt8.toInt32)), .ref b1), ((0 : Int32), .ref b2), ((lf2 (60 : Int32) (61 : Int32) ((nar .char r0).toInt8.toInt32) ((nar .char r1).toInt8.toInt32)), .ref b3), ((0 : Int32), .ref b4), ((lf2 (62 : Int32) (61 : Int32) ((nar .char r0).toInt8.toInt32) ((nar .char r1).toInt8.toInt32)), .ref b5)] = (.ref b1) := by simp only [lf1, lf2, b8 r0 (33 : Int32) 33 ga0 gb0 rfl (by decide) (by decide), b8 r0 (60 : Int32) 60 ga0 gb0 rfl (by decide) (by decide), b8 r0 (62 : Int32) 62 ga0 gb0 rfl (by decide) (by decide), b8 r1 (61 : Int32) 61 ga1 gb1 rfl (by decide) (by decide)]; simp [ofL, H226_160, H233_161]
              obtain ⟨_, _, ⟨T163, L163, k163, n163⟩, -, X163, ⟨Lc163, hQ163, l163, y163, z163⟩, st163⟩ := Jvm.LawKit.callS X162 hx (y := (⟨"com/example/windrow/windrow/Condition$Comparison", "of", "(Ljava/lang/String;)Lcom/example/windrow/windrow/Condition$Comparison;"⟩ : MethodName)) hown (mvT hZ (hw _ (List.mem_of_getElem? (i := 26) rfl))) (mvT hZ (hw _ (List.mem_of_getElem? (i := 27) rfl))) (mvT hZ (hw _ (List.mem_of_getElem? (i := 28) rfl))) (mvT hZ (hw _ (List.mem_of_getElem? (i := 29) rfl))) (by decide) (backOf (W := 0) (rm_of2 l Z a0 hw [] x2 vb146 cb146 zc ((nar .char r0).toInt8.toInt32) ((nar .char r1).toInt8.toInt32) av cv b0 b1 b2 b3 b4 b5 s0 s1 s2 s3 s4 s5 v0 v1 v2 v3 v4 v5 c0 c1 c2 c3 c4 c5 h146 n0 Z146 (fun q => absurd Es0.lt (by rw [q]; exact Nat.not_lt.mpr sz_x2)) (fun q => absurd Es1.lt (by rw [q]; exact Nat.not_lt.mpr sz_x2)) (fun q => absurd Es2.lt (by rw [q]; exact Nat.not_lt.mpr sz_x2)) (fun q => absurd Es3.lt (by rw [q]; exact Nat.not_lt.mpr sz_x2)) (fun q => absurd Es4.lt (by rw [q]; exact Nat.not_lt.mpr sz_x2)) (fun q => absurd Es5.lt (by rw [q]; exact Nat.not_lt.mpr sz_x2)) Ex146 Fc146 Fv146 (SC.ext P146) hzc Ab146 (by rw [Sz146]; rfl) ⟨inb_of (j := (0 : Int32)) Sz146 ⟨by decide, by decide⟩, (Hb146 0 (by rw [Sz146]; decide)).trans rfl⟩ ⟨inb_of (j := (1 : Int32)) Sz146 ⟨by decide, by decide⟩, (Hb146 1 (by rw [Sz146]; decide)).trans rfl⟩ (SV.ext P146) (AV.ext P146) (EV.ext P146) FV hsz w0 (Fb0.ext P146) (Es0.ext P146) (Fc0.ext P146) (Fv0.ext P146) (Av0.ext P146) zv0 uv0_0 w1 (Fb1.ext P146) (Es1.ext P146) (Fc1.ext P146) (Fv1.ext P146) (Av1.ext P146) zv1 uv1_0 uv1_1 w2 (Fb2.ext P146) (Es2.ext P146) (Fc2.ext P146) (Fv2.ext P146) (Av2.ext P146) zv2 uv2_0 w3 (Fb3.ext P146) (Es3.ext P146) (Fc3.ext P146) (Fv3.ext P146) (Av3.ext P146) zv3 uv3_0 uv3_1 w4 (Fb4.ext P146) (Es4.ext P146) (Fc4.ext P146) (Fv4.ext P146) (Av4.ext P146) zv4 uv4_0 w5 (Fb5.ext P146) (Es5.ext P146) (Fc5.ext P146) (Fv5.ext P146) (Av5.ext P146) zv5 uv5_0 uv5_1) hZ (hw _ (List.mem_of_getElem? (i := 29) rfl)) (hw _ (List.mem_of_getElem? (i := 28) rfl)) (by decide) (by decide)) (g := (mkF m 273 #[.val (.int i0), .val (.int i1), .val (.int i2), .val (.int i3), .val (.int r0), .val (.int r1), .val (.int r2), .val (.int (i0 &&& (3 : Int32))), .val (.ref an), .val (.ref ao), .val (.ref aw), .val (.ref at3), .val (.ref x2), .val (.ref b1)] [(.ref x2)])) rfl (by rw [hml]; rfl) (argsL := [(.ref x2)]) (rest := []) (lenOf pd6 rfl) rfl (by show 2 * 0 + _ ≤ _; exact Nat.le_of_eq rfl) (hb hby at_273) (fun _ _ => ⟨rfl, e162, (by decide : 12 + 1 ≤ _), (by decide : 40 + 6 ≤ _)⟩)
              dsimp only [Pt.U, Pt.locs, Pt.cells, Pt.slots] at X163 l163 y163 z163 st163 hQ163
              subst l163 y163 z163
              obtain ⟨hv163, N163, E163⟩ := hQ163
              rw [hof] at hv163
              subst hv163
              have M163 := Fr.app N0 N163
              refine EndsK.go st163 ?_
              show EndsK p e below _ (T163.setTop (mkF m 276 #[.val (.int i0), .val (.int i1), .val (.int i2), .val (.int i3), .val (.int r0), .val (.int r1), .val (.int r2), .val (.int (i0 &&& (3 : Int32))), .val (.ref an), .val (.ref ao), .val (.ref aw), .val (.ref at3), .val (.ref x2), .val (.ref b1)] [(.ref b1)]))
              refine EndsK.go (fun _ kz => XS.aload X163.here hx rfl (hb hby at_276) rfl rfl kz) ?_
              show EndsK p e below _ (T163.setTop (mkF m 278 #[.val (.int i0), .val (.int i1), .val (.int i2), .val (.int i3), .val (.int r0), .val (.int r1), .val (.int r2), .val (.int (i0 &&& (3 : Int32))), .val (.ref an), .val (.ref ao), .val (.ref aw), .val (.ref at3), .val (.ref x2), .val (.ref b1)] [(.ref b1), (.ref b1)]))
              refine EndsK.go (fun _ kz => Jvm.RoadKit.acmp (g := (mkF m 278 #[.val (.int i0), .val (.int i1), .val (.int i2), .val (.int i3), .val (.int r0), .val (.int r1), .val (.int r2), .val (.int (i0 &&& (3 : Int32))), .val (.ref an), .val (.ref ao), .val (.ref aw), .val (.ref at3), .val (.ref x2), .val (.ref b1)] [(.ref b1), (.ref b1)])) X163 hx rfl rfl rfl (pc0 := 278) (pc' := 281) (same := true) rfl (hb hby at_278) rfl (decide_eq_true rfl) (by decide) (by decide) kz) ?_
              show EndsK p e below _ (T163.setTop (mkF m 281 #[.val (.int i0), .val (.int i1), .val (.int i2), .val (.int i3), .val (.int r0), .val (.int r1), .val (.int r2), .val (.int (i0 &&& (3 : Int32))), .val (.ref an), .val (.ref ao), .val (.ref aw), .val (.ref at3), .val (.ref x2), .val (.ref b1)] []))
              refine EndsK.go (fun _ kz => XS.iconst X163.here hx rfl (hb hby at_281) kz) ?_
              show EndsK p e below _ (T163.setTop (mkF m 282 #[.val (.int i0), .val (.int i1), .val (.int i2), .val (.int i3), .val (.int r0), .val (.int r1), .val (.int r2), .val (.int (i0 &&& (3 : Int32))), .val (.ref an), .val (.ref ao), .val (.ref aw), .val (.ref at3), .val (.ref x2), .val (.ref b1)] [(.int (1 : Int32))]))
              refine EndsK.go (fun _ kz => XS.goto X163.here hx rfl (pc0 := 282) (pc' := 286) rfl (hb hby at_282) (by decide) (by decide) kz) ?_
              show EndsK p e below _ (T163.setTop (mkF m 286 #[.val (.int i0), .val (.int i1), .val (.int i2), .val (.int i3), .val (.int r0), .val (.int r1), .val (.int r2), .val (.int (i0 &&& (3 : Int32))), .val (.ref an), .val (.ref ao), .val (.ref aw), .val (.ref at3), .val (.ref x2), .val (.ref b1)] [(.int (1 : Int32))]))
              exact endN X163 hx (t := .boolean) Bd.returns (by simp) (hb hby at_286) hlk ⟨rfl, M163⟩ (by decide) (by decide)
            · refine EndsK.go (fun _ kz => XS.icmpYes Y146.here hx rfl (pc0 := 233) (pc' := 244) rfl (hb hby at_233) rfl (feq H233_161).2 (by decide) (by decide) kz) ?_
              show EndsK p e below _ (T146.setTop (mkF m 244 #[.val (.int i0), .val (.int i1), .val (.int i2), .val (.int i3), .val (.int r0), .val (.int r1), .val (.int r2), .val (.int (i0 &&& (3 : Int32))), .val (.ref an), .val (.ref ao), .val (.ref aw), .val (.ref at3), .val (.ref x2), .val .null] []))
              refine EndsK.go (fun _ kz => XS.iload Y146.here hx rfl (hb hby at_244) rfl kz) ?_
              show EndsK p e below _ (T146.setTop (mkF m 246 #[.val (.int i0), .val (.int i1), .val (.int i2), .val (.int i3), .val (.int r0), .val (.int r1), .val (.int r2), .val (.int (i0 &&& (3 : Int32))), .val (.ref an), .val (.ref ao), .val (.ref aw), .val (.ref at3), .val (.ref x2), .val .null] [(.int r0)]))
              refine EndsK.go (fun _ kz => XS.bipush Y146.here hx rfl (hb hby at_246) kz) ?_
              show EndsK p e below _ (T146.setTop (mkF m 248 #[.val (.int i0), .val (.int i1), .val (.int i2), .val (.int i3), .val (.int r0), .val (.int r1), .val (.int r2), .val (.int (i0 &&& (3 : Int32))), .val (.ref an), .val (.ref ao), .val (.ref aw), .val (.ref at3), .val (.ref x2), .val .null] [(.int (60 : Int32)), (.int r0)]))
              by_cases H248_164 : r0 = (60 : Int32)
              · refine EndsK.go (fun _ kz => XS.icmpNo Y146.here hx rfl (hb hby at_248) rfl (teq H248_164).2 kz) ?_
                show EndsK p e below _ (T146.setTop (mkF m 251 #[.val (.int i0), .val (.int i1), .val (.int i2), .val (.int i3), .val (.int r0), .val (.int r1), .val (.int r2), .val (.int (i0 &&& (3 : Int32))), .val (.ref an), .val (.ref ao), .val (.ref aw), .val (.ref at3), .val (.ref x2), .val .null] []))
                obtain ⟨T165, X165, e165, st165⟩ := getS2 Y146 hx hZ hown (host := "") (Or.inl (hw _ (List.mem_of_getElem? (i := 79) rfl))) Via.refl e146 (SN3.ext P146) (g := (mkF m 251 #[.val (.int i0), .val (.int i1), .val (.int i2), .val (.int i3), .val (.int r0), .val (.int r1), .val (.int r2), .val (.int (i0 &&& (3 : Int32))), .val (.ref an), .val (.ref ao), .val (.ref aw), .val (.ref at3), .val (.ref x2), .val .null] [])) rfl (hb hby at_251)
                refine EndsK.go st165 ?_
                show EndsK p e below _ (T165.setTop (mkF m 254 #[.val (.int i0), .val (.int i1), .val (.int i2), .val (.int i3), .val (.int r0), .val (.int r1), .val (.int r2), .val (.int (i0 &&& (3 : Int32))), .val (.ref an), .val (.ref ao), .val (.ref aw), .val (.ref at3), .val (.ref x2), .val .null] [(.ref b3)]))
                refine EndsK.go (fun _ kz => XS.astore X165.here hx rfl (hb hby at_254) rfl rfl (l' := #[.val (.int i0), .val (.int i1), .val (.int i2), .val (.int i3), .val (.int r0), .val (.int r1), .val (.int r2), .val (.int (i0 &&& (3 : Int32))), .val (.ref an), .val (.ref ao), .val (.ref aw), .val (.ref at3), .val (.ref x2), .val (.ref b3)]) rfl kz) ?_
                show EndsK p e below _ (T165.setTop (mkF m 256 #[.val (.int i0), .val (.int i1), .val (.int i2), .val (.int i3), .val (.int r0), .val (.int r1), .val (.int r2), .val (.int (i0 &&& (3 : Int32))), .val (.ref an), .val (.ref ao), .val (.ref aw), .val (.ref at3), .val (.ref x2), .val (.ref b3)] []))
                refine EndsK.go (fun _ kz => XS.goto X165.here hx rfl (pc0 := 256) (pc' := 271) rfl (hb hby at_256) (by decide) (by decide) kz) ?_
                show EndsK p e below _ (T165.setTop (mkF m 271 #[.val (.int i0), .val (.int i1), .val (.int i2), .val (.int i3), .val (.int r0), .val (.int r1), .val (.int r2), .val (.int (i0 &&& (3 : Int32))), .val (.ref an), .val (.ref ao), .val (.ref aw), .val (.ref at3), .val (.ref x2), .val (.ref b3)] []))
                refine EndsK.go (fun _ kz => XS.aload X165.here hx rfl (hb hby at_271) rfl rfl kz) ?_
                show EndsK p e below _ (T165.setTop (mkF m 273 #[.val (.int i0), .val (.int i1), .val (.int i2), .val (.int i3), .val (.int r0), .val (.int r1), .val (.int r2), .val (.int (i0 &&& (3 : Int32))), .val (.ref an), .val (.ref ao), .val (.ref aw), .val (.ref at3), .val (.ref x2), .val (.ref b3)] [(.ref x2)]))
                have hof : ofL [((0 : Int32), .ref b0), ((lf2 (33 : Int32) (61 : Int32) ((nar .char r0).toInt8.toInt32) ((nar .char r1).toInt8.toInt32)), .ref b1), ((0 : Int32), .ref b2), ((lf2 (60 : Int32) (61 : Int32) ((nar .char r0).toInt8.toInt32) ((nar .char r1).toInt8.toInt32)), .ref b3), ((0 : Int32), .ref b4), ((lf2 (62 : Int32) (61 : Int32) ((nar .char r0).toInt8.toInt32) ((nar .char r1).toInt8.toInt32)), .ref b5)] = (.ref b3) := by simp only [lf1, lf2, b8 r0 (33 : Int32) 33 ga0 gb0 rfl (by decide) (by decide), b8 r0 (60 : Int32) 60 ga0 gb0 rfl (by decide) (by decide), b8 r0 (62 : Int32) 62 ga0 gb0 rfl (by decide) (by decide), b8 r1 (61 : Int32) 61 ga1 gb1 rfl (by decide) (by decide)]; simp [ofL, H226_160, H233_161, H248_164]
                obtain ⟨_, _, ⟨T166, L166, k166, n166⟩, -, X166, ⟨Lc166, hQ166, l166, y166, z166⟩, st166⟩ := Jvm.LawKit.callS X165 hx (y := (⟨"com/example/windrow/windrow/Condition$Comparison", "of", "(Ljava/lang/String;)Lcom/example/windrow/windrow/Condition$Comparison;"⟩ : MethodName)) hown (mvT hZ (hw _ (List.mem_of_getElem? (i := 26) rfl))) (mvT hZ (hw _ (List.mem_of_getElem? (i := 27) rfl))) (mvT hZ (hw _ (List.mem_of_getElem? (i := 28) rfl))) (mvT hZ (hw _ (List.mem_of_getElem? (i := 29) rfl))) (by decide) (backOf (W := 0) (rm_of2 l Z a0 hw [] x2 vb146 cb146 zc ((nar .char r0).toInt8.toInt32) ((nar .char r1).toInt8.toInt32) av cv b0 b1 b2 b3 b4 b5 s0 s1 s2 s3 s4 s5 v0 v1 v2 v3 v4 v5 c0 c1 c2 c3 c4 c5 h146 n0 Z146 (fun q => absurd Es0.lt (by rw [q]; exact Nat.not_lt.mpr sz_x2)) (fun q => absurd Es1.lt (by rw [q]; exact Nat.not_lt.mpr sz_x2)) (fun q => absurd Es2.lt (by rw [q]; exact Nat.not_lt.mpr sz_x2)) (fun q => absurd Es3.lt (by rw [q]; exact Nat.not_lt.mpr sz_x2)) (fun q => absurd Es4.lt (by rw [q]; exact Nat.not_lt.mpr sz_x2)) (fun q => absurd Es5.lt (by rw [q]; exact Nat.not_lt.mpr sz_x2)) Ex146 Fc146 Fv146 (SC.ext P146) hzc Ab146 (by rw [Sz146]; rfl) ⟨inb_of (j := (0 : Int32)) Sz146 ⟨by decide, by decide⟩, (Hb146 0 (by rw [Sz146]; decide)).trans rfl⟩ ⟨inb_of (j := (1 : Int32)) Sz146 ⟨by decide, by decide⟩, (Hb146 1 (by rw [Sz146]; decide)).trans rfl⟩ (SV.ext P146) (AV.ext P146) (EV.ext P146) FV hsz w0 (Fb0.ext P146) (Es0.ext P146) (Fc0.ext P146) (Fv0.ext P146) (Av0.ext P146) zv0 uv0_0 w1 (Fb1.ext P146) (Es1.ext P146) (Fc1.ext P146) (Fv1.ext P146) (Av1.ext P146) zv1 uv1_0 uv1_1 w2 (Fb2.ext P146) (Es2.ext P146) (Fc2.ext P146) (Fv2.ext P146) (Av2.ext P146) zv2 uv2_0 w3 (Fb3.ext P146) (Es3.ext P146) (Fc3.ext P146) (Fv3.ext P146) (Av3.ext P146) zv3 uv3_0 uv3_1 w4 (Fb4.ext P146) (Es4.ext P146) (Fc4.ext P146) (Fv4.ext P146) (Av4.ext P146) zv4 uv4_0 w5 (Fb5.ext P146) (Es5.ext P146) (Fc5.ext P146) (Fv5.ext P146) (Av5.ext P146) zv5 uv5_0 uv5_1) hZ (hw _ (List.mem_of_getElem? (i := 29) rfl)) (hw _ (List.mem_of_getElem? (i := 28) rfl)) (by decide) (by decide)) (g := (mkF m 273 #[.val (.int i0), .val (.int i1), .val (.int i2), .val (.int i3), .val (.int r0), .val (.int r1), .val (.int r2), .val (.int (i0 &&& (3 : Int32))), .val (.ref an), .val (.ref ao), .val (.ref aw), .val (.ref at3), .val (.ref x2), .val (.ref b3)] [(.ref x2)])) rfl (by rw [hml]; rfl) (argsL := [(.ref x2)]) (rest := []) (lenOf pd6 rfl) rfl (by show 2 * 0 + _ ≤ _; exact Nat.le_of_eq rfl) (hb hby at_273) (fun _ _ => ⟨rfl, e165, (by decide : 12 + 1 ≤ _), (by decide : 40 + 6 ≤ _)⟩)
                dsimp only [Pt.U, Pt.locs, Pt.cells, Pt.slots] at X166 l166 y166 z166 st166 hQ166
                subst l166 y166 z166
                obtain ⟨hv166, N166, E166⟩ := hQ166
                rw [hof] at hv166
                subst hv166
                have M166 := Fr.app N0 N166
                refine EndsK.go st166 ?_
                show EndsK p e below _ (T166.setTop (mkF m 276 #[.val (.int i0), .val (.int i1), .val (.int i2), .val (.int i3), .val (.int r0), .val (.int r1), .val (.int r2), .val (.int (i0 &&& (3 : Int32))), .val (.ref an), .val (.ref ao), .val (.ref aw), .val (.ref at3), .val (.ref x2), .val (.ref b3)] [(.ref b3)]))
                refine EndsK.go (fun _ kz => XS.aload X166.here hx rfl (hb hby at_276) rfl rfl kz) ?_
                show EndsK p e below _ (T166.setTop (mkF m 278 #[.val (.int i0), .val (.int i1), .val (.int i2), .val (.int i3), .val (.int r0), .val (.int r1), .val (.int r2), .val (.int (i0 &&& (3 : Int32))), .val (.ref an), .val (.ref ao), .val (.ref aw), .val (.ref at3), .val (.ref x2), .val (.ref b3)] [(.ref b3), (.ref b3)]))
                refine EndsK.go (fun _ kz => Jvm.RoadKit.acmp (g := (mkF m 278 #[.val (.int i0), .val (.int i1), .val (.int i2), .val (.int i3), .val (.int r0), .val (.int r1), .val (.int r2), .val (.int (i0 &&& (3 : Int32))), .val (.ref an), .val (.ref ao), .val (.ref aw), .val (.ref at3), .val (.ref x2), .val (.ref b3)] [(.ref b3), (.ref b3)])) X166 hx rfl rfl rfl (pc0 := 278) (pc' := 281) (same := true) rfl (hb hby at_278) rfl (decide_eq_true rfl) (by decide) (by decide) kz) ?_
                show EndsK p e below _ (T166.setTop (mkF m 281 #[.val (.int i0), .val (.int i1), .val (.int i2), .val (.int i3), .val (.int r0), .val (.int r1), .val (.int r2), .val (.int (i0 &&& (3 : Int32))), .val (.ref an), .val (.ref ao), .val (.ref aw), .val (.ref at3), .val (.ref x2), .val (.ref b3)] []))
                refine EndsK.go (fun _ kz => XS.iconst X166.here hx rfl (hb hby at_281) kz) ?_
                show EndsK p e below _ (T166.setTop (mkF m 282 #[.val (.int i0), .val (.int i1), .val (.int i2), .val (.int i3), .val (.int r0), .val (.int r1), .val (.int r2), .val (.int (i0 &&& (3 : Int32))), .val (.ref an), .val (.ref ao), .val (.ref aw), .val (.ref at3), .val (.ref x2), .val (.ref b3)] [(.int (1 : Int32))]))
                refine EndsK.go (fun _ kz => XS.goto X166.here hx rfl (pc0 := 282) (pc' := 286) rfl (hb hby at_282) (by decide) (by decide) kz) ?_
                show EndsK p e below _ (T166.setTop (mkF m 286 #[.val (.int i0), .val (.int i1), .val (.int i2), .val (.int i3), .val (.int r0), .val (.int r1), .val (.int r2), .val (.int (i0 &&& (3 : Int32))), .val (.ref an), .val (.ref ao), .val (.ref aw), .val (.ref at3), .val (.ref x2), .val (.ref b3)] [(.int (1 : Int32))]))
                exact endN X166 hx (t := .boolean) Bd.returns (by simp) (hb hby at_286) hlk ⟨rfl, M166⟩ (by decide) (by decide)
              · refine EndsK.go (fun _ kz => XS.icmpYes Y146.here hx rfl (pc0 := 248) (pc' := 259) rfl (hb hby at_248) rfl (feq H248_164).2 (by decide) (by decide) kz) ?_
                show EndsK p e below _ (T146.setTop (mkF m 259 #[.val (.int i0), .val (.int i1), .val (.int i2), .val (.int i3), .val (.int r0), .val (.int r1), .val (.int r2), .val (.int (i0 &&& (3 : Int32))), .val (.ref an), .val (.ref ao), .val (.ref aw), .val (.ref at3), .val (.ref x2), .val .null] []))
                refine EndsK.go (fun _ kz => XS.iload Y146.here hx rfl (hb hby at_259) rfl kz) ?_
                show EndsK p e below _ (T146.setTop (mkF m 261 #[.val (.int i0), .val (.int i1), .val (.int i2), .val (.int i3), .val (.int r0), .val (.int r1), .val (.int r2), .val (.int (i0 &&& (3 : Int32))), .val (.ref an), .val (.ref ao), .val (.ref aw), .val (.ref at3), .val (.ref x2), .val .null] [(.int r0)]))
                refine EndsK.go (fun _ kz => XS.bipush Y146.here hx rfl (hb hby at_261) kz) ?_
                show EndsK p e below _ (T146.setTop (mkF m 263 #[.val (.int i0), .val (.int i1), .val (.int i2), .val (.int i3), .val (.int r0), .val (.int r1), .val (.int r2), .val (.int (i0 &&& (3 : Int32))), .val (.ref an), .val (.ref ao), .val (.ref aw), .val (.ref at3), .val (.ref x2), .val .null] [(.int (62 : Int32)), (.int r0)]))
                by_cases H263_167 : r0 = (62 : Int32)
                · refine EndsK.go (fun _ kz => XS.icmpNo Y146.here hx rfl (hb hby at_263) rfl (teq H263_167).2 kz) ?_
                  show EndsK p e below _ (T146.setTop (mkF m 266 #[.val (.int i0), .val (.int i1), .val (.int i2), .val (.int i3), .val (.int r0), .val (.int r1), .val (.int r2), .val (.int (i0 &&& (3 : Int32))), .val (.ref an), .val (.ref ao), .val (.ref aw), .val (.ref at3), .val (.ref x2), .val .null] []))
                  obtain ⟨T168, X168, e168, st168⟩ := getS2 Y146 hx hZ hown (host := "") (Or.inl (hw _ (List.mem_of_getElem? (i := 75) rfl))) Via.refl e146 (SN5.ext P146) (g := (mkF m 266 #[.val (.int i0), .val (.int i1), .val (.int i2), .val (.int i3), .val (.int r0), .val (.int r1), .val (.int r2), .val (.int (i0 &&& (3 : Int32))), .val (.ref an), .val (.ref ao), .val (.ref aw), .val (.ref at3), .val (.ref x2), .val .null] [])) rfl (hb hby at_266)
                  refine EndsK.go st168 ?_
                  show EndsK p e below _ (T168.setTop (mkF m 269 #[.val (.int i0), .val (.int i1), .val (.int i2), .val (.int i3), .val (.int r0), .val (.int r1), .val (.int r2), .val (.int (i0 &&& (3 : Int32))), .val (.ref an), .val (.ref ao), .val (.ref aw), .val (.ref at3), .val (.ref x2), .val .null] [(.ref b5)]))
                  refine EndsK.go (fun _ kz => XS.astore X168.here hx rfl (hb hby at_269) rfl rfl (l' := #[.val (.int i0), .val (.int i1), .val (.int i2), .val (.int i3), .val (.int r0), .val (.int r1), .val (.int r2), .val (.int (i0 &&& (3 : Int32))), .val (.ref an), .val (.ref ao), .val (.ref aw), .val (.ref at3), .val (.ref x2), .val (.ref b5)]) rfl kz) ?_
                  show EndsK p e below _ (T168.setTop (mkF m 271 #[.val (.int i0), .val (.int i1), .val (.int i2), .val (.int i3), .val (.int r0), .val (.int r1), .val (.int r2), .val (.int (i0 &&& (3 : Int32))), .val (.ref an), .val (.ref ao), .val (.ref aw), .val (.ref at3), .val (.ref x2), .val (.ref b5)] []))
                  refine EndsK.go (fun _ kz => XS.aload X168.here hx rfl (hb hby at_271) rfl rfl kz) ?_
                  show EndsK p e below _ (T168.setTop (mkF m 273 #[.val (.int i0), .val (.int i1), .val (.int i2), .val (.int i3), .val (.int r0), .val (.int r1), .val (.int r2), .val (.int (i0 &&& (3 : Int32))), .val (.ref an), .val (.ref ao), .val (.ref aw), .val (.ref at3), .val (.ref x2), .val (.ref b5)] [(.ref x2)]))
                  have hof : ofL [((0 : Int32), .ref b0), ((lf2 (33 : Int32) (61 : Int32) ((nar .char r0).toInt8.toInt32) ((nar .char r1).toInt8.toInt32)), .ref b1), ((0 : Int32), .ref b2), ((lf2 (60 : Int32) (61 : Int32) ((nar .char r0).toInt8.toInt32) ((nar .char r1).toInt8.toInt32)), .ref b3), ((0 : Int32), .ref b4), ((lf2 (62 : Int32) (61 : Int32) ((nar .char r0).toInt8.toInt32) ((nar .char r1).toInt8.toInt32)), .ref b5)] = (.ref b5) := by simp only [lf1, lf2, b8 r0 (33 : Int32) 33 ga0 gb0 rfl (by decide) (by decide), b8 r0 (60 : Int32) 60 ga0 gb0 rfl (by decide) (by decide), b8 r0 (62 : Int32) 62 ga0 gb0 rfl (by decide) (by decide), b8 r1 (61 : Int32) 61 ga1 gb1 rfl (by decide) (by decide)]; simp [ofL, H226_160, H233_161, H248_164, H263_167]
                  obtain ⟨_, _, ⟨T169, L169, k169, n169⟩, -, X169, ⟨Lc169, hQ169, l169, y169, z169⟩, st169⟩ := Jvm.LawKit.callS X168 hx (y := (⟨"com/example/windrow/windrow/Condition$Comparison", "of", "(Ljava/lang/String;)Lcom/example/windrow/windrow/Condition$Comparison;"⟩ : MethodName)) hown (mvT hZ (hw _ (List.mem_of_getElem? (i := 26) rfl))) (mvT hZ (hw _ (List.mem_of_getElem? (i := 27) rfl))) (mvT hZ (hw _ (List.mem_of_getElem? (i := 28) rfl))) (mvT hZ (hw _ (List.mem_of_getElem? (i := 29) rfl))) (by decide) (backOf (W := 0) (rm_of2 l Z a0 hw [] x2 vb146 cb146 zc ((nar .char r0).toInt8.toInt32) ((nar .char r1).toInt8.toInt32) av cv b0 b1 b2 b3 b4 b5 s0 s1 s2 s3 s4 s5 v0 v1 v2 v3 v4 v5 c0 c1 c2 c3 c4 c5 h146 n0 Z146 (fun q => absurd Es0.lt (by rw [q]; exact Nat.not_lt.mpr sz_x2)) (fun q => absurd Es1.lt (by rw [q]; exact Nat.not_lt.mpr sz_x2)) (fun q => absurd Es2.lt (by rw [q]; exact Nat.not_lt.mpr sz_x2)) (fun q => absurd Es3.lt (by rw [q]; exact Nat.not_lt.mpr sz_x2)) (fun q => absurd Es4.lt (by rw [q]; exact Nat.not_lt.mpr sz_x2)) (fun q => absurd Es5.lt (by rw [q]; exact Nat.not_lt.mpr sz_x2)) Ex146 Fc146 Fv146 (SC.ext P146) hzc Ab146 (by rw [Sz146]; rfl) ⟨inb_of (j := (0 : Int32)) Sz146 ⟨by decide, by decide⟩, (Hb146 0 (by rw [Sz146]; decide)).trans rfl⟩ ⟨inb_of (j := (1 : Int32)) Sz146 ⟨by decide, by decide⟩, (Hb146 1 (by rw [Sz146]; decide)).trans rfl⟩ (SV.ext P146) (AV.ext P146) (EV.ext P146) FV hsz w0 (Fb0.ext P146) (Es0.ext P146) (Fc0.ext P146) (Fv0.ext P146) (Av0.ext P146) zv0 uv0_0 w1 (Fb1.ext P146) (Es1.ext P146) (Fc1.ext P146) (Fv1.ext P146) (Av1.ext P146) zv1 uv1_0 uv1_1 w2 (Fb2.ext P146) (Es2.ext P146) (Fc2.ext P146) (Fv2.ext P146) (Av2.ext P146) zv2 uv2_0 w3 (Fb3.ext P146) (Es3.ext P146) (Fc3.ext P146) (Fv3.ext P146) (Av3.ext P146) zv3 uv3_0 uv3_1 w4 (Fb4.ext P146) (Es4.ext P146) (Fc4.ext P146) (Fv4.ext P146) (Av4.ext P146) zv4 uv4_0 w5 (Fb5.ext P146) (Es5.ext P146) (Fc5.ext P146) (Fv5.ext P146) (Av5.ext P146) zv5 uv5_0 uv5_1) hZ (hw _ (List.mem_of_getElem? (i := 29) rfl)) (hw _ (List.mem_of_getElem? (i := 28) rfl)) (by decide) (by decide)) (g := (mkF m 273 #[.val (.int i0), .val (.int i1), .val (.int i2), .val (.int i3), .val (.int r0), .val (.int r1), .val (.int r2), .val (.int (i0 &&& (3 : Int32))), .val (.ref an), .val (.ref ao), .val (.ref aw), .val (.ref at3), .val (.ref x2), .val (.ref b5)] [(.ref x2)])) rfl (by rw [hml]; rfl) (argsL := [(.ref x2)]) (rest := []) (lenOf pd6 rfl) rfl (by show 2 * 0 + _ ≤ _; exact Nat.le_of_eq rfl) (hb hby at_273) (fun _ _ => ⟨rfl, e168, (by decide : 12 + 1 ≤ _), (by decide : 40 + 6 ≤ _)⟩)
                  dsimp only [Pt.U, Pt.locs, Pt.cells, Pt.slots] at X169 l169 y169 z169 st169 hQ169
                  subst l169 y169 z169
                  obtain ⟨hv169, N169, E169⟩ := hQ169
                  rw [hof] at hv169
                  subst hv169
                  have M169 := Fr.app N0 N169
                  refine EndsK.go st169 ?_
                  show EndsK p e below _ (T169.setTop (mkF m 276 #[.val (.int i0), .val (.int i1), .val (.int i2), .val (.int i3), .val (.int r0), .val (.int r1), .val (.int r2), .val (.int (i0 &&& (3 : Int32))), .val (.ref an), .val (.ref ao), .val (.ref aw), .val (.ref at3), .val (.ref x2), .val (.ref b5)] [(.ref b5)]))
                  refine EndsK.go (fun _ kz => XS.aload X169.here hx rfl (hb hby at_276) rfl rfl kz) ?_
                  show EndsK p e below _ (T169.setTop (mkF m 278 #[.val (.int i0), .val (.int i1), .val (.int i2), .val (.int i3), .val (.int r0), .val (.int r1), .val (.int r2), .val (.int (i0 &&& (3 : Int32))), .val (.ref an), .val (.ref ao), .val (.ref aw), .val (.ref at3), .val (.ref x2), .val (.ref b5)] [(.ref b5), (.ref b5)]))
                  refine EndsK.go (fun _ kz => Jvm.RoadKit.acmp (g := (mkF m 278 #[.val (.int i0), .val (.int i1), .val (.int i2), .val (.int i3), .val (.int r0), .val (.int r1), .val (.int r2), .val (.int (i0 &&& (3 : Int32))), .val (.ref an), .val (.ref ao), .val (.ref aw), .val (.ref at3), .val (.ref x2), .val (.ref b5)] [(.ref b5), (.ref b5)])) X169 hx rfl rfl rfl (pc0 := 278) (pc' := 281) (same := true) rfl (hb hby at_278) rfl (decide_eq_true rfl) (by decide) (by decide) kz) ?_
                  show EndsK p e below _ (T169.setTop (mkF m 281 #[.val (.int i0), .val (.int i1), .val (.int i2), .val (.int i3), .val (.int r0), .val (.int r1), .val (.int r2), .val (.int (i0 &&& (3 : Int32))), .val (.ref an), .val (.ref ao), .val (.ref aw), .val (.ref at3), .val (.ref x2), .val (.ref b5)] []))
                  refine EndsK.go (fun _ kz => XS.iconst X169.here hx rfl (hb hby at_281) kz) ?_
                  show EndsK p e below _ (T169.setTop (mkF m 282 #[.val (.int i0), .val (.int i1), .val (.int i2), .val (.int i3), .val (.int r0), .val (.int r1), .val (.int r2), .val (.int (i0 &&& (3 : Int32))), .val (.ref an), .val (.ref ao), .val (.ref aw), .val (.ref at3), .val (.ref x2), .val (.ref b5)] [(.int (1 : Int32))]))
                  refine EndsK.go (fun _ kz => XS.goto X169.here hx rfl (pc0 := 282) (pc' := 286) rfl (hb hby at_282) (by decide) (by decide) kz) ?_
                  show EndsK p e below _ (T169.setTop (mkF m 286 #[.val (.int i0), .val (.int i1), .val (.int i2), .val (.int i3), .val (.int r0), .val (.int r1), .val (.int r2), .val (.int (i0 &&& (3 : Int32))), .val (.ref an), .val (.ref ao), .val (.ref aw), .val (.ref at3), .val (.ref x2), .val (.ref b5)] [(.int (1 : Int32))]))
                  exact endN X169 hx (t := .boolean) Bd.returns (by simp) (hb hby at_286) hlk ⟨rfl, M169⟩ (by decide) (by decide)
                · refine EndsK.go (fun _ kz => XS.icmpYes Y146.here hx rfl (pc0 := 263) (pc' := 271) rfl (hb hby at_263) rfl (feq H263_167).2 (by decide) (by decide) kz) ?_
                  show EndsK p e below _ (T146.setTop (mkF m 271 #[.val (.int i0), .val (.int i1), .val (.int i2), .val (.int i3), .val (.int r0), .val (.int r1), .val (.int r2), .val (.int (i0 &&& (3 : Int32))), .val (.ref an), .val (.ref ao), .val (.ref aw), .val (.ref at3), .val (.ref x2), .val .null] []))
                  refine EndsK.go (fun _ kz => XS.aload Y146.here hx rfl (hb hby at_271) rfl rfl kz) ?_
                  show EndsK p e below _ (T146.setTop (mkF m 273 #[.val (.int i0), .val (.int i1), .val (.int i2), .val (.int i3), .val (.int r0), .val (.int r1), .val (.int r2), .val (.int (i0 &&& (3 : Int32))), .val (.ref an), .val (.ref ao), .val (.ref aw), .val (.ref at3), .val (.ref x2), .val .null] [(.ref x2)]))
                  have hof : ofL [((0 : Int32), .ref b0), ((lf2 (33 : Int32) (61 : Int32) ((nar .char r0).toInt8.toInt32) ((nar .char r1).toInt8.toInt32)), .ref b1), ((0 : Int32), .ref b2), ((lf2 (60 : Int32) (61 : Int32) ((nar .char r0).toInt8.toInt32) ((nar .char r1).toInt8.toInt32)), .ref b3), ((0 : Int32), .ref b4), ((lf2 (62 : Int32) (61 : Int32) ((nar .char r0).toInt8.toInt32) ((nar .char r1).toInt8.toInt32)), .ref b5)] = .null := by simp only [lf1, lf2, b8 r0 (33 : Int32) 33 ga0 gb0 rfl (by decide) (by decide), b8 r0 (60 : Int32) 60 ga0 gb0 rfl (by decide) (by decide), b8 r0 (62 : Int32) 62 ga0 gb0 rfl (by decide) (by decide), b8 r1 (61 : Int32) 61 ga1 gb1 rfl (by decide) (by decide)]; simp [ofL, H226_160, H233_161, H248_164, H263_167]
                  obtain ⟨_, _, ⟨T170, L170, k170, n170⟩, -, X170, ⟨Lc170, hQ170, l170, y170, z170⟩, st170⟩ := Jvm.LawKit.callS Y146 hx (y := (⟨"com/example/windrow/windrow/Condition$Comparison", "of", "(Ljava/lang/String;)Lcom/example/windrow/windrow/Condition$Comparison;"⟩ : MethodName)) hown (mvT hZ (hw _ (List.mem_of_getElem? (i := 26) rfl))) (mvT hZ (hw _ (List.mem_of_getElem? (i := 27) rfl))) (mvT hZ (hw _ (List.mem_of_getElem? (i := 28) rfl))) (mvT hZ (hw _ (List.mem_of_getElem? (i := 29) rfl))) (by decide) (backOf (W := 0) (rm_of2 l Z a0 hw [] x2 vb146 cb146 zc ((nar .char r0).toInt8.toInt32) ((nar .char r1).toInt8.toInt32) av cv b0 b1 b2 b3 b4 b5 s0 s1 s2 s3 s4 s5 v0 v1 v2 v3 v4 v5 c0 c1 c2 c3 c4 c5 h146 n0 Z146 (fun q => absurd Es0.lt (by rw [q]; exact Nat.not_lt.mpr sz_x2)) (fun q => absurd Es1.lt (by rw [q]; exact Nat.not_lt.mpr sz_x2)) (fun q => absurd Es2.lt (by rw [q]; exact Nat.not_lt.mpr sz_x2)) (fun q => absurd Es3.lt (by rw [q]; exact Nat.not_lt.mpr sz_x2)) (fun q => absurd Es4.lt (by rw [q]; exact Nat.not_lt.mpr sz_x2)) (fun q => absurd Es5.lt (by rw [q]; exact Nat.not_lt.mpr sz_x2)) Ex146 Fc146 Fv146 (SC.ext P146) hzc Ab146 (by rw [Sz146]; rfl) ⟨inb_of (j := (0 : Int32)) Sz146 ⟨by decide, by decide⟩, (Hb146 0 (by rw [Sz146]; decide)).trans rfl⟩ ⟨inb_of (j := (1 : Int32)) Sz146 ⟨by decide, by decide⟩, (Hb146 1 (by rw [Sz146]; decide)).trans rfl⟩ (SV.ext P146) (AV.ext P146) (EV.ext P146) FV hsz w0 (Fb0.ext P146) (Es0.ext P146) (Fc0.ext P146) (Fv0.ext P146) (Av0.ext P146) zv0 uv0_0 w1 (Fb1.ext P146) (Es1.ext P146) (Fc1.ext P146) (Fv1.ext P146) (Av1.ext P146) zv1 uv1_0 uv1_1 w2 (Fb2.ext P146) (Es2.ext P146) (Fc2.ext P146) (Fv2.ext P146) (Av2.ext P146) zv2 uv2_0 w3 (Fb3.ext P146) (Es3.ext P146) (Fc3.ext P146) (Fv3.ext P146) (Av3.ext P146) zv3 uv3_0 uv3_1 w4 (Fb4.ext P146) (Es4.ext P146) (Fc4.ext P146) (Fv4.ext P146) (Av4.ext P146) zv4 uv4_0 w5 (Fb5.ext P146) (Es5.ext P146) (Fc5.ext P146) (Fv5.ext P146) (Av5.ext P146) zv5 uv5_0 uv5_1) hZ (hw _ (List.mem_of_getElem? (i := 29) rfl)) (hw _ (List.mem_of_getElem? (i := 28) rfl)) (by decide) (by decide)) (g := (mkF m 273 #[.val (.int i0), .val (.int i1), .val (.int i2), .val (.int i3), .val (.int r0), .val (.int r1), .val (.int r2), .val (.int (i0 &&& (3 : Int32))), .val (.ref an), .val (.ref ao), .val (.ref aw), .val (.ref at3), .val (.ref x2), .val .null] [(.ref x2)])) rfl (by rw [hml]; rfl) (argsL := [(.ref x2)]) (rest := []) (lenOf pd6 rfl) rfl (by show 2 * 0 + _ ≤ _; exact Nat.le_of_eq rfl) (hb hby at_273) (fun _ _ => ⟨rfl, e146, (by decide : 12 + 1 ≤ _), (by decide : 40 + 6 ≤ _)⟩)
                  dsimp only [Pt.U, Pt.locs, Pt.cells, Pt.slots] at X170 l170 y170 z170 st170 hQ170
                  subst l170 y170 z170
                  obtain ⟨hv170, N170, E170⟩ := hQ170
                  rw [hof] at hv170
                  subst hv170
                  have M170 := Fr.app N0 N170
                  refine EndsK.go st170 ?_
                  show EndsK p e below _ (T170.setTop (mkF m 276 #[.val (.int i0), .val (.int i1), .val (.int i2), .val (.int i3), .val (.int r0), .val (.int r1), .val (.int r2), .val (.int (i0 &&& (3 : Int32))), .val (.ref an), .val (.ref ao), .val (.ref aw), .val (.ref at3), .val (.ref x2), .val .null] [.null]))
                  refine EndsK.go (fun _ kz => XS.aload X170.here hx rfl (hb hby at_276) rfl rfl kz) ?_
                  show EndsK p e below _ (T170.setTop (mkF m 278 #[.val (.int i0), .val (.int i1), .val (.int i2), .val (.int i3), .val (.int r0), .val (.int r1), .val (.int r2), .val (.int (i0 &&& (3 : Int32))), .val (.ref an), .val (.ref ao), .val (.ref aw), .val (.ref at3), .val (.ref x2), .val .null] [.null, .null]))
                  refine EndsK.go (fun _ kz => Jvm.RoadKit.acmp (g := (mkF m 278 #[.val (.int i0), .val (.int i1), .val (.int i2), .val (.int i3), .val (.int r0), .val (.int r1), .val (.int r2), .val (.int (i0 &&& (3 : Int32))), .val (.ref an), .val (.ref ao), .val (.ref aw), .val (.ref at3), .val (.ref x2), .val .null] [.null, .null])) X170 hx rfl rfl rfl (pc0 := 278) (pc' := 281) (same := true) rfl (hb hby at_278) rfl (decide_eq_true rfl) (by decide) (by decide) kz) ?_
                  show EndsK p e below _ (T170.setTop (mkF m 281 #[.val (.int i0), .val (.int i1), .val (.int i2), .val (.int i3), .val (.int r0), .val (.int r1), .val (.int r2), .val (.int (i0 &&& (3 : Int32))), .val (.ref an), .val (.ref ao), .val (.ref aw), .val (.ref at3), .val (.ref x2), .val .null] []))
                  refine EndsK.go (fun _ kz => XS.iconst X170.here hx rfl (hb hby at_281) kz) ?_
                  show EndsK p e below _ (T170.setTop (mkF m 282 #[.val (.int i0), .val (.int i1), .val (.int i2), .val (.int i3), .val (.int r0), .val (.int r1), .val (.int r2), .val (.int (i0 &&& (3 : Int32))), .val (.ref an), .val (.ref ao), .val (.ref aw), .val (.ref at3), .val (.ref x2), .val .null] [(.int (1 : Int32))]))
                  refine EndsK.go (fun _ kz => XS.goto X170.here hx rfl (pc0 := 282) (pc' := 286) rfl (hb hby at_282) (by decide) (by decide) kz) ?_
                  show EndsK p e below _ (T170.setTop (mkF m 286 #[.val (.int i0), .val (.int i1), .val (.int i2), .val (.int i3), .val (.int r0), .val (.int r1), .val (.int r2), .val (.int (i0 &&& (3 : Int32))), .val (.ref an), .val (.ref ao), .val (.ref aw), .val (.ref at3), .val (.ref x2), .val .null] [(.int (1 : Int32))]))
                  exact endN X170 hx (t := .boolean) Bd.returns (by simp) (hb hby at_286) hlk ⟨rfl, M170⟩ (by decide) (by decide)
          · refine EndsK.go (fun _ kz => XS.icmpYes Y146.here hx rfl (pc0 := 226) (pc' := 271) rfl (hb hby at_226) rfl (feq H226_160).2 (by decide) (by decide) kz) ?_
            show EndsK p e below _ (T146.setTop (mkF m 271 #[.val (.int i0), .val (.int i1), .val (.int i2), .val (.int i3), .val (.int r0), .val (.int r1), .val (.int r2), .val (.int (i0 &&& (3 : Int32))), .val (.ref an), .val (.ref ao), .val (.ref aw), .val (.ref at3), .val (.ref x2), .val .null] []))
            refine EndsK.go (fun _ kz => XS.aload Y146.here hx rfl (hb hby at_271) rfl rfl kz) ?_
            show EndsK p e below _ (T146.setTop (mkF m 273 #[.val (.int i0), .val (.int i1), .val (.int i2), .val (.int i3), .val (.int r0), .val (.int r1), .val (.int r2), .val (.int (i0 &&& (3 : Int32))), .val (.ref an), .val (.ref ao), .val (.ref aw), .val (.ref at3), .val (.ref x2), .val .null] [(.ref x2)]))
            have hof : ofL [((0 : Int32), .ref b0), ((lf2 (33 : Int32) (61 : Int32) ((nar .char r0).toInt8.toInt32) ((nar .char r1).toInt8.toInt32)), .ref b1), ((0 : Int32), .ref b2), ((lf2 (60 : Int32) (61 : Int32) ((nar .char r0).toInt8.toInt32) ((nar .char r1).toInt8.toInt32)), .ref b3), ((0 : Int32), .ref b4), ((lf2 (62 : Int32) (61 : Int32) ((nar .char r0).toInt8.toInt32) ((nar .char r1).toInt8.toInt32)), .ref b5)] = .null := by simp only [lf1, lf2, b8 r0 (33 : Int32) 33 ga0 gb0 rfl (by decide) (by decide), b8 r0 (60 : Int32) 60 ga0 gb0 rfl (by decide) (by decide), b8 r0 (62 : Int32) 62 ga0 gb0 rfl (by decide) (by decide), b8 r1 (61 : Int32) 61 ga1 gb1 rfl (by decide) (by decide)]; simp [ofL, H226_160]
            obtain ⟨_, _, ⟨T171, L171, k171, n171⟩, -, X171, ⟨Lc171, hQ171, l171, y171, z171⟩, st171⟩ := Jvm.LawKit.callS Y146 hx (y := (⟨"com/example/windrow/windrow/Condition$Comparison", "of", "(Ljava/lang/String;)Lcom/example/windrow/windrow/Condition$Comparison;"⟩ : MethodName)) hown (mvT hZ (hw _ (List.mem_of_getElem? (i := 26) rfl))) (mvT hZ (hw _ (List.mem_of_getElem? (i := 27) rfl))) (mvT hZ (hw _ (List.mem_of_getElem? (i := 28) rfl))) (mvT hZ (hw _ (List.mem_of_getElem? (i := 29) rfl))) (by decide) (backOf (W := 0) (rm_of2 l Z a0 hw [] x2 vb146 cb146 zc ((nar .char r0).toInt8.toInt32) ((nar .char r1).toInt8.toInt32) av cv b0 b1 b2 b3 b4 b5 s0 s1 s2 s3 s4 s5 v0 v1 v2 v3 v4 v5 c0 c1 c2 c3 c4 c5 h146 n0 Z146 (fun q => absurd Es0.lt (by rw [q]; exact Nat.not_lt.mpr sz_x2)) (fun q => absurd Es1.lt (by rw [q]; exact Nat.not_lt.mpr sz_x2)) (fun q => absurd Es2.lt (by rw [q]; exact Nat.not_lt.mpr sz_x2)) (fun q => absurd Es3.lt (by rw [q]; exact Nat.not_lt.mpr sz_x2)) (fun q => absurd Es4.lt (by rw [q]; exact Nat.not_lt.mpr sz_x2)) (fun q => absurd Es5.lt (by rw [q]; exact Nat.not_lt.mpr sz_x2)) Ex146 Fc146 Fv146 (SC.ext P146) hzc Ab146 (by rw [Sz146]; rfl) ⟨inb_of (j := (0 : Int32)) Sz146 ⟨by decide, by decide⟩, (Hb146 0 (by rw [Sz146]; decide)).trans rfl⟩ ⟨inb_of (j := (1 : Int32)) Sz146 ⟨by decide, by decide⟩, (Hb146 1 (by rw [Sz146]; decide)).trans rfl⟩ (SV.ext P146) (AV.ext P146) (EV.ext P146) FV hsz w0 (Fb0.ext P146) (Es0.ext P146) (Fc0.ext P146) (Fv0.ext P146) (Av0.ext P146) zv0 uv0_0 w1 (Fb1.ext P146) (Es1.ext P146) (Fc1.ext P146) (Fv1.ext P146) (Av1.ext P146) zv1 uv1_0 uv1_1 w2 (Fb2.ext P146) (Es2.ext P146) (Fc2.ext P146) (Fv2.ext P146) (Av2.ext P146) zv2 uv2_0 w3 (Fb3.ext P146) (Es3.ext P146) (Fc3.ext P146) (Fv3.ext P146) (Av3.ext P146) zv3 uv3_0 uv3_1 w4 (Fb4.ext P146) (Es4.ext P146) (Fc4.ext P146) (Fv4.ext P146) (Av4.ext P146) zv4 uv4_0 w5 (Fb5.ext P146) (Es5.ext P146) (Fc5.ext P146) (Fv5.ext P146) (Av5.ext P146) zv5 uv5_0 uv5_1) hZ (hw _ (List.mem_of_getElem? (i := 29) rfl)) (hw _ (List.mem_of_getElem? (i := 28) rfl)) (by decide) (by decide)) (g := (mkF m 273 #[.val (.int i0), .val (.int i1), .val (.int i2), .val (.int i3), .val (.int r0), .val (.int r1), .val (.int r2), .val (.int (i0 &&& (3 : Int32))), .val (.ref an), .val (.ref ao), .val (.ref aw), .val (.ref at3), .val (.ref x2), .val .null] [(.ref x2)])) rfl (by rw [hml]; rfl) (argsL := [(.ref x2)]) (rest := []) (lenOf pd6 rfl) rfl (by show 2 * 0 + _ ≤ _; exact Nat.le_of_eq rfl) (hb hby at_273) (fun _ _ => ⟨rfl, e146, (by decide : 12 + 1 ≤ _), (by decide : 40 + 6 ≤ _)⟩)
            dsimp only [Pt.U, Pt.locs, Pt.cells, Pt.slots] at X171 l171 y171 z171 st171 hQ171
            subst l171 y171 z171
            obtain ⟨hv171, N171, E171⟩ := hQ171
            rw [hof] at hv171
            subst hv171
            have M171 := Fr.app N0 N171
            refine EndsK.go st171 ?_
            show EndsK p e below _ (T171.setTop (mkF m 276 #[.val (.int i0), .val (.int i1), .val (.int i2), .val (.int i3), .val (.int r0), .val (.int r1), .val (.int r2), .val (.int (i0 &&& (3 : Int32))), .val (.ref an), .val (.ref ao), .val (.ref aw), .val (.ref at3), .val (.ref x2), .val .null] [.null]))
            refine EndsK.go (fun _ kz => XS.aload X171.here hx rfl (hb hby at_276) rfl rfl kz) ?_
            show EndsK p e below _ (T171.setTop (mkF m 278 #[.val (.int i0), .val (.int i1), .val (.int i2), .val (.int i3), .val (.int r0), .val (.int r1), .val (.int r2), .val (.int (i0 &&& (3 : Int32))), .val (.ref an), .val (.ref ao), .val (.ref aw), .val (.ref at3), .val (.ref x2), .val .null] [.null, .null]))
            refine EndsK.go (fun _ kz => Jvm.RoadKit.acmp (g := (mkF m 278 #[.val (.int i0), .val (.int i1), .val (.int i2), .val (.int i3), .val (.int r0), .val (.int r1), .val (.int r2), .val (.int (i0 &&& (3 : Int32))), .val (.ref an), .val (.ref ao), .val (.ref aw), .val (.ref at3), .val (.ref x2), .val .null] [.null, .null])) X171 hx rfl rfl rfl (pc0 := 278) (pc' := 281) (same := true) rfl (hb hby at_278) rfl (decide_eq_true rfl) (by decide) (by decide) kz) ?_
            show EndsK p e below _ (T171.setTop (mkF m 281 #[.val (.int i0), .val (.int i1), .val (.int i2), .val (.int i3), .val (.int r0), .val (.int r1), .val (.int r2), .val (.int (i0 &&& (3 : Int32))), .val (.ref an), .val (.ref ao), .val (.ref aw), .val (.ref at3), .val (.ref x2), .val .null] []))
            refine EndsK.go (fun _ kz => XS.iconst X171.here hx rfl (hb hby at_281) kz) ?_
            show EndsK p e below _ (T171.setTop (mkF m 282 #[.val (.int i0), .val (.int i1), .val (.int i2), .val (.int i3), .val (.int r0), .val (.int r1), .val (.int r2), .val (.int (i0 &&& (3 : Int32))), .val (.ref an), .val (.ref ao), .val (.ref aw), .val (.ref at3), .val (.ref x2), .val .null] [(.int (1 : Int32))]))
            refine EndsK.go (fun _ kz => XS.goto X171.here hx rfl (pc0 := 282) (pc' := 286) rfl (hb hby at_282) (by decide) (by decide) kz) ?_
            show EndsK p e below _ (T171.setTop (mkF m 286 #[.val (.int i0), .val (.int i1), .val (.int i2), .val (.int i3), .val (.int r0), .val (.int r1), .val (.int r2), .val (.int (i0 &&& (3 : Int32))), .val (.ref an), .val (.ref ao), .val (.ref aw), .val (.ref at3), .val (.ref x2), .val .null] [(.int (1 : Int32))]))
            exact endN X171 hx (t := .boolean) Bd.returns (by simp) (hb hby at_286) hlk ⟨rfl, M171⟩ (by decide) (by decide)
      · refine EndsK.go (fun _ kz => XS.icmpYes Y113.here hx rfl (pc0 := 115) (pc' := 132) rfl (hb hby at_115) rfl (feq H115_144).2 (by decide) (by decide) kz) ?_
        show EndsK p e below _ (T113.setTop (mkF m 132 #[.val (.int i0), .val (.int i1), .val (.int i2), .val (.int i3), .val (.int r0), .val (.int r1), .val (.int r2), .val (.int (i0 &&& (3 : Int32))), .val (.ref an), .val (.ref ao), .val (.ref aw), .val (.ref at3), .unset, .unset] []))
        obtain ⟨T172, h172, X172, e172, E172, A172, D172, -, st172⟩ := newO Y113 hx hZ hown (hw _ (List.mem_of_getElem? (i := 5) rfl)) (hw _ (List.mem_of_getElem? (i := 6) rfl)) (hw _ (List.mem_of_getElem? (i := 7) rfl)) e113 (g := (mkF m 132 #[.val (.int i0), .val (.int i1), .val (.int i2), .val (.int i3), .val (.int r0), .val (.int r1), .val (.int r2), .val (.int (i0 &&& (3 : Int32))), .val (.ref an), .val (.ref ao), .val (.ref aw), .val (.ref at3), .unset, .unset] [])) rfl (hb hby at_132) (by decide) (by decide)
        obtain ⟨x3, g172⟩ : ∃ z, z = h113.size := ⟨_, rfl⟩
        rw [← g172] at A172 D172 st172
        refine EndsK.go st172 ?_
        have V172_an := V113_an.ext E172
        have V172_ao := V113_ao.ext E172
        have V172_aw := V113_aw.ext E172
        have V172_at3 := V113.ext E172
        have F172_value : Fld Z h172 x3 "java/lang/String" "value" "[B" .null := D172 (Or.inr (hw _ (List.mem_of_getElem? (i := 20) rfl))) (ty := (.array .byte)) (by decide)
        have F172_coder : Fld Z h172 x3 "java/lang/String" "coder" "B" (.int (0 : Int32)) := D172 (Or.inr (hw _ (List.mem_of_getElem? (i := 21) rfl))) (ty := .byte) (by decide)
        have Z172 : n0 ≤ h172.size := Nat.le_trans Z113 E172.1
        have G172 : n0 ≤ x3 := by rw [g172]; exact Z113
        have P172 := ext_trans P113 E172
        have sz_x3 : h0.size ≤ x3 := by rw [g172]; exact P113.1
        have ne_an_x3 : an ≠ x3 := Nat.ne_of_lt (by rw [g172]; exact V113_an.lt)
        have ne_ao_x3 : ao ≠ x3 := Nat.ne_of_lt (by rw [g172]; exact V113_ao.lt)
        have ne_aw_x3 : aw ≠ x3 := Nat.ne_of_lt (by rw [g172]; exact V113_aw.lt)
        have ne_at3_x3 : at3 ≠ x3 := Nat.ne_of_lt (by rw [g172]; exact V113.lt)
        show EndsK p e below _ (T172.setTop (mkF m 135 #[.val (.int i0), .val (.int i1), .val (.int i2), .val (.int i3), .val (.int r0), .val (.int r1), .val (.int r2), .val (.int (i0 &&& (3 : Int32))), .val (.ref an), .val (.ref ao), .val (.ref aw), .val (.ref at3), .unset, .unset] [(.ref x3)]))
        refine EndsK.go (fun _ kz => XS.dup X172.here hx rfl (hb hby at_135) rfl rfl kz) ?_
        show EndsK p e below _ (T172.setTop (mkF m 136 #[.val (.int i0), .val (.int i1), .val (.int i2), .val (.int i3), .val (.int r0), .val (.int r1), .val (.int r2), .val (.int (i0 &&& (3 : Int32))), .val (.ref an), .val (.ref ao), .val (.ref aw), .val (.ref at3), .unset, .unset] [(.ref x3), (.ref x3)]))
        refine EndsK.go (fun _ kz => XS.aload X172.here hx rfl (hb hby at_136) rfl rfl kz) ?_
        show EndsK p e below _ (T172.setTop (mkF m 138 #[.val (.int i0), .val (.int i1), .val (.int i2), .val (.int i3), .val (.int r0), .val (.int r1), .val (.int r2), .val (.int (i0 &&& (3 : Int32))), .val (.ref an), .val (.ref ao), .val (.ref aw), .val (.ref at3), .unset, .unset] [(.ref at3), (.ref x3), (.ref x3)]))
        obtain ⟨_, _, ⟨T173, L173, k173, n173⟩, -, X173, ⟨Lc173, hQ173, l173, y173, z173⟩, st173⟩ := X172.specialBack hx (y := (⟨"java/lang/String", "<init>", "([C)V"⟩ : MethodName)) rfl hown (mvT hZ (hw _ (List.mem_of_getElem? (i := 8) rfl))) (mvT hZ (hw _ (List.mem_of_getElem? (i := 9) rfl))) (mvT hZ (hw _ (List.mem_of_getElem? (i := 10) rfl))) (by decide) (StrChars.Road.backV (W := 1) hZ hws (kI := 4) (hw _ (List.mem_of_getElem? (i := 6) rfl)) (cs := ([nar .char r0, nar .char r1, nar .char r2] : List Int32)) (bs := (([nar .char r0, nar .char r1, nar .char r2] : List Int32)).map (fun c => c.toInt8.toInt32)) (n := 3) G172 Z172 A172 F172_value F172_coder V172_at3 (SC.ext P172) hzc rfl rfl (by decide) (by decide) (by intro c hc; simp only [List.mem_cons, List.not_mem_nil, or_false] at hc; rcases hc with rfl | rfl | rfl <;> first | (rw [nc r0 ga0 gb0]; exact ⟨ga0, gb0⟩) | (rw [nc r1 ga1 gb1]; exact ⟨ga1, gb1⟩) | (rw [nc r2 ga2 gb2]; exact ⟨ga2, gb2⟩)) rfl (by decide) (by decide)) (g := (mkF m 138 #[.val (.int i0), .val (.int i1), .val (.int i2), .val (.int i3), .val (.int r0), .val (.int r1), .val (.int r2), .val (.int (i0 &&& (3 : Int32))), .val (.ref an), .val (.ref ao), .val (.ref aw), .val (.ref at3), .unset, .unset] [(.ref at3), (.ref x3), (.ref x3)])) rfl (by rw [hml]; rfl) (Steps.refl _) (a := x3) (argsL := [(.ref at3)]) (rest := [(.ref x3)]) (lenOf pd5 rfl) rfl (by show 2 * 0 + _ ≤ _; exact Nat.le_of_eq rfl) (hb hby at_138) (fun _ _ => ⟨rfl, e172, (by decide : 4 + 1 + 1 ≤ _), (by decide : 6 + 4 + 3 ≤ _)⟩)
        dsimp only [Pt.U, Pt.locs, Pt.cells, Pt.slots] at X173 l173 y173 z173 st173 hQ173
        subst l173 y173 z173
        refine EndsK.tr st173 ?_
        obtain ⟨rfl, N173, K173, Ex173, Fc173, vb173, kb173, -, -, -, Fv173, Av173⟩ := hQ173
        obtain ⟨h173, e173⟩ : ∃ z, T173.heap = z := ⟨_, rfl⟩
        rw [e173] at K173 Ex173 Fc173 Fv173 Av173
        obtain ⟨cb173, Ab173, -, Sz173, -, Hb173, -⟩ := Av173
        have Y173 : Stand p l e room_1 s m #[(.int i0), (.int i1), (.int i2), (.int i3)] below meth c T173 [] 12 40 := (X173.dropFresh (fun xz hxz => by have q := N173 xz hxz; rw [hn0, ← hh] at q; exact q)).mono (by decide) (by decide)
        have P173 : Ext h0 h173 := ext_kept P172 K173 (allS sz_x3 all0)
        have Z173 : n0 ≤ h173.size := Nat.le_trans Z0 P173.1
        show EndsK p e below _ (T173.setTop (mkF m 141 #[.val (.int i0), .val (.int i1), .val (.int i2), .val (.int i3), .val (.int r0), .val (.int r1), .val (.int r2), .val (.int (i0 &&& (3 : Int32))), .val (.ref an), .val (.ref ao), .val (.ref aw), .val (.ref at3), .unset, .unset] [(.ref x3)]))
        refine EndsK.go (fun _ kz => XS.astore Y173.here hx rfl (hb hby at_141) rfl rfl (l' := #[.val (.int i0), .val (.int i1), .val (.int i2), .val (.int i3), .val (.int r0), .val (.int r1), .val (.int r2), .val (.int (i0 &&& (3 : Int32))), .val (.ref an), .val (.ref ao), .val (.ref aw), .val (.ref at3), .val (.ref x3), .unset]) rfl kz) ?_
        show EndsK p e below _ (T173.setTop (mkF m 143 #[.val (.int i0), .val (.int i1), .val (.int i2), .val (.int i3), .val (.int r0), .val (.int r1), .val (.int r2), .val (.int (i0 &&& (3 : Int32))), .val (.ref an), .val (.ref ao), .val (.ref aw), .val (.ref at3), .val (.ref x3), .unset] []))
        refine EndsK.go (fun _ kz => XS.iloadN Y173.here hx rfl (hb hby at_143) rfl kz) ?_
        show EndsK p e below _ (T173.setTop (mkF m 144 #[.val (.int i0), .val (.int i1), .val (.int i2), .val (.int i3), .val (.int r0), .val (.int r1), .val (.int r2), .val (.int (i0 &&& (3 : Int32))), .val (.ref an), .val (.ref ao), .val (.ref aw), .val (.ref at3), .val (.ref x3), .unset] [(.int i0)]))
        refine EndsK.go (fun _ kz => XS.iconst Y173.here hx rfl (hb hby at_144) kz) ?_
        show EndsK p e below _ (T173.setTop (mkF m 145 #[.val (.int i0), .val (.int i1), .val (.int i2), .val (.int i3), .val (.int r0), .val (.int r1), .val (.int r2), .val (.int (i0 &&& (3 : Int32))), .val (.ref an), .val (.ref ao), .val (.ref aw), .val (.ref at3), .val (.ref x3), .unset] [(.int (4 : Int32)), (.int i0)]))
        refine EndsK.go (fun _ kz => XS.iand Y173.here hx rfl (hb hby at_145) rfl kz) ?_
        show EndsK p e below _ (T173.setTop (mkF m 146 #[.val (.int i0), .val (.int i1), .val (.int i2), .val (.int i3), .val (.int r0), .val (.int r1), .val (.int r2), .val (.int (i0 &&& (3 : Int32))), .val (.ref an), .val (.ref ao), .val (.ref aw), .val (.ref at3), .val (.ref x3), .unset] [(.int (i0 &&& (4 : Int32)))]))
        by_cases H146_174 : (i0 &&& (4 : Int32)) = (0 : Int32)
        · refine EndsK.go (fun _ kz => XS.ifYes Y173.here hx rfl (pc0 := 146) (pc' := 157) rfl (hb hby at_146) rfl ((if0 _ _).trans (teq H146_174).1) (by decide) (by decide) kz) ?_
          show EndsK p e below _ (T173.setTop (mkF m 157 #[.val (.int i0), .val (.int i1), .val (.int i2), .val (.int i3), .val (.int r0), .val (.int r1), .val (.int r2), .val (.int (i0 &&& (3 : Int32))), .val (.ref an), .val (.ref ao), .val (.ref aw), .val (.ref at3), .val (.ref x3), .unset] []))
          refine EndsK.go (fun _ kz => XS.aconstNull Y173.here hx rfl (hb hby at_157) kz) ?_
          show EndsK p e below _ (T173.setTop (mkF m 158 #[.val (.int i0), .val (.int i1), .val (.int i2), .val (.int i3), .val (.int r0), .val (.int r1), .val (.int r2), .val (.int (i0 &&& (3 : Int32))), .val (.ref an), .val (.ref ao), .val (.ref aw), .val (.ref at3), .val (.ref x3), .unset] [.null]))
          refine EndsK.go (fun _ kz => XS.astore Y173.here hx rfl (hb hby at_158) rfl rfl (l' := #[.val (.int i0), .val (.int i1), .val (.int i2), .val (.int i3), .val (.int r0), .val (.int r1), .val (.int r2), .val (.int (i0 &&& (3 : Int32))), .val (.ref an), .val (.ref ao), .val (.ref aw), .val (.ref at3), .val (.ref x3), .val .null]) rfl kz) ?_
          show EndsK p e below _ (T173.setTop (mkF m 160 #[.val (.int i0), .val (.int i1), .val (.int i2), .val (.int i3), .val (.int r0), .val (.int r1), .val (.int r2), .val (.int (i0 &&& (3 : Int32))), .val (.ref an), .val (.ref ao), .val (.ref aw), .val (.ref at3), .val (.ref x3), .val .null] []))
          refine EndsK.go (fun _ kz => XS.aload Y173.here hx rfl (hb hby at_160) rfl rfl kz) ?_
          show EndsK p e below _ (T173.setTop (mkF m 162 #[.val (.int i0), .val (.int i1), .val (.int i2), .val (.int i3), .val (.int r0), .val (.int r1), .val (.int r2), .val (.int (i0 &&& (3 : Int32))), .val (.ref an), .val (.ref ao), .val (.ref aw), .val (.ref at3), .val (.ref x3), .val .null] [(.ref x3)]))
          refine EndsK.go (fun _ kz => XS.ifnullNo Y173.here hx rfl (hb hby at_162) rfl kz) ?_
          show EndsK p e below _ (T173.setTop (mkF m 165 #[.val (.int i0), .val (.int i1), .val (.int i2), .val (.int i3), .val (.int r0), .val (.int r1), .val (.int r2), .val (.int (i0 &&& (3 : Int32))), .val (.ref an), .val (.ref ao), .val (.ref aw), .val (.ref at3), .val (.ref x3), .val .null] []))
          refine EndsK.go (fun _ kz => XS.iload Y173.here hx rfl (hb hby at_165) rfl kz) ?_
          show EndsK p e below _ (T173.setTop (mkF m 167 #[.val (.int i0), .val (.int i1), .val (.int i2), .val (.int i3), .val (.int r0), .val (.int r1), .val (.int r2), .val (.int (i0 &&& (3 : Int32))), .val (.ref an), .val (.ref ao), .val (.ref aw), .val (.ref at3), .val (.ref x3), .val .null] [(.int (i0 &&& (3 : Int32)))]))
          refine EndsK.go (fun _ kz => XS.iconst Y173.here hx rfl (hb hby at_167) kz) ?_
          show EndsK p e below _ (T173.setTop (mkF m 168 #[.val (.int i0), .val (.int i1), .val (.int i2), .val (.int i3), .val (.int r0), .val (.int r1), .val (.int r2), .val (.int (i0 &&& (3 : Int32))), .val (.ref an), .val (.ref ao), .val (.ref aw), .val (.ref at3), .val (.ref x3), .val .null] [(.int (1 : Int32)), (.int (i0 &&& (3 : Int32)))]))
          refine EndsK.go (fun _ kz => XS.icmpYes Y173.here hx rfl (pc0 := 168) (pc' := 216) rfl (hb hby at_168) rfl (feq H95_120).2 (by decide) (by decide) kz) ?_
          show EndsK p e below _ (T173.setTop (mkF m 216 #[.val (.int i0), .val (.int i1), .val (.int i2), .val (.int i3), .val (.int r0), .val (.int r1), .val (.int r2), .val (.int (i0 &&& (3 : Int32))), .val (.ref an), .val (.ref ao), .val (.ref aw), .val (.ref at3), .val (.ref x3), .val .null] []))
          refine EndsK.go (fun _ kz => XS.iload Y173.here hx rfl (hb hby at_216) rfl kz) ?_
          show EndsK p e below _ (T173.setTop (mkF m 218 #[.val (.int i0), .val (.int i1), .val (.int i2), .val (.int i3), .val (.int r0), .val (.int r1), .val (.int r2), .val (.int (i0 &&& (3 : Int32))), .val (.ref an), .val (.ref ao), .val (.ref aw), .val (.ref at3), .val (.ref x3), .val .null] [(.int (i0 &&& (3 : Int32)))]))
          refine EndsK.go (fun _ kz => XS.iconst Y173.here hx rfl (hb hby at_218) kz) ?_
          show EndsK p e below _ (T173.setTop (mkF m 219 #[.val (.int i0), .val (.int i1), .val (.int i2), .val (.int i3), .val (.int r0), .val (.int r1), .val (.int r2), .val (.int (i0 &&& (3 : Int32))), .val (.ref an), .val (.ref ao), .val (.ref aw), .val (.ref at3), .val (.ref x3), .val .null] [(.int (2 : Int32)), (.int (i0 &&& (3 : Int32)))]))
          refine EndsK.go (fun _ kz => XS.icmpYes Y173.here hx rfl (pc0 := 219) (pc' := 271) rfl (hb hby at_219) rfl (feq H115_144).2 (by decide) (by decide) kz) ?_
          show EndsK p e below _ (T173.setTop (mkF m 271 #[.val (.int i0), .val (.int i1), .val (.int i2), .val (.int i3), .val (.int r0), .val (.int r1), .val (.int r2), .val (.int (i0 &&& (3 : Int32))), .val (.ref an), .val (.ref ao), .val (.ref aw), .val (.ref at3), .val (.ref x3), .val .null] []))
          refine EndsK.go (fun _ kz => XS.aload Y173.here hx rfl (hb hby at_271) rfl rfl kz) ?_
          show EndsK p e below _ (T173.setTop (mkF m 273 #[.val (.int i0), .val (.int i1), .val (.int i2), .val (.int i3), .val (.int r0), .val (.int r1), .val (.int r2), .val (.int (i0 &&& (3 : Int32))), .val (.ref an), .val (.ref ao), .val (.ref aw), .val (.ref at3), .val (.ref x3), .val .null] [(.ref x3)]))
          have hof : ofL [((0 : Int32), .ref b0), ((0 : Int32), .ref b1), ((0 : Int32), .ref b2), ((0 : Int32), .ref b3), ((0 : Int32), .ref b4), ((0 : Int32), .ref b5)] = .null := by simp [ofL]
          obtain ⟨_, _, ⟨T175, L175, k175, n175⟩, -, X175, ⟨Lc175, hQ175, l175, y175, z175⟩, st175⟩ := Jvm.LawKit.callS Y173 hx (y := (⟨"com/example/windrow/windrow/Condition$Comparison", "of", "(Ljava/lang/String;)Lcom/example/windrow/windrow/Condition$Comparison;"⟩ : MethodName)) hown (mvT hZ (hw _ (List.mem_of_getElem? (i := 26) rfl))) (mvT hZ (hw _ (List.mem_of_getElem? (i := 27) rfl))) (mvT hZ (hw _ (List.mem_of_getElem? (i := 28) rfl))) (mvT hZ (hw _ (List.mem_of_getElem? (i := 29) rfl))) (by decide) (backOf (W := 0) (rm_of3 l Z a0 hw [] x3 vb173 cb173 zc  av cv b0 b1 b2 b3 b4 b5 s0 s1 s2 s3 s4 s5 v0 v1 v2 v3 v4 v5 c0 c1 c2 c3 c4 c5 h173 n0 Z173 (fun q => absurd Es0.lt (by rw [q]; exact Nat.not_lt.mpr sz_x3)) (fun q => absurd Es1.lt (by rw [q]; exact Nat.not_lt.mpr sz_x3)) (fun q => absurd Es2.lt (by rw [q]; exact Nat.not_lt.mpr sz_x3)) (fun q => absurd Es3.lt (by rw [q]; exact Nat.not_lt.mpr sz_x3)) (fun q => absurd Es4.lt (by rw [q]; exact Nat.not_lt.mpr sz_x3)) (fun q => absurd Es5.lt (by rw [q]; exact Nat.not_lt.mpr sz_x3)) Ex173 Fc173 Fv173 (SC.ext P173) hzc Ab173 (by rw [Sz173]; rfl)  (SV.ext P173) (AV.ext P173) (EV.ext P173) FV hsz w0 (Fb0.ext P173) (Es0.ext P173) (Fc0.ext P173) (Fv0.ext P173) (Av0.ext P173) zv0 uv0_0 w1 (Fb1.ext P173) (Es1.ext P173) (Fc1.ext P173) (Fv1.ext P173) (Av1.ext P173) zv1 uv1_0 uv1_1 w2 (Fb2.ext P173) (Es2.ext P173) (Fc2.ext P173) (Fv2.ext P173) (Av2.ext P173) zv2 uv2_0 w3 (Fb3.ext P173) (Es3.ext P173) (Fc3.ext P173) (Fv3.ext P173) (Av3.ext P173) zv3 uv3_0 uv3_1 w4 (Fb4.ext P173) (Es4.ext P173) (Fc4.ext P173) (Fv4.ext P173) (Av4.ext P173) zv4 uv4_0 w5 (Fb5.ext P173) (Es5.ext P173) (Fc5.ext P173) (Fv5.ext P173) (Av5.ext P173) zv5 uv5_0 uv5_1) hZ (hw _ (List.mem_of_getElem? (i := 29) rfl)) (hw _ (List.mem_of_getElem? (i := 28) rfl)) (by decide) (by decide)) (g := (mkF m 273 #[.val (.int i0), .val (.int i1), .val (.int i2), .val (.int i3), .val (.int r0), .val (.int r1), .val (.int r2), .val (.int (i0 &&& (3 : Int32))), .val (.ref an), .val (.ref ao), .val (.ref aw), .val (.ref at3), .val (.ref x3), .val .null] [(.ref x3)])) rfl (by rw [hml]; rfl) (argsL := [(.ref x3)]) (rest := []) (lenOf pd6 rfl) rfl (by show 2 * 0 + _ ≤ _; exact Nat.le_of_eq rfl) (hb hby at_273) (fun _ _ => ⟨rfl, e173, (by decide : 12 + 1 ≤ _), (by decide : 40 + 6 ≤ _)⟩)
          dsimp only [Pt.U, Pt.locs, Pt.cells, Pt.slots] at X175 l175 y175 z175 st175 hQ175
          subst l175 y175 z175
          obtain ⟨hv175, N175, E175⟩ := hQ175
          rw [hof] at hv175
          subst hv175
          have M175 := Fr.app N0 N175
          refine EndsK.go st175 ?_
          show EndsK p e below _ (T175.setTop (mkF m 276 #[.val (.int i0), .val (.int i1), .val (.int i2), .val (.int i3), .val (.int r0), .val (.int r1), .val (.int r2), .val (.int (i0 &&& (3 : Int32))), .val (.ref an), .val (.ref ao), .val (.ref aw), .val (.ref at3), .val (.ref x3), .val .null] [.null]))
          refine EndsK.go (fun _ kz => XS.aload X175.here hx rfl (hb hby at_276) rfl rfl kz) ?_
          show EndsK p e below _ (T175.setTop (mkF m 278 #[.val (.int i0), .val (.int i1), .val (.int i2), .val (.int i3), .val (.int r0), .val (.int r1), .val (.int r2), .val (.int (i0 &&& (3 : Int32))), .val (.ref an), .val (.ref ao), .val (.ref aw), .val (.ref at3), .val (.ref x3), .val .null] [.null, .null]))
          refine EndsK.go (fun _ kz => Jvm.RoadKit.acmp (g := (mkF m 278 #[.val (.int i0), .val (.int i1), .val (.int i2), .val (.int i3), .val (.int r0), .val (.int r1), .val (.int r2), .val (.int (i0 &&& (3 : Int32))), .val (.ref an), .val (.ref ao), .val (.ref aw), .val (.ref at3), .val (.ref x3), .val .null] [.null, .null])) X175 hx rfl rfl rfl (pc0 := 278) (pc' := 281) (same := true) rfl (hb hby at_278) rfl (decide_eq_true rfl) (by decide) (by decide) kz) ?_
          show EndsK p e below _ (T175.setTop (mkF m 281 #[.val (.int i0), .val (.int i1), .val (.int i2), .val (.int i3), .val (.int r0), .val (.int r1), .val (.int r2), .val (.int (i0 &&& (3 : Int32))), .val (.ref an), .val (.ref ao), .val (.ref aw), .val (.ref at3), .val (.ref x3), .val .null] []))
          refine EndsK.go (fun _ kz => XS.iconst X175.here hx rfl (hb hby at_281) kz) ?_
          show EndsK p e below _ (T175.setTop (mkF m 282 #[.val (.int i0), .val (.int i1), .val (.int i2), .val (.int i3), .val (.int r0), .val (.int r1), .val (.int r2), .val (.int (i0 &&& (3 : Int32))), .val (.ref an), .val (.ref ao), .val (.ref aw), .val (.ref at3), .val (.ref x3), .val .null] [(.int (1 : Int32))]))
          refine EndsK.go (fun _ kz => XS.goto X175.here hx rfl (pc0 := 282) (pc' := 286) rfl (hb hby at_282) (by decide) (by decide) kz) ?_
          show EndsK p e below _ (T175.setTop (mkF m 286 #[.val (.int i0), .val (.int i1), .val (.int i2), .val (.int i3), .val (.int r0), .val (.int r1), .val (.int r2), .val (.int (i0 &&& (3 : Int32))), .val (.ref an), .val (.ref ao), .val (.ref aw), .val (.ref at3), .val (.ref x3), .val .null] [(.int (1 : Int32))]))
          exact endN X175 hx (t := .boolean) Bd.returns (by simp) (hb hby at_286) hlk ⟨rfl, M175⟩ (by decide) (by decide)
        · refine EndsK.go (fun _ kz => XS.ifNo Y173.here hx rfl (hb hby at_146) rfl ((if0 _ _).trans (feq H146_174).1) kz) ?_
          show EndsK p e below _ (T173.setTop (mkF m 149 #[.val (.int i0), .val (.int i1), .val (.int i2), .val (.int i3), .val (.int r0), .val (.int r1), .val (.int r2), .val (.int (i0 &&& (3 : Int32))), .val (.ref an), .val (.ref ao), .val (.ref aw), .val (.ref at3), .val (.ref x3), .unset] []))
          refine EndsK.go (fun _ kz => XS.iload Y173.here hx rfl (hb hby at_149) rfl kz) ?_
          show EndsK p e below _ (T173.setTop (mkF m 151 #[.val (.int i0), .val (.int i1), .val (.int i2), .val (.int i3), .val (.int r0), .val (.int r1), .val (.int r2), .val (.int (i0 &&& (3 : Int32))), .val (.ref an), .val (.ref ao), .val (.ref aw), .val (.ref at3), .val (.ref x3), .unset] [(.int (i0 &&& (3 : Int32)))]))
          refine EndsK.go (fun _ kz => XS.ifYes Y173.here hx rfl (pc0 := 151) (pc' := 157) rfl (hb hby at_151) rfl ((if0 _ _).trans (feq H75_114).2) (by decide) (by decide) kz) ?_
          show EndsK p e below _ (T173.setTop (mkF m 157 #[.val (.int i0), .val (.int i1), .val (.int i2), .val (.int i3), .val (.int r0), .val (.int r1), .val (.int r2), .val (.int (i0 &&& (3 : Int32))), .val (.ref an), .val (.ref ao), .val (.ref aw), .val (.ref at3), .val (.ref x3), .unset] []))
          refine EndsK.go (fun _ kz => XS.aconstNull Y173.here hx rfl (hb hby at_157) kz) ?_
          show EndsK p e below _ (T173.setTop (mkF m 158 #[.val (.int i0), .val (.int i1), .val (.int i2), .val (.int i3), .val (.int r0), .val (.int r1), .val (.int r2), .val (.int (i0 &&& (3 : Int32))), .val (.ref an), .val (.ref ao), .val (.ref aw), .val (.ref at3), .val (.ref x3), .unset] [.null]))
          refine EndsK.go (fun _ kz => XS.astore Y173.here hx rfl (hb hby at_158) rfl rfl (l' := #[.val (.int i0), .val (.int i1), .val (.int i2), .val (.int i3), .val (.int r0), .val (.int r1), .val (.int r2), .val (.int (i0 &&& (3 : Int32))), .val (.ref an), .val (.ref ao), .val (.ref aw), .val (.ref at3), .val (.ref x3), .val .null]) rfl kz) ?_
          show EndsK p e below _ (T173.setTop (mkF m 160 #[.val (.int i0), .val (.int i1), .val (.int i2), .val (.int i3), .val (.int r0), .val (.int r1), .val (.int r2), .val (.int (i0 &&& (3 : Int32))), .val (.ref an), .val (.ref ao), .val (.ref aw), .val (.ref at3), .val (.ref x3), .val .null] []))
          refine EndsK.go (fun _ kz => XS.aload Y173.here hx rfl (hb hby at_160) rfl rfl kz) ?_
          show EndsK p e below _ (T173.setTop (mkF m 162 #[.val (.int i0), .val (.int i1), .val (.int i2), .val (.int i3), .val (.int r0), .val (.int r1), .val (.int r2), .val (.int (i0 &&& (3 : Int32))), .val (.ref an), .val (.ref ao), .val (.ref aw), .val (.ref at3), .val (.ref x3), .val .null] [(.ref x3)]))
          refine EndsK.go (fun _ kz => XS.ifnullNo Y173.here hx rfl (hb hby at_162) rfl kz) ?_
          show EndsK p e below _ (T173.setTop (mkF m 165 #[.val (.int i0), .val (.int i1), .val (.int i2), .val (.int i3), .val (.int r0), .val (.int r1), .val (.int r2), .val (.int (i0 &&& (3 : Int32))), .val (.ref an), .val (.ref ao), .val (.ref aw), .val (.ref at3), .val (.ref x3), .val .null] []))
          refine EndsK.go (fun _ kz => XS.iload Y173.here hx rfl (hb hby at_165) rfl kz) ?_
          show EndsK p e below _ (T173.setTop (mkF m 167 #[.val (.int i0), .val (.int i1), .val (.int i2), .val (.int i3), .val (.int r0), .val (.int r1), .val (.int r2), .val (.int (i0 &&& (3 : Int32))), .val (.ref an), .val (.ref ao), .val (.ref aw), .val (.ref at3), .val (.ref x3), .val .null] [(.int (i0 &&& (3 : Int32)))]))
          refine EndsK.go (fun _ kz => XS.iconst Y173.here hx rfl (hb hby at_167) kz) ?_
          show EndsK p e below _ (T173.setTop (mkF m 168 #[.val (.int i0), .val (.int i1), .val (.int i2), .val (.int i3), .val (.int r0), .val (.int r1), .val (.int r2), .val (.int (i0 &&& (3 : Int32))), .val (.ref an), .val (.ref ao), .val (.ref aw), .val (.ref at3), .val (.ref x3), .val .null] [(.int (1 : Int32)), (.int (i0 &&& (3 : Int32)))]))
          refine EndsK.go (fun _ kz => XS.icmpYes Y173.here hx rfl (pc0 := 168) (pc' := 216) rfl (hb hby at_168) rfl (feq H95_120).2 (by decide) (by decide) kz) ?_
          show EndsK p e below _ (T173.setTop (mkF m 216 #[.val (.int i0), .val (.int i1), .val (.int i2), .val (.int i3), .val (.int r0), .val (.int r1), .val (.int r2), .val (.int (i0 &&& (3 : Int32))), .val (.ref an), .val (.ref ao), .val (.ref aw), .val (.ref at3), .val (.ref x3), .val .null] []))
          refine EndsK.go (fun _ kz => XS.iload Y173.here hx rfl (hb hby at_216) rfl kz) ?_
          show EndsK p e below _ (T173.setTop (mkF m 218 #[.val (.int i0), .val (.int i1), .val (.int i2), .val (.int i3), .val (.int r0), .val (.int r1), .val (.int r2), .val (.int (i0 &&& (3 : Int32))), .val (.ref an), .val (.ref ao), .val (.ref aw), .val (.ref at3), .val (.ref x3), .val .null] [(.int (i0 &&& (3 : Int32)))]))
          refine EndsK.go (fun _ kz => XS.iconst Y173.here hx rfl (hb hby at_218) kz) ?_
          show EndsK p e below _ (T173.setTop (mkF m 219 #[.val (.int i0), .val (.int i1), .val (.int i2), .val (.int i3), .val (.int r0), .val (.int r1), .val (.int r2), .val (.int (i0 &&& (3 : Int32))), .val (.ref an), .val (.ref ao), .val (.ref aw), .val (.ref at3), .val (.ref x3), .val .null] [(.int (2 : Int32)), (.int (i0 &&& (3 : Int32)))]))
          refine EndsK.go (fun _ kz => XS.icmpYes Y173.here hx rfl (pc0 := 219) (pc' := 271) rfl (hb hby at_219) rfl (feq H115_144).2 (by decide) (by decide) kz) ?_
          show EndsK p e below _ (T173.setTop (mkF m 271 #[.val (.int i0), .val (.int i1), .val (.int i2), .val (.int i3), .val (.int r0), .val (.int r1), .val (.int r2), .val (.int (i0 &&& (3 : Int32))), .val (.ref an), .val (.ref ao), .val (.ref aw), .val (.ref at3), .val (.ref x3), .val .null] []))
          refine EndsK.go (fun _ kz => XS.aload Y173.here hx rfl (hb hby at_271) rfl rfl kz) ?_
          show EndsK p e below _ (T173.setTop (mkF m 273 #[.val (.int i0), .val (.int i1), .val (.int i2), .val (.int i3), .val (.int r0), .val (.int r1), .val (.int r2), .val (.int (i0 &&& (3 : Int32))), .val (.ref an), .val (.ref ao), .val (.ref aw), .val (.ref at3), .val (.ref x3), .val .null] [(.ref x3)]))
          have hof : ofL [((0 : Int32), .ref b0), ((0 : Int32), .ref b1), ((0 : Int32), .ref b2), ((0 : Int32), .ref b3), ((0 : Int32), .ref b4), ((0 : Int32), .ref b5)] = .null := by simp [ofL]
          obtain ⟨_, _, ⟨T176, L176, k176, n176⟩, -, X176, ⟨Lc176, hQ176, l176, y176, z176⟩, st176⟩ := Jvm.LawKit.callS Y173 hx (y := (⟨"com/example/windrow/windrow/Condition$Comparison", "of", "(Ljava/lang/String;)Lcom/example/windrow/windrow/Condition$Comparison;"⟩ : MethodName)) hown (mvT hZ (hw _ (List.mem_of_getElem? (i := 26) rfl))) (mvT hZ (hw _ (List.mem_of_getElem? (i := 27) rfl))) (mvT hZ (hw _ (List.mem_of_getElem? (i := 28) rfl))) (mvT hZ (hw _ (List.mem_of_getElem? (i := 29) rfl))) (by decide) (backOf (W := 0) (rm_of3 l Z a0 hw [] x3 vb173 cb173 zc  av cv b0 b1 b2 b3 b4 b5 s0 s1 s2 s3 s4 s5 v0 v1 v2 v3 v4 v5 c0 c1 c2 c3 c4 c5 h173 n0 Z173 (fun q => absurd Es0.lt (by rw [q]; exact Nat.not_lt.mpr sz_x3)) (fun q => absurd Es1.lt (by rw [q]; exact Nat.not_lt.mpr sz_x3)) (fun q => absurd Es2.lt (by rw [q]; exact Nat.not_lt.mpr sz_x3)) (fun q => absurd Es3.lt (by rw [q]; exact Nat.not_lt.mpr sz_x3)) (fun q => absurd Es4.lt (by rw [q]; exact Nat.not_lt.mpr sz_x3)) (fun q => absurd Es5.lt (by rw [q]; exact Nat.not_lt.mpr sz_x3)) Ex173 Fc173 Fv173 (SC.ext P173) hzc Ab173 (by rw [Sz173]; rfl)  (SV.ext P173) (AV.ext P173) (EV.ext P173) FV hsz w0 (Fb0.ext P173) (Es0.ext P173) (Fc0.ext P173) (Fv0.ext P173) (Av0.ext P173) zv0 uv0_0 w1 (Fb1.ext P173) (Es1.ext P173) (Fc1.ext P173) (Fv1.ext P173) (Av1.ext P173) zv1 uv1_0 uv1_1 w2 (Fb2.ext P173) (Es2.ext P173) (Fc2.ext P173) (Fv2.ext P173) (Av2.ext P173) zv2 uv2_0 w3 (Fb3.ext P173) (Es3.ext P173) (Fc3.ext P173) (Fv3.ext P173) (Av3.ext P173) zv3 uv3_0 uv3_1 w4 (Fb4.ext P173) (Es4.ext P173) (Fc4.ext P173) (Fv4.ext P173) (Av4.ext P173) zv4 uv4_0 w5 (Fb5.ext P173) (Es5.ext P173) (Fc5.ext P173) (Fv5.ext P173) (Av5.ext P173) zv5 uv5_0 uv5_1) hZ (hw _ (List.mem_of_getElem? (i := 29) rfl)) (hw _ (List.mem_of_getElem? (i := 28) rfl)) (by decide) (by decide)) (g := (mkF m 273 #[.val (.int i0), .val (.int i1), .val (.int i2), .val (.int i3), .val (.int r0), .val (.int r1), .val (.int r2), .val (.int (i0 &&& (3 : Int32))), .val (.ref an), .val (.ref ao), .val (.ref aw), .val (.ref at3), .val (.ref x3), .val .null] [(.ref x3)])) rfl (by rw [hml]; rfl) (argsL := [(.ref x3)]) (rest := []) (lenOf pd6 rfl) rfl (by show 2 * 0 + _ ≤ _; exact Nat.le_of_eq rfl) (hb hby at_273) (fun _ _ => ⟨rfl, e173, (by decide : 12 + 1 ≤ _), (by decide : 40 + 6 ≤ _)⟩)
          dsimp only [Pt.U, Pt.locs, Pt.cells, Pt.slots] at X176 l176 y176 z176 st176 hQ176
          subst l176 y176 z176
          obtain ⟨hv176, N176, E176⟩ := hQ176
          rw [hof] at hv176
          subst hv176
          have M176 := Fr.app N0 N176
          refine EndsK.go st176 ?_
          show EndsK p e below _ (T176.setTop (mkF m 276 #[.val (.int i0), .val (.int i1), .val (.int i2), .val (.int i3), .val (.int r0), .val (.int r1), .val (.int r2), .val (.int (i0 &&& (3 : Int32))), .val (.ref an), .val (.ref ao), .val (.ref aw), .val (.ref at3), .val (.ref x3), .val .null] [.null]))
          refine EndsK.go (fun _ kz => XS.aload X176.here hx rfl (hb hby at_276) rfl rfl kz) ?_
          show EndsK p e below _ (T176.setTop (mkF m 278 #[.val (.int i0), .val (.int i1), .val (.int i2), .val (.int i3), .val (.int r0), .val (.int r1), .val (.int r2), .val (.int (i0 &&& (3 : Int32))), .val (.ref an), .val (.ref ao), .val (.ref aw), .val (.ref at3), .val (.ref x3), .val .null] [.null, .null]))
          refine EndsK.go (fun _ kz => Jvm.RoadKit.acmp (g := (mkF m 278 #[.val (.int i0), .val (.int i1), .val (.int i2), .val (.int i3), .val (.int r0), .val (.int r1), .val (.int r2), .val (.int (i0 &&& (3 : Int32))), .val (.ref an), .val (.ref ao), .val (.ref aw), .val (.ref at3), .val (.ref x3), .val .null] [.null, .null])) X176 hx rfl rfl rfl (pc0 := 278) (pc' := 281) (same := true) rfl (hb hby at_278) rfl (decide_eq_true rfl) (by decide) (by decide) kz) ?_
          show EndsK p e below _ (T176.setTop (mkF m 281 #[.val (.int i0), .val (.int i1), .val (.int i2), .val (.int i3), .val (.int r0), .val (.int r1), .val (.int r2), .val (.int (i0 &&& (3 : Int32))), .val (.ref an), .val (.ref ao), .val (.ref aw), .val (.ref at3), .val (.ref x3), .val .null] []))
          refine EndsK.go (fun _ kz => XS.iconst X176.here hx rfl (hb hby at_281) kz) ?_
          show EndsK p e below _ (T176.setTop (mkF m 282 #[.val (.int i0), .val (.int i1), .val (.int i2), .val (.int i3), .val (.int r0), .val (.int r1), .val (.int r2), .val (.int (i0 &&& (3 : Int32))), .val (.ref an), .val (.ref ao), .val (.ref aw), .val (.ref at3), .val (.ref x3), .val .null] [(.int (1 : Int32))]))
          refine EndsK.go (fun _ kz => XS.goto X176.here hx rfl (pc0 := 282) (pc' := 286) rfl (hb hby at_282) (by decide) (by decide) kz) ?_
          show EndsK p e below _ (T176.setTop (mkF m 286 #[.val (.int i0), .val (.int i1), .val (.int i2), .val (.int i3), .val (.int r0), .val (.int r1), .val (.int r2), .val (.int (i0 &&& (3 : Int32))), .val (.ref an), .val (.ref ao), .val (.ref aw), .val (.ref at3), .val (.ref x3), .val .null] [(.int (1 : Int32))]))
          exact endN X176 hx (t := .boolean) Bd.returns (by simp) (hb hby at_286) hlk ⟨rfl, M176⟩ (by decide) (by decide)
theorem arrAtR {Z : State} {args : Array Value} {t u : Term} {a b : Addr} {j : Int32} {cl : Cell} {ty : FieldType} (ev : t.eval args Z none [] Z = some (.ref a)) (eu : u.eval args Z none [] Z = some (.ref b)) (A : Arr Z Z.heap a cl ty) (h : (Jvm.Cond.eq (.elem t (.int j)) u).value args Z none Z [] = some true) : ¬ (j < 0 ∨ cl.slots.size ≤ j.toNatClampNeg) ∧ cl.slots[j.toNatClampNeg]? = some (.ref b) := by
  obtain ⟨x, y, e1, e2, -, k2⟩ := cmp_v (Or.inl h)
  cases eu.symm.trans e2
  have q := gotT (eq_R e1 eu k2.2 rfl) h
  subst q
  exact elem_in e1 ev rfl A.1
set_option maxRecDepth 65536 in
set_option maxHeartbeats 40000000 in
theorem comes_1 {Post : Tables → Env → Array Value → State → Outcome → State → Prop} (hpost : ∀ tb e args s v u, (limb_1_1.after args s (.returned v) u = true ∧ limb_1_2.after args s (.returned v) u = true ∧ True) → ReturnedEndW s (.returned v) u (Jvm.fieldLocs frame_1_writes args s ++ Jvm.arrayLocs frame_1_arrays args s ++ Jvm.staticLocs frame_1_statics s) 24 1152 → Post tb e args s (.returned v) u) :
    ArmFor flags0 classFile x code maxLocals ret World_1 tables_1 room_1 Calls_1 rest_1 Pre_1 Post := by
  intro l hfl _ _ p e ha hc hk s m args below hf hA hF happ hP
  obtain ⟨hcalls, hrest, hpre⟩ := hP
  obtain ⟨-, -, -, hnamed, -, -, -, hat⟩ := (Spec.applies_iff hf).mp happ
  obtain ⟨hg, hn⟩ := and_e (Cond.before_iff.mp (show (Jvm.Cond.and given_1 narrow_1).before args s = true from hpre))
  obtain ⟨hcount, hg⟩ := and_e hg
  obtain ⟨hi0, hg⟩ := and_e hg
  obtain ⟨hi1, hg⟩ := and_e hg
  obtain ⟨hi2, hg⟩ := and_e hg
  obtain ⟨w0, w1, w2, w3, rfl⟩ : ∃ w0 w1 w2 w3 : Value, args = #[w0, w1, w2, w3] := by
    have hs : args.size = 4 := by simpa [Cond.value, given_1] using hcount
    obtain ⟨L⟩ := args
    match L, hs with
    | [w0, w1, w2, w3], _ => exact ⟨w0, w1, w2, w3, rfl⟩
  have hw := fun d (hd : d ∈ tables_1) => atoms_spec (ws := Jvm.Cond.code x code maxLocals ret :: tables_1) hat d (List.mem_cons_of_mem _ hd)
  have hfit : Fit s := fun {y c} hc i hi => by
    obtain ⟨ha, rfl⟩ := Array.getElem?_eq_some_iff.mp hc
    have q := List.all_eq_true.mp ((Array.all_eq_true_iff_forall_mem.mp hF) _ (Array.getElem_mem ha)) i (List.mem_range.mpr hi)
    simpa [Array.getElem?_eq_getElem hi] using q
  obtain ⟨i0, ei0⟩ := is_v hi0
  obtain rfl : w0 = (.int i0) := Option.some.inj ei0
  obtain ⟨i1, ei1⟩ := is_v hi1
  obtain rfl : w1 = (.int i1) := Option.some.inj ei1
  obtain ⟨i2, ei2⟩ := is_v hi2
  obtain rfl : w2 = (.int i2) := Option.some.inj ei2
  obtain ⟨i3, ei3⟩ := is_v hg
  obtain rfl : w3 = (.int i3) := Option.some.inj ei3
  obtain ⟨q0, hn⟩ := and_e hn
  obtain ⟨q1, hn⟩ := and_e hn
  obtain ⟨q2, hn⟩ := and_e hn
  obtain ⟨q3, hn⟩ := and_e hn
  obtain ⟨q4, hn⟩ := and_e hn
  obtain ⟨q5, hn⟩ := and_e hn
  obtain ⟨q6, hn⟩ := and_e hn
  obtain ⟨q7, hn⟩ := and_e hn
  obtain ⟨q8, hn⟩ := and_e hn
  obtain ⟨q9, hn⟩ := and_e hn
  obtain ⟨q10, hn⟩ := and_e hn
  obtain ⟨q11, hn⟩ := and_e hn
  obtain ⟨q12, hn⟩ := and_e hn
  obtain ⟨q13, hn⟩ := and_e hn
  obtain ⟨q14, hn⟩ := and_e hn
  obtain ⟨q15, hn⟩ := and_e hn
  obtain ⟨q16, hn⟩ := and_e hn
  obtain ⟨q17, hn⟩ := and_e hn
  obtain ⟨q18, hn⟩ := and_e hn
  obtain ⟨q19, hn⟩ := and_e hn
  obtain ⟨q20, hn⟩ := and_e hn
  obtain ⟨q21, hn⟩ := and_e hn
  obtain ⟨q22, hn⟩ := and_e hn
  obtain ⟨q23, hn⟩ := and_e hn
  obtain ⟨q24, hn⟩ := and_e hn
  obtain ⟨q25, hn⟩ := and_e hn
  obtain ⟨q26, hn⟩ := and_e hn
  obtain ⟨q27, hn⟩ := and_e hn
  obtain ⟨q28, hn⟩ := and_e hn
  obtain ⟨q29, hn⟩ := and_e hn
  obtain ⟨q30, hn⟩ := and_e hn
  obtain ⟨q31, hn⟩ := and_e hn
  obtain ⟨q32, hn⟩ := and_e hn
  obtain ⟨q33, hn⟩ := and_e hn
  obtain ⟨q34, hn⟩ := and_e hn
  obtain ⟨q35, hn⟩ := and_e hn
  obtain ⟨q36, hn⟩ := and_e hn
  obtain ⟨q37, hn⟩ := and_e hn
  obtain ⟨q38, hn⟩ := and_e hn
  obtain ⟨q39, hn⟩ := and_e hn
  obtain ⟨q40, hn⟩ := and_e hn
  obtain ⟨q41, hn⟩ := and_e hn
  obtain ⟨q42, hn⟩ := and_e hn
  obtain ⟨q43, hn⟩ := and_e hn
  obtain ⟨q44, hn⟩ := and_e hn
  obtain ⟨q45, hn⟩ := and_e hn
  obtain ⟨q46, hn⟩ := and_e hn
  have q47 := hn
  obtain ⟨hsets, hown0⟩ := atoms_of _ (rest_1_c_eq ▸ (show rest_1_c.before _ s = true from hrest))
  have n5 := not_v (Cond.before_iff.mp (hsets _ (List.mem_of_getElem? (i := 2) rfl)))
  obtain ⟨zc, ez⟩ := is_v (Cond.before_iff.mp (hsets _ (List.mem_of_getElem? (i := 1) rfl)))
  have SC := Sta.start ez (Or.inl (hsets _ (List.mem_of_getElem? (i := 0) rfl)))
  have hzc : ¬ (zc = (0 : Int32)) := gotF (Cond.eq_ints ez (Term.int_eval (0))) n5
  obtain ⟨av, vV⟩ := arr_v q0
  obtain ⟨cv, AV⟩ := Arr.start vV q0
  have SV := Sta.start vV (Or.inr ⟨(hw _ (List.mem_of_getElem? (i := 28) rfl)), (hw _ (List.mem_of_getElem? (i := 34) rfl))⟩)
  have EV := Exa.start vV q1
  have FV := FitC.start hfit AV
  have qL := arrLen vV AV q2
  have hsz : cv.slots.size = 6 := by have q := len_toInt qL.1; rw [qL.2] at q; have q2 : (6 : Int32).toInt = 6 := rfl; omega
  obtain ⟨b0, vb0⟩ := exa_v q3
  have SN0 := Sta.start vb0 (Or.inr ⟨(hw _ (List.mem_of_getElem? (i := 28) rfl)), (hw _ (List.mem_of_getElem? (i := 42) rfl))⟩)
  have w0 := arrAtR vV vb0 AV q4
  obtain ⟨s0, vs0⟩ := exa_v q15
  have Es0 := Exa.start vs0 q15
  have Fb0 : Fld s s.heap b0 "com/example/windrow/windrow/Condition$Comparison" "symbol" "Ljava/lang/String;" (.ref s0) := Fld.start ((fld_at vb0).symm.trans vs0)
  have Fc0 := fldI vs0 q16
  obtain ⟨v0, vv0⟩ := arr_v q17
  have Fv0 : Fld s s.heap s0 "java/lang/String" "value" "[B" (.ref v0) := Fld.start ((fld_at vs0).symm.trans vv0)
  obtain ⟨c0, Av0⟩ := Arr.start vv0 q17
  have zv0 := (arrLen vv0 Av0 q18).2
  have uv0_0 := arrAt vv0 Av0 q42
  obtain ⟨b1, vb1⟩ := exa_v q5
  have SN1 := Sta.start vb1 (Or.inr ⟨(hw _ (List.mem_of_getElem? (i := 28) rfl)), (hw _ (List.mem_of_getElem? (i := 43) rfl))⟩)
  have w1 := arrAtR vV vb1 AV q6
  obtain ⟨s1, vs1⟩ := exa_v q19
  have Es1 := Exa.start vs1 q19
  have Fb1 : Fld s s.heap b1 "com/example/windrow/windrow/Condition$Comparison" "symbol" "Ljava/lang/String;" (.ref s1) := Fld.start ((fld_at vb1).symm.trans vs1)
  have Fc1 := fldI vs1 q20
  obtain ⟨v1, vv1⟩ := arr_v q21
  have Fv1 : Fld s s.heap s1 "java/lang/String" "value" "[B" (.ref v1) := Fld.start ((fld_at vs1).symm.trans vv1)
  obtain ⟨c1, Av1⟩ := Arr.start vv1 q21
  have zv1 := (arrLen vv1 Av1 q22).2
  have uv1_0 := arrAt vv1 Av1 q39
  have uv1_1 := arrAt vv1 Av1 q45
  obtain ⟨b2, vb2⟩ := exa_v q7
  have SN2 := Sta.start vb2 (Or.inr ⟨(hw _ (List.mem_of_getElem? (i := 28) rfl)), (hw _ (List.mem_of_getElem? (i := 44) rfl))⟩)
  have w2 := arrAtR vV vb2 AV q8
  obtain ⟨s2, vs2⟩ := exa_v q23
  have Es2 := Exa.start vs2 q23
  have Fb2 : Fld s s.heap b2 "com/example/windrow/windrow/Condition$Comparison" "symbol" "Ljava/lang/String;" (.ref s2) := Fld.start ((fld_at vb2).symm.trans vs2)
  have Fc2 := fldI vs2 q24
  obtain ⟨v2, vv2⟩ := arr_v q25
  have Fv2 : Fld s s.heap s2 "java/lang/String" "value" "[B" (.ref v2) := Fld.start ((fld_at vs2).symm.trans vv2)
  obtain ⟨c2, Av2⟩ := Arr.start vv2 q25
  have zv2 := (arrLen vv2 Av2 q26).2
  have uv2_0 := arrAt vv2 Av2 q43
  obtain ⟨b3, vb3⟩ := exa_v q9
  have SN3 := Sta.start vb3 (Or.inr ⟨(hw _ (List.mem_of_getElem? (i := 28) rfl)), (hw _ (List.mem_of_getElem? (i := 45) rfl))⟩)
  have w3 := arrAtR vV vb3 AV q10
  obtain ⟨s3, vs3⟩ := exa_v q27
  have Es3 := Exa.start vs3 q27
  have Fb3 : Fld s s.heap b3 "com/example/windrow/windrow/Condition$Comparison" "symbol" "Ljava/lang/String;" (.ref s3) := Fld.start ((fld_at vb3).symm.trans vs3)
  have Fc3 := fldI vs3 q28
  obtain ⟨v3, vv3⟩ := arr_v q29
  have Fv3 : Fld s s.heap s3 "java/lang/String" "value" "[B" (.ref v3) := Fld.start ((fld_at vs3).symm.trans vv3)
  obtain ⟨c3, Av3⟩ := Arr.start vv3 q29
  have zv3 := (arrLen vv3 Av3 q30).2
  have uv3_0 := arrAt vv3 Av3 q40
  have uv3_1 := arrAt vv3 Av3 q47
  obtain ⟨b4, vb4⟩ := exa_v q11
  have SN4 := Sta.start vb4 (Or.inr ⟨(hw _ (List.mem_of_getElem? (i := 28) rfl)), (hw _ (List.mem_of_getElem? (i := 46) rfl))⟩)
  have w4 := arrAtR vV vb4 AV q12
  obtain ⟨s4, vs4⟩ := exa_v q31
  have Es4 := Exa.start vs4 q31
  have Fb4 : Fld s s.heap b4 "com/example/windrow/windrow/Condition$Comparison" "symbol" "Ljava/lang/String;" (.ref s4) := Fld.start ((fld_at vb4).symm.trans vs4)
  have Fc4 := fldI vs4 q32
  obtain ⟨v4, vv4⟩ := arr_v q33
  have Fv4 : Fld s s.heap s4 "java/lang/String" "value" "[B" (.ref v4) := Fld.start ((fld_at vs4).symm.trans vv4)
  obtain ⟨c4, Av4⟩ := Arr.start vv4 q33
  have zv4 := (arrLen vv4 Av4 q34).2
  have uv4_0 := arrAt vv4 Av4 q44
  obtain ⟨b5, vb5⟩ := exa_v q13
  have SN5 := Sta.start vb5 (Or.inr ⟨(hw _ (List.mem_of_getElem? (i := 28) rfl)), (hw _ (List.mem_of_getElem? (i := 47) rfl))⟩)
  have w5 := arrAtR vV vb5 AV q14
  obtain ⟨s5, vs5⟩ := exa_v q35
  have Es5 := Exa.start vs5 q35
  have Fb5 : Fld s s.heap b5 "com/example/windrow/windrow/Condition$Comparison" "symbol" "Ljava/lang/String;" (.ref s5) := Fld.start ((fld_at vb5).symm.trans vs5)
  have Fc5 := fldI vs5 q36
  obtain ⟨v5, vv5⟩ := arr_v q37
  have Fv5 : Fld s s.heap s5 "java/lang/String" "value" "[B" (.ref v5) := Fld.start ((fld_at vs5).symm.trans vv5)
  obtain ⟨c5, Av5⟩ := Arr.start vv5 q37
  have zv5 := (arrLen vv5 Av5 q38).2
  have uv5_0 := arrAt vv5 Av5 q41
  have uv5_1 := arrAt vv5 Av5 q46
  have hEL : EW s _ EL1 := EW.cons (text := "") (hw _ (List.mem_of_getElem? (i := 18) rfl)) (by decide) EW.nil
  have hCH : CHv s EL1 s.vm s.heap := CHv.start hEL (fun p hp => hcalls.1 p hp) (hsets _ (List.mem_of_getElem? (i := 2) rfl)) (hw _ (List.mem_of_getElem? (i := 19) rfl)) (hw _ (List.mem_of_getElem? (i := 6) rfl))
  obtain ⟨n, o, h1, h2, h3, _, L, rfl, ⟨rfl, N⟩, hq⟩ := rm_law l s _ hw tables_1 i0 i1 i2 i3 zc av cv b0 b1 b2 b3 b4 b5 s0 s1 s2 s3 s4 s5 v0 v1 v2 v3 v4 v5 c0 c1 c2 c3 c4 c5 s.heap s.heap.size (Nat.le_refl _) rfl SC hzc SV AV EV FV hsz w0 Fb0 Es0 Fc0 Fv0 Av0 zv0 uv0_0 w1 Fb1 Es1 Fc1 Fv1 Av1 zv1 uv1_0 uv1_1 w2 Fb2 Es2 Fc2 Fv2 Av2 zv2 uv2_0 w3 Fb3 Es3 Fc3 Fv3 Av3 zv3 uv3_0 uv3_1 w4 Fb4 Es4 Fc4 Fv4 Av4 zv4 uv4_0 w5 Fb5 Es5 Fc5 Fv5 Av5 zv5 uv5_0 uv5_1 SN0 SN1 SN2 SN3 SN4 SN5 p e ha hc hk s m _ below hf ((Spec.applies_iff_loose hf).mp happ).1 ⟨rfl, State.Warmed39.refl s, rfl, hCH⟩ trivial
  refine ⟨n, _, h1, h2, h3, hpost _ _ _ _ _ _ ⟨Cond.after_iff.mpr rfl, Cond.after_iff.mpr (eq_i res_at (Term.int_eval (1)) rfl), trivial⟩ ⟨hq.1, hq.2.1, hq.2.2.1, (hq.2.2.2.sift fun y hy => Or.inr (N y hy)).mono (by decide) (by decide)⟩⟩
theorem main_1_1 : Claimed_1_1 := comes_1 fun _ _ _ _ _ _ h hF => ⟨h.1, hF⟩
theorem main_1_2 : Claimed_1_2 := comes_1 fun _ _ _ _ _ _ h hF => ⟨h.2.1, hF⟩
end Jvm.Pilot.@@N@@
namespace Jvm.Pilot.@@N@@
open Jvm Jvm.ClassFile Sem Op Lib Jvm.Free Jvm.Stand Jvm.Pilot.@@N@@.Jvm.D
/-! MADE BY PROGRAM (witnessworld.py) out of the Statement's table words and the real class files: 22 classes; the members and pool entries that the words name. The judged class is class 1, her method 2. -/
namespace start1
open Jvm.ClassFile
def u (s : String) : CpInfo := .utf8 (stringToUtf16 s)
/-- a pool by its gaps: so many unusable entries, then the entry; so many at the end -/
def gap : Nat → List CpInfo → List CpInfo
  | 0, r => r
  | n + 1, r => .unusable :: gap n r
def poolList (es : List (Nat × CpInfo)) (last : Nat) : List CpInfo := es.foldr (fun e r => gap e.1 (e.2 :: r)) (gap last [])
def pool (es : List (Nat × CpInfo)) (last : Nat) : Array CpInfo := ⟨poolList es last⟩
def fileOf (pool : Array CpInfo) (this : Nat) (attrs : Array Attribute := #[]) (ms : Array MethodInfo := #[]) (fl : Nat := 33) (sup : Nat := 0) (ifs : Array Nat := #[]) (fds : Array FieldInfo := #[]) : ClassFile where
  minorVersion := 0
  majorVersion := 65
  constantPool := pool
  accessFlags := fl
  thisClass := this
  superClass := sup
  interfaces := ifs
  fields := fds
  methods := ms
  attributes := attrs
def plain (name : String) (sup : Option ClassId) : Class where
  name := name
  kind := .ordinary
  loader := none
  accessFlags := 33
  super := sup
  interfaces := #[]
  cf := none
  fields := #[]
  methods := #[]
  instanceTypes := #[]
  staticTypes := #[]
  resolved := #[]
  callSites := []
  init := .initialized
  statics := none
  mirror := none

def pool0 : Array CpInfo := pool [(5, u "<init>"), (0, u "()V"), (1, .class_ 10), (1, u "java/lang/Object"), (85, u "clone"), (0, u "()Ljava/lang/Object;")] 26

def k0c0 : Code := { maxStack := 0, maxLocals := 1, code := object_method_1_code, exceptionTable := #[], attributes := #[] }
def k0m0 : Method := { name := "<init>", desc := "()V", sig := { parameters := [], returnType := none }, accessFlags := 1, code := some k0c0 }
def k0m1 : Method := { name := "clone", desc := "()Ljava/lang/Object;", sig := { parameters := [], returnType := some (.object "java/lang/Object") }, accessFlags := 260, code := none }
/-- java/lang/Object -/
def k0 : Class := { plain "java/lang/Object" none with
  accessFlags := 33
  interfaces := #[]
  cf := some (fileOf pool0 8 #[] #[{ accessFlags := 1, nameIndex := 5, descriptorIndex := 6, attributes := #[] }, { accessFlags := 260, nameIndex := 96, descriptorIndex := 97, attributes := #[] }] 33 0 #[] #[])
  fields := #[]
  methods := #[k0m0, k0m1]
  instanceTypes := #[]
  staticTypes := #[]
  resolved := Array.replicate 124 none
  statics := none }

def pool1 : Array CpInfo := pool [(2, .class_ 4), (1, u "java/lang/Object"), (0, u "<init>"), (0, u "()V"), (0, .methodref 8 9), (0, .class_ 10), (0, .nameAndType 11 12), (0, u "com/example/windrow/windrow/ComparisonOfPinLaw"), (0, u "pick"), (0, u "(I)C"), (0, .class_ 14), (0, u "java/lang/String"), (0, .methodref 13 16), (0, .nameAndType 5 17), (0, u "([C)V"), (0, .fieldref 19 20), (0, .class_ 21), (0, .nameAndType 22 23), (0, u "com/example/windrow/windrow/Condition$Comparison"), (0, u "EQUAL"), (0, u "Lcom/example/windrow/windrow/Condition$Comparison;"), (0, .fieldref 19 25), (0, .nameAndType 26 23), (0, u "LESS"), (0, .fieldref 19 28), (0, .nameAndType 29 23), (0, u "GREATER"), (0, .fieldref 19 31), (0, .nameAndType 32 23), (0, u "NOT_EQUAL"), (0, .fieldref 19 34), (0, .nameAndType 35 23), (0, u "LESS_OR_EQUAL"), (0, .fieldref 19 37), (0, .nameAndType 38 23), (0, u "GREATER_OR_EQUAL"), (0, .methodref 19 40), (0, .nameAndType 41 42), (0, u "of"), (0, u "(Ljava/lang/String;)Lcom/example/windrow/windrow/Condition$Comparison;"), (3, u "law"), (0, u "(IIII)Z")] 8

def k1m0 : Method := { name := "<init>", desc := "()V", sig := { parameters := [], returnType := none }, accessFlags := 2, code := none }
def k1c1 : Code := { maxStack := 2, maxLocals := 2, code := method_2_code, exceptionTable := #[], attributes := #[] }
def k1m1 : Method := { name := "pick", desc := "(I)C", sig := { parameters := [.int], returnType := some .char }, accessFlags := 10, code := some k1c1 }
def k1c2 : Code := { maxStack := 4, maxLocals := 14, code := code, exceptionTable := #[], attributes := #[] }
def k1m2 : Method := { name := "law", desc := "(IIII)Z", sig := { parameters := [.int, .int, .int, .int], returnType := some .boolean }, accessFlags := 9, code := some k1c2 }
/-- com/example/windrow/windrow/ComparisonOfPinLaw -/
def k1 : Class := { plain "com/example/windrow/windrow/ComparisonOfPinLaw" (some 0) with
  accessFlags := 49
  interfaces := #[]
  cf := some (fileOf pool1 8 #[] #[{ accessFlags := 2, nameIndex := 5, descriptorIndex := 6, attributes := #[] }, { accessFlags := 10, nameIndex := 11, descriptorIndex := 12, attributes := #[] }, { accessFlags := 9, nameIndex := 46, descriptorIndex := 47, attributes := #[] }] 49 2 #[] #[])
  fields := #[]
  methods := #[k1m0, k1m1, k1m2]
  instanceTypes := #[]
  staticTypes := #[]
  resolved := Array.replicate 56 none
  statics := none }

def pool2 : Array CpInfo := pool [(1, .class_ 2), (0, u "java/io/Serializable"), (0, .class_ 4), (0, u "java/lang/Object")] 2

/-- java/io/Serializable -/
def k2 : Class := { plain "java/io/Serializable" (some 0) with
  accessFlags := 1537
  interfaces := #[]
  cf := some (fileOf pool2 1 #[] #[] 1537 3 #[] #[])
  fields := #[]
  methods := #[]
  instanceTypes := #[]
  staticTypes := #[]
  resolved := Array.replicate 7 none
  statics := none }

def pool3 : Array CpInfo := pool [(1, .class_ 2), (0, u "java/lang/Comparable"), (0, .class_ 4), (0, u "java/lang/Object")] 7

/-- java/lang/Comparable -/
def k3 : Class := { plain "java/lang/Comparable" (some 0) with
  accessFlags := 1537
  interfaces := #[]
  cf := some (fileOf pool3 1 #[] #[] 1537 3 #[] #[])
  fields := #[]
  methods := #[]
  instanceTypes := #[]
  staticTypes := #[]
  resolved := Array.replicate 12 none
  statics := none }

def pool4 : Array CpInfo := pool [(2, .class_ 4), (1, u "java/lang/CharSequence"), (42, .class_ 48), (0, u "java/lang/CharSequence$1CodePointIterator"), (10, .class_ 60), (0, u "java/lang/CharSequence$1CharIterator"), (5, .class_ 67), (0, u "java/lang/Object")] 63

/-- java/lang/CharSequence -/
def k4 : Class := { plain "java/lang/CharSequence" (some 0) with
  accessFlags := 1537
  interfaces := #[]
  cf := some (fileOf pool4 2 #[.nestMembers #[47, 59]] #[] 1537 66 #[] #[])
  fields := #[]
  methods := #[]
  instanceTypes := #[]
  staticTypes := #[]
  resolved := Array.replicate 131 none
  statics := none }

def pool5 : Array CpInfo := pool [(1, .class_ 2), (0, u "java/lang/constant/Constable"), (0, .class_ 4), (0, u "java/lang/Object")] 6

/-- java/lang/constant/Constable -/
def k5 : Class := { plain "java/lang/constant/Constable" (some 0) with
  accessFlags := 1537
  interfaces := #[]
  cf := some (fileOf pool5 1 #[] #[] 1537 3 #[] #[])
  fields := #[]
  methods := #[]
  instanceTypes := #[]
  staticTypes := #[]
  resolved := Array.replicate 11 none
  statics := none }

def pool6 : Array CpInfo := pool [(1, .class_ 2), (0, u "java/lang/constant/ConstantDesc"), (0, .class_ 4), (0, u "java/lang/Object")] 32

/-- java/lang/constant/ConstantDesc -/
def k6 : Class := { plain "java/lang/constant/ConstantDesc" (some 0) with
  accessFlags := 1537
  interfaces := #[]
  cf := some (fileOf pool6 1 #[] #[] 1537 3 #[] #[])
  fields := #[]
  methods := #[]
  instanceTypes := #[]
  staticTypes := #[]
  resolved := Array.replicate 37 none
  statics := none }

def pool7 : Array CpInfo := pool [(1, .methodref 2 3), (0, .class_ 4), (0, .nameAndType 5 6), (0, u "java/lang/Object"), (0, u "<init>"), (0, u "()V"), (0, .string 8), (0, u ""), (0, .fieldref 10 11), (0, .class_ 12), (0, .nameAndType 13 14), (0, u "java/lang/String"), (0, u "value"), (0, u "[B"), (0, .fieldref 10 16), (0, .nameAndType 17 18), (0, u "coder"), (0, u "B"), (2, u "hash"), (0, u "I"), (2, u "hashIsZero"), (0, u "Z"), (0, .methodref 10 28), (0, .nameAndType 5 29), (0, u "([CIILjava/lang/Void;)V"), (8, .fieldref 10 39), (0, .nameAndType 40 26), (0, u "COMPACT_STRINGS"), (1, .class_ 44), (1, u "java/lang/StringUTF16"), (0, u "compress"), (1, .methodref 42 48), (0, .nameAndType 49 50), (0, u "coderFromArrayLen"), (0, u "([BI)B"), (56, .class_ 109), (1, u "java/lang/StringLatin1"), (67, .methodref 42 178), (0, .nameAndType 45 179), (0, u "([CII)[B"), (361, .methodref 107 542), (0, .nameAndType 543 544), (0, u "equals"), (0, u "([B[B)Z"), (28, u "(Ljava/lang/Object;)Z"), (1, .class_ 576), (0, u "java/lang/CharSequence"), (22, u "CASE_INSENSITIVE_ORDER"), (0, u "Ljava/util/Comparator;"), (409, u "([C)V"), (90, u "serialPersistentFields"), (0, u "[Ljava/io/ObjectStreamField;"), (0, .class_ 1104), (0, u "java/lang/String$CaseInsensitiveComparator"), (1, .class_ 1107), (0, u "java/io/Serializable"), (0, .class_ 1109), (0, u "java/lang/Comparable"), (0, .class_ 1111), (0, u "java/lang/constant/Constable"), (0, .class_ 1113), (0, u "java/lang/constant/ConstantDesc"), (2, u "serialVersionUID"), (0, u "J"), (3, u "REPL"), (0, u "C"), (2, u "LATIN1"), (1, u "UTF16")] 323

def k7m0 : Method := { name := "<init>", desc := "()V", sig := { parameters := [], returnType := none }, accessFlags := 1, code := none }
def k7c1 : Code := { maxStack := 5, maxLocals := 2, code := jdk_42_method_3_code, exceptionTable := #[], attributes := #[] }
def k7m1 : Method := { name := "<init>", desc := "([C)V", sig := { parameters := [(.array .char)], returnType := none }, accessFlags := 1, code := some k7c1 }
def k7c2 : Code := { maxStack := 2, maxLocals := 3, code := jdk_42_method_66_code, exceptionTable := #[], attributes := #[] }
def k7m2 : Method := { name := "equals", desc := "(Ljava/lang/Object;)Z", sig := { parameters := [(.object "java/lang/Object")], returnType := some .boolean }, accessFlags := 1, code := some k7c2 }
def k7c3 : Code := { maxStack := 4, maxLocals := 6, code := jdk_42_method_149_code, exceptionTable := #[], attributes := #[] }
def k7m3 : Method := { name := "<init>", desc := "([CIILjava/lang/Void;)V", sig := { parameters := [(.array .char), .int, .int, (.object "java/lang/Void")], returnType := none }, accessFlags := 2, code := some k7c3 }
/-- java/lang/String -/
def k7 : Class := { plain "java/lang/String" (some 0) with
  accessFlags := 49
  interfaces := #[2, 3, 4, 5, 6]
  cf := some (fileOf pool7 10 #[.nestMembers #[1103]] #[{ accessFlags := 1, nameIndex := 5, descriptorIndex := 6, attributes := #[] }, { accessFlags := 1, nameIndex := 5, descriptorIndex := 1010, attributes := #[] }, { accessFlags := 1, nameIndex := 543, descriptorIndex := 573, attributes := #[] }, { accessFlags := 2, nameIndex := 5, descriptorIndex := 29, attributes := #[] }] 49 2 #[1106, 1108, 575, 1110, 1112] #[{ accessFlags := 18, nameIndex := 13, descriptorIndex := 14, attributes := #[] }, { accessFlags := 18, nameIndex := 17, descriptorIndex := 18, attributes := #[] }, { accessFlags := 2, nameIndex := 21, descriptorIndex := 22, attributes := #[] }, { accessFlags := 2, nameIndex := 25, descriptorIndex := 26, attributes := #[] }, { accessFlags := 26, nameIndex := 1116, descriptorIndex := 1117, attributes := #[] }, { accessFlags := 24, nameIndex := 40, descriptorIndex := 26, attributes := #[] }, { accessFlags := 26, nameIndex := 1101, descriptorIndex := 1102, attributes := #[] }, { accessFlags := 26, nameIndex := 1121, descriptorIndex := 1122, attributes := #[] }, { accessFlags := 25, nameIndex := 599, descriptorIndex := 600, attributes := #[] }, { accessFlags := 24, nameIndex := 1125, descriptorIndex := 18, attributes := #[] }, { accessFlags := 24, nameIndex := 1127, descriptorIndex := 18, attributes := #[] }])
  fields := #[{ name := "value", type := (.array .byte), accessFlags := 18, slot := 0, constantValue := 0 }, { name := "coder", type := .byte, accessFlags := 18, slot := 1, constantValue := 0 }, { name := "hash", type := .int, accessFlags := 2, slot := 2, constantValue := 0 }, { name := "hashIsZero", type := .boolean, accessFlags := 2, slot := 3, constantValue := 0 }, { name := "serialVersionUID", type := .long, accessFlags := 26, slot := 0, constantValue := 0 }, { name := "COMPACT_STRINGS", type := .boolean, accessFlags := 24, slot := 1, constantValue := 0 }, { name := "serialPersistentFields", type := (.array (.object "java/io/ObjectStreamField")), accessFlags := 26, slot := 2, constantValue := 0 }, { name := "REPL", type := .char, accessFlags := 26, slot := 3, constantValue := 0 }, { name := "CASE_INSENSITIVE_ORDER", type := (.object "java/util/Comparator"), accessFlags := 25, slot := 4, constantValue := 0 }, { name := "LATIN1", type := .byte, accessFlags := 24, slot := 5, constantValue := 0 }, { name := "UTF16", type := .byte, accessFlags := 24, slot := 6, constantValue := 0 }]
  methods := #[k7m0, k7m1, k7m2, k7m3]
  instanceTypes := #[(.array .byte), .byte, .int, .boolean]
  staticTypes := #[.long, .boolean, (.array (.object "java/io/ObjectStreamField")), .char, (.object "java/util/Comparator"), .byte, .byte]
  resolved := Array.replicate 1451 none
  statics := some 0 }

def pool8 : Array CpInfo := pool [(2, .class_ 4), (1, u "java/lang/Enum"), (0, u "name"), (0, u "Ljava/lang/String;"), (2, u "ordinal"), (0, u "I"), (1, .class_ 14), (1, u "java/lang/Object"), (4, u "hash"), (86, .class_ 108), (1, u "java/lang/Enum$EnumDesc"), (2, .class_ 112), (0, u "java/lang/constant/Constable"), (0, .class_ 114), (0, u "java/lang/Comparable"), (0, .class_ 116), (0, u "java/io/Serializable")] 87

/-- java/lang/Enum -/
def k8 : Class := { plain "java/lang/Enum" (some 0) with
  accessFlags := 1057
  interfaces := #[5, 3, 2]
  cf := some (fileOf pool8 2 #[.nestMembers #[106]] #[] 1057 12 #[111, 113, 115] #[{ accessFlags := 18, nameIndex := 5, descriptorIndex := 6, attributes := #[] }, { accessFlags := 18, nameIndex := 9, descriptorIndex := 10, attributes := #[] }, { accessFlags := 2, nameIndex := 19, descriptorIndex := 10, attributes := #[] }])
  fields := #[{ name := "name", type := (.object "java/lang/String"), accessFlags := 18, slot := 0, constantValue := 0 }, { name := "ordinal", type := .int, accessFlags := 18, slot := 1, constantValue := 0 }, { name := "hash", type := .int, accessFlags := 2, slot := 2, constantValue := 0 }]
  methods := #[]
  instanceTypes := #[(.object "java/lang/String"), .int, .int]
  staticTypes := #[]
  resolved := Array.replicate 204 none
  statics := none }

def pool9 : Array CpInfo := pool [(1, .class_ 2), (0, u "com/example/windrow/windrow/Condition$Comparison"), (2, u "EQUAL"), (0, u "Lcom/example/windrow/windrow/Condition$Comparison;"), (2, u "NOT_EQUAL"), (2, u "LESS"), (2, u "LESS_OR_EQUAL"), (2, u "GREATER"), (2, u "GREATER_OR_EQUAL"), (0, .fieldref 1 23), (0, .nameAndType 24 25), (0, u "$VALUES"), (0, u "[Lcom/example/windrow/windrow/Condition$Comparison;"), (0, .methodref 27 28), (0, .class_ 25), (0, .nameAndType 29 30), (0, u "clone"), (0, u "()Ljava/lang/Object;"), (1, .class_ 34), (1, u "java/lang/Enum"), (6, .fieldref 1 42), (0, .nameAndType 43 44), (0, u "symbol"), (0, u "Ljava/lang/String;"), (0, .methodref 1 46), (0, .nameAndType 47 48), (0, u "values"), (0, u "()[Lcom/example/windrow/windrow/Condition$Comparison;"), (0, .methodref 50 51), (0, .class_ 52), (0, .nameAndType 53 54), (0, u "java/lang/String"), (0, u "equals"), (0, u "(Ljava/lang/Object;)Z"), (35, u "(Ljava/lang/String;)Lcom/example/windrow/windrow/Condition$Comparison;"), (3, u "of"), (9, .class_ 105), (0, u "com/example/windrow/windrow/Condition")] 2

def k9c0 : Code := { maxStack := 1, maxLocals := 0, code := prog_20_method_1_code, exceptionTable := #[], attributes := #[] }
def k9m0 : Method := { name := "values", desc := "()[Lcom/example/windrow/windrow/Condition$Comparison;", sig := { parameters := [], returnType := some (.array (.object "com/example/windrow/windrow/Condition$Comparison")) }, accessFlags := 9, code := some k9c0 }
def k9c1 : Code := { maxStack := 2, maxLocals := 5, code := prog_20_method_4_code, exceptionTable := #[], attributes := #[] }
def k9m1 : Method := { name := "of", desc := "(Ljava/lang/String;)Lcom/example/windrow/windrow/Condition$Comparison;", sig := { parameters := [(.object "java/lang/String")], returnType := some (.object "com/example/windrow/windrow/Condition$Comparison") }, accessFlags := 8, code := some k9c1 }
/-- com/example/windrow/windrow/Condition$Comparison -/
def k9 : Class := { plain "com/example/windrow/windrow/Condition$Comparison" (some 8) with
  accessFlags := 16433
  interfaces := #[]
  cf := some (fileOf pool9 1 #[.nestHost 104] #[{ accessFlags := 9, nameIndex := 47, descriptorIndex := 48, attributes := #[] }, { accessFlags := 8, nameIndex := 94, descriptorIndex := 90, attributes := #[] }] 16433 32 #[] #[{ accessFlags := 16409, nameIndex := 5, descriptorIndex := 6, attributes := #[] }, { accessFlags := 16409, nameIndex := 9, descriptorIndex := 6, attributes := #[] }, { accessFlags := 16409, nameIndex := 12, descriptorIndex := 6, attributes := #[] }, { accessFlags := 16409, nameIndex := 15, descriptorIndex := 6, attributes := #[] }, { accessFlags := 16409, nameIndex := 18, descriptorIndex := 6, attributes := #[] }, { accessFlags := 16409, nameIndex := 21, descriptorIndex := 6, attributes := #[] }, { accessFlags := 16, nameIndex := 43, descriptorIndex := 44, attributes := #[] }, { accessFlags := 4122, nameIndex := 24, descriptorIndex := 25, attributes := #[] }])
  fields := #[{ name := "EQUAL", type := (.object "com/example/windrow/windrow/Condition$Comparison"), accessFlags := 16409, slot := 0, constantValue := 0 }, { name := "NOT_EQUAL", type := (.object "com/example/windrow/windrow/Condition$Comparison"), accessFlags := 16409, slot := 1, constantValue := 0 }, { name := "LESS", type := (.object "com/example/windrow/windrow/Condition$Comparison"), accessFlags := 16409, slot := 2, constantValue := 0 }, { name := "LESS_OR_EQUAL", type := (.object "com/example/windrow/windrow/Condition$Comparison"), accessFlags := 16409, slot := 3, constantValue := 0 }, { name := "GREATER", type := (.object "com/example/windrow/windrow/Condition$Comparison"), accessFlags := 16409, slot := 4, constantValue := 0 }, { name := "GREATER_OR_EQUAL", type := (.object "com/example/windrow/windrow/Condition$Comparison"), accessFlags := 16409, slot := 5, constantValue := 0 }, { name := "symbol", type := (.object "java/lang/String"), accessFlags := 16, slot := 3, constantValue := 0 }, { name := "$VALUES", type := (.array (.object "com/example/windrow/windrow/Condition$Comparison")), accessFlags := 4122, slot := 6, constantValue := 0 }]
  methods := #[k9m0, k9m1]
  instanceTypes := #[(.object "java/lang/String"), .int, .int, (.object "java/lang/String")]
  staticTypes := #[(.object "com/example/windrow/windrow/Condition$Comparison"), (.object "com/example/windrow/windrow/Condition$Comparison"), (.object "com/example/windrow/windrow/Condition$Comparison"), (.object "com/example/windrow/windrow/Condition$Comparison"), (.object "com/example/windrow/windrow/Condition$Comparison"), (.object "com/example/windrow/windrow/Condition$Comparison"), (.array (.object "com/example/windrow/windrow/Condition$Comparison"))]
  resolved := Array.replicate 108 none
  statics := some 1 }

def pool10 : Array CpInfo := pool [(1, .class_ 2), (0, u "java/lang/Cloneable"), (0, .class_ 4), (0, u "java/lang/Object")] 2

/-- java/lang/Cloneable -/
def k10 : Class := { plain "java/lang/Cloneable" (some 0) with
  accessFlags := 1537
  interfaces := #[]
  cf := some (fileOf pool10 1 #[] #[] 1537 3 #[] #[])
  fields := #[]
  methods := #[]
  instanceTypes := #[]
  staticTypes := #[]
  resolved := Array.replicate 7 none
  statics := none }

def pool11 : Array CpInfo := pool [(4, .class_ 6), (1, u "java/lang/Object"), (0, u "<init>"), (0, u "()V"), (5, .class_ 16), (1, u "java/lang/StringLatin1"), (104, u "$assertionsDisabled"), (0, u "Z"), (98, .class_ 223), (1, u "java/lang/StringLatin1$LinesSpliterator"), (57, u "equals"), (0, u "([B[B)Z"), (107, .class_ 391), (0, u "java/lang/StringLatin1$CharsSpliterator")] 3

def k11m0 : Method := { name := "<init>", desc := "()V", sig := { parameters := [], returnType := none }, accessFlags := 0, code := none }
def k11c1 : Code := { maxStack := 3, maxLocals := 3, code := jdk_43_method_13_code, exceptionTable := #[], attributes := #[] }
def k11m1 : Method := { name := "equals", desc := "([B[B)Z", sig := { parameters := [(.array .byte), (.array .byte)], returnType := some .boolean }, accessFlags := 9, code := some k11c1 }
/-- java/lang/StringLatin1 -/
def k11 : Class := { plain "java/lang/StringLatin1" (some 0) with
  accessFlags := 48
  interfaces := #[]
  cf := some (fileOf pool11 14 #[.nestMembers #[390, 221]] #[{ accessFlags := 0, nameIndex := 7, descriptorIndex := 8, attributes := #[] }, { accessFlags := 9, nameIndex := 281, descriptorIndex := 282, attributes := #[] }] 48 4 #[] #[{ accessFlags := 4120, nameIndex := 121, descriptorIndex := 122, attributes := #[] }])
  fields := #[{ name := "$assertionsDisabled", type := .boolean, accessFlags := 4120, slot := 0, constantValue := 0 }]
  methods := #[k11m0, k11m1]
  instanceTypes := #[]
  staticTypes := #[.boolean]
  resolved := Array.replicate 395 none
  statics := none }

def pool12 : Array CpInfo := pool [(6, .class_ 8), (1, u "java/lang/Object"), (0, u "<init>"), (0, u "()V"), (1, .class_ 14), (1, u "java/lang/StringUTF16"), (31, u "$assertionsDisabled"), (0, u "Z"), (13, u "HI_BYTE_SHIFT"), (0, u "I"), (2, u "LO_BYTE_SHIFT"), (49, .methodref 12 116), (0, .nameAndType 117 118), (0, u "compress"), (0, u "([CI[BII)I"), (3, u "([CII)[B"), (138, u "coderFromArrayLen"), (0, u "([BI)B"), (106, .class_ 371), (1, u "java/lang/StringUTF16$LinesSpliterator"), (58, u "MAX_LENGTH"), (196, .class_ 628), (0, u "java/lang/StringUTF16$CodePointsSpliterator"), (0, .class_ 630), (0, u "java/lang/StringUTF16$CharsSpliterator")] 4

def k12m0 : Method := { name := "<init>", desc := "()V", sig := { parameters := [], returnType := none }, accessFlags := 0, code := none }
def k12c1 : Code := { maxStack := 2, maxLocals := 2, code := jdk_52_method_15_code, exceptionTable := #[], attributes := #[] }
def k12m1 : Method := { name := "coderFromArrayLen", desc := "([BI)B", sig := { parameters := [(.array .byte), .int], returnType := some .byte }, accessFlags := 8, code := some k12c1 }
def k12c2 : Code := { maxStack := 5, maxLocals := 6, code := jdk_52_method_16_code, exceptionTable := #[], attributes := #[] }
def k12m2 : Method := { name := "compress", desc := "([CII)[B", sig := { parameters := [(.array .char), .int, .int], returnType := some (.array .byte) }, accessFlags := 9, code := some k12c2 }
def k12c3 : Code := { maxStack := 3, maxLocals := 7, code := jdk_52_method_21_code, exceptionTable := #[], attributes := #[] }
def k12m3 : Method := { name := "compress", desc := "([CI[BII)I", sig := { parameters := [(.array .char), .int, (.array .byte), .int, .int], returnType := some .int }, accessFlags := 9, code := some k12c3 }
/-- java/lang/StringUTF16 -/
def k12 : Class := { plain "java/lang/StringUTF16" (some 0) with
  accessFlags := 48
  interfaces := #[]
  cf := some (fileOf pool12 12 #[.nestMembers #[627, 629, 369]] #[{ accessFlags := 0, nameIndex := 9, descriptorIndex := 10, attributes := #[] }, { accessFlags := 8, nameIndex := 261, descriptorIndex := 262, attributes := #[] }, { accessFlags := 9, nameIndex := 117, descriptorIndex := 122, attributes := #[] }, { accessFlags := 9, nameIndex := 117, descriptorIndex := 118, attributes := #[] }] 48 6 #[] #[{ accessFlags := 26, nameIndex := 61, descriptorIndex := 62, attributes := #[] }, { accessFlags := 26, nameIndex := 65, descriptorIndex := 62, attributes := #[] }, { accessFlags := 24, nameIndex := 430, descriptorIndex := 62, attributes := #[] }, { accessFlags := 4120, nameIndex := 46, descriptorIndex := 47, attributes := #[] }])
  fields := #[{ name := "HI_BYTE_SHIFT", type := .int, accessFlags := 26, slot := 0, constantValue := 0 }, { name := "LO_BYTE_SHIFT", type := .int, accessFlags := 26, slot := 1, constantValue := 0 }, { name := "MAX_LENGTH", type := .int, accessFlags := 24, slot := 2, constantValue := 0 }, { name := "$assertionsDisabled", type := .boolean, accessFlags := 4120, slot := 3, constantValue := 0 }]
  methods := #[k12m0, k12m1, k12m2, k12m3]
  instanceTypes := #[]
  staticTypes := #[.int, .int, .int, .boolean]
  resolved := Array.replicate 635 none
  statics := none }

def pool13 : Array CpInfo := pool [(2, .class_ 4), (1, u "java/lang/Object"), (0, u "<init>"), (0, u "()V"), (17, .class_ 26), (1, u "jdk/internal/util/Preconditions"), (28, .class_ 56), (0, u "jdk/internal/util/Preconditions$4"), (57, .class_ 115), (0, u "jdk/internal/util/Preconditions$1"), (7, u "SIOOBE_FORMATTER"), (0, u "Ljava/util/function/BiFunction;"), (0, .class_ 126), (0, u "jdk/internal/util/Preconditions$2"), (3, u "AIOOBE_FORMATTER"), (0, .class_ 132), (0, u "jdk/internal/util/Preconditions$3"), (3, u "IOOBE_FORMATTER")] 57

def k13m0 : Method := { name := "<init>", desc := "()V", sig := { parameters := [], returnType := none }, accessFlags := 1, code := none }
/-- jdk/internal/util/Preconditions -/
def k13 : Class := { plain "jdk/internal/util/Preconditions" (some 0) with
  accessFlags := 33
  interfaces := #[]
  cf := some (fileOf pool13 24 #[.nestMembers #[55, 131, 125, 114]] #[{ accessFlags := 1, nameIndex := 5, descriptorIndex := 6, attributes := #[] }] 33 2 #[] #[{ accessFlags := 25, nameIndex := 123, descriptorIndex := 124, attributes := #[] }, { accessFlags := 25, nameIndex := 130, descriptorIndex := 124, attributes := #[] }, { accessFlags := 25, nameIndex := 136, descriptorIndex := 124, attributes := #[] }])
  fields := #[{ name := "SIOOBE_FORMATTER", type := (.object "java/util/function/BiFunction"), accessFlags := 25, slot := 0, constantValue := 0 }, { name := "AIOOBE_FORMATTER", type := (.object "java/util/function/BiFunction"), accessFlags := 25, slot := 1, constantValue := 0 }, { name := "IOOBE_FORMATTER", type := (.object "java/util/function/BiFunction"), accessFlags := 25, slot := 2, constantValue := 0 }]
  methods := #[k13m0]
  instanceTypes := #[]
  staticTypes := #[(.object "java/util/function/BiFunction"), (.object "java/util/function/BiFunction"), (.object "java/util/function/BiFunction")]
  resolved := Array.replicate 194 none
  statics := some 2 }

def pool14 : Array CpInfo := pool [(9, u "<init>"), (6, .class_ 18), (1, u "java/lang/Object"), (0, u "()V"), (1, .class_ 23), (1, u "jdk/internal/util/ArraysSupport"), (0, u "LOG2_ARRAY_LONG_INDEX_SCALE"), (0, u "I"), (2, u "U"), (0, u "Ljdk/internal/misc/Unsafe;"), (8, u "BIG_ENDIAN"), (0, u "Z"), (8, u "LOG2_BYTE_BIT_SIZE"), (4, u "LOG2_ARRAY_INT_INDEX_SCALE"), (54, u "JLA"), (0, u "Ljdk/internal/access/JavaLangAccess;"), (11, u "LOG2_ARRAY_BOOLEAN_INDEX_SCALE"), (9, u "LOG2_ARRAY_BYTE_INDEX_SCALE"), (5, u "LOG2_ARRAY_CHAR_INDEX_SCALE"), (5, u "LOG2_ARRAY_SHORT_INDEX_SCALE"), (18, u "LOG2_ARRAY_FLOAT_INDEX_SCALE"), (24, u "LOG2_ARRAY_DOUBLE_INDEX_SCALE"), (89, u "T_BOOLEAN"), (2, u "T_CHAR"), (1, u "T_FLOAT"), (1, u "T_DOUBLE"), (1, u "T_BYTE"), (1, u "T_SHORT"), (1, u "T_INT"), (1, u "T_LONG"), (1, u "SOFT_MAX_ARRAY_LENGTH")] 83

def k14m0 : Method := { name := "<init>", desc := "()V", sig := { parameters := [], returnType := none }, accessFlags := 2, code := none }
/-- jdk/internal/util/ArraysSupport -/
def k14 : Class := { plain "jdk/internal/util/ArraysSupport" (some 0) with
  accessFlags := 33
  interfaces := #[]
  cf := some (fileOf pool14 21 #[] #[{ accessFlags := 2, nameIndex := 9, descriptorIndex := 19, attributes := #[] }] 33 16 #[] #[{ accessFlags := 24, nameIndex := 28, descriptorIndex := 29, attributes := #[] }, { accessFlags := 26, nameIndex := 38, descriptorIndex := 39, attributes := #[] }, { accessFlags := 25, nameIndex := 121, descriptorIndex := 25, attributes := #[] }, { accessFlags := 25, nameIndex := 131, descriptorIndex := 25, attributes := #[] }, { accessFlags := 25, nameIndex := 137, descriptorIndex := 25, attributes := #[] }, { accessFlags := 25, nameIndex := 143, descriptorIndex := 25, attributes := #[] }, { accessFlags := 25, nameIndex := 53, descriptorIndex := 25, attributes := #[] }, { accessFlags := 25, nameIndex := 24, descriptorIndex := 25, attributes := #[] }, { accessFlags := 25, nameIndex := 162, descriptorIndex := 25, attributes := #[] }, { accessFlags := 25, nameIndex := 187, descriptorIndex := 25, attributes := #[] }, { accessFlags := 26, nameIndex := 48, descriptorIndex := 25, attributes := #[] }, { accessFlags := 25, nameIndex := 277, descriptorIndex := 25, attributes := #[] }, { accessFlags := 25, nameIndex := 280, descriptorIndex := 25, attributes := #[] }, { accessFlags := 25, nameIndex := 282, descriptorIndex := 25, attributes := #[] }, { accessFlags := 25, nameIndex := 284, descriptorIndex := 25, attributes := #[] }, { accessFlags := 25, nameIndex := 286, descriptorIndex := 25, attributes := #[] }, { accessFlags := 25, nameIndex := 288, descriptorIndex := 25, attributes := #[] }, { accessFlags := 25, nameIndex := 290, descriptorIndex := 25, attributes := #[] }, { accessFlags := 25, nameIndex := 292, descriptorIndex := 25, attributes := #[] }, { accessFlags := 26, nameIndex := 108, descriptorIndex := 109, attributes := #[] }, { accessFlags := 25, nameIndex := 294, descriptorIndex := 25, attributes := #[] }])
  fields := #[{ name := "U", type := (.object "jdk/internal/misc/Unsafe"), accessFlags := 24, slot := 0, constantValue := 0 }, { name := "BIG_ENDIAN", type := .boolean, accessFlags := 26, slot := 1, constantValue := 0 }, { name := "LOG2_ARRAY_BOOLEAN_INDEX_SCALE", type := .int, accessFlags := 25, slot := 2, constantValue := 0 }, { name := "LOG2_ARRAY_BYTE_INDEX_SCALE", type := .int, accessFlags := 25, slot := 3, constantValue := 0 }, { name := "LOG2_ARRAY_CHAR_INDEX_SCALE", type := .int, accessFlags := 25, slot := 4, constantValue := 0 }, { name := "LOG2_ARRAY_SHORT_INDEX_SCALE", type := .int, accessFlags := 25, slot := 5, constantValue := 0 }, { name := "LOG2_ARRAY_INT_INDEX_SCALE", type := .int, accessFlags := 25, slot := 6, constantValue := 0 }, { name := "LOG2_ARRAY_LONG_INDEX_SCALE", type := .int, accessFlags := 25, slot := 7, constantValue := 0 }, { name := "LOG2_ARRAY_FLOAT_INDEX_SCALE", type := .int, accessFlags := 25, slot := 8, constantValue := 0 }, { name := "LOG2_ARRAY_DOUBLE_INDEX_SCALE", type := .int, accessFlags := 25, slot := 9, constantValue := 0 }, { name := "LOG2_BYTE_BIT_SIZE", type := .int, accessFlags := 26, slot := 10, constantValue := 0 }, { name := "T_BOOLEAN", type := .int, accessFlags := 25, slot := 11, constantValue := 0 }, { name := "T_CHAR", type := .int, accessFlags := 25, slot := 12, constantValue := 0 }, { name := "T_FLOAT", type := .int, accessFlags := 25, slot := 13, constantValue := 0 }, { name := "T_DOUBLE", type := .int, accessFlags := 25, slot := 14, constantValue := 0 }, { name := "T_BYTE", type := .int, accessFlags := 25, slot := 15, constantValue := 0 }, { name := "T_SHORT", type := .int, accessFlags := 25, slot := 16, constantValue := 0 }, { name := "T_INT", type := .int, accessFlags := 25, slot := 17, constantValue := 0 }, { name := "T_LONG", type := .int, accessFlags := 25, slot := 18, constantValue := 0 }, { name := "JLA", type := (.object "jdk/internal/access/JavaLangAccess"), accessFlags := 26, slot := 19, constantValue := 0 }, { name := "SOFT_MAX_ARRAY_LENGTH", type := .int, accessFlags := 25, slot := 20, constantValue := 0 }]
  methods := #[k14m0]
  instanceTypes := #[]
  staticTypes := #[(.object "jdk/internal/misc/Unsafe"), .boolean, .int, .int, .int, .int, .int, .int, .int, .int, .int, .int, .int, .int, .int, .int, .int, .int, .int, (.object "jdk/internal/access/JavaLangAccess"), .int]
  resolved := Array.replicate 378 none
  statics := none }

/-- the primitive byte -/
def k15 : Class := { plain "byte" none with kind := .primitive 'B', accessFlags := 0x411 }
/-- [B -/
def k16 : Class := { plain "[B" (some 0) with kind := .array 15 .byte, interfaces := #[10, 2], accessFlags := 1041 }

/-- the primitive char -/
def k17 : Class := { plain "char" none with kind := .primitive 'C', accessFlags := 0x411 }
/-- [C -/
def k18 : Class := { plain "[C" (some 0) with kind := .array 17 .char, interfaces := #[10, 2], accessFlags := 1041 }

/-- the primitive int -/
def k19 : Class := { plain "int" none with kind := .primitive 'I', accessFlags := 0x411 }
/-- [I -/
def k20 : Class := { plain "[I" (some 0) with kind := .array 19 .int, interfaces := #[10, 2], accessFlags := 1041 }

/-- [Lcom/example/windrow/windrow/Condition$Comparison; -/
def k21 : Class := { plain "[Lcom/example/windrow/windrow/Condition$Comparison;" (some 0) with kind := .array 9 (.object "com/example/windrow/windrow/Condition$Comparison"), interfaces := #[10, 2], accessFlags := 1041 }

def heap : Heap := #[{ cls := 7, slots := #[.long 0, .int 1, .null, .int 0, .null, .int 0, .int 0], vm := .statics 7 },
  { cls := 9, slots := #[.ref 4, .ref 5, .ref 6, .ref 7, .ref 8, .ref 9, .ref 3], vm := .statics 9 },
  { cls := 13, slots := #[.null, .null, .null], vm := .statics 13 },
  { cls := 21, slots := #[.ref 4, .ref 5, .ref 6, .ref 7, .ref 8, .ref 9], vm := .none },
  { cls := 9, slots := #[.null, .int 0, .int 0, .ref 10], vm := .none },
  { cls := 9, slots := #[.null, .int 1, .int 0, .ref 11], vm := .none },
  { cls := 9, slots := #[.null, .int 2, .int 0, .ref 12], vm := .none },
  { cls := 9, slots := #[.null, .int 3, .int 0, .ref 13], vm := .none },
  { cls := 9, slots := #[.null, .int 4, .int 0, .ref 14], vm := .none },
  { cls := 9, slots := #[.null, .int 5, .int 0, .ref 15], vm := .none },
  { cls := 7, slots := #[.ref 16, .int 0, .int 0, .int 0], vm := .none },
  { cls := 7, slots := #[.ref 17, .int 0, .int 0, .int 0], vm := .none },
  { cls := 7, slots := #[.ref 18, .int 0, .int 0, .int 0], vm := .none },
  { cls := 7, slots := #[.ref 19, .int 0, .int 0, .int 0], vm := .none },
  { cls := 7, slots := #[.ref 20, .int 0, .int 0, .int 0], vm := .none },
  { cls := 7, slots := #[.ref 21, .int 0, .int 0, .int 0], vm := .none },
  { cls := 16, slots := #[.int 61], vm := .none },
  { cls := 16, slots := #[.int 33, .int 61], vm := .none },
  { cls := 16, slots := #[.int 60], vm := .none },
  { cls := 16, slots := #[.int 60, .int 61], vm := .none },
  { cls := 16, slots := #[.int 62], vm := .none },
  { cls := 16, slots := #[.int 62, .int 61], vm := .none }]
def classes : Array Class := #[k0, k1, k2, k3, k4, k5, k6, k7, k8, k9, k10, k11, k12, k13, k14, k15, k16, k17, k18, k19, k20, k21]
def interned : List (Array UInt16 × Addr) := []
def slotsUsed : Nat := 80
def theMethod : MethodId := ⟨1, 2⟩
def args0 : Array Value := #[.int 5, .int 61, .int 60, .int 62]
def aboutOver (below : List Frame) : State where
  vm := { classes := classes, interned := interned.toArray }
  heap := heap
  slotsUsed := slotsUsed
  threads := #[{ frames := .invoking theMethod args0 :: below }]
def below0 : List Frame := [.native { method := ⟨0, 0⟩, args := #[] }]
def about1 : State := aboutOver below0
def p0 : Program := .bare "" "" ""
def e0 : Env := launch0.env 0 0 0
theorem w_frames : about1.frames = Frame.invoking theMethod args0 :: below0 := rfl
set_option maxRecDepth 65536 in
theorem w_args : argsFit about1.vm theMethod args0 = true := by decide +kernel
set_option maxRecDepth 65536 in
theorem w_heap : heapFits about1 = true := by decide +kernel
set_option maxRecDepth 65536 in
theorem w_runnable : about1.curStatus? = some .runnable := by decide +kernel
set_option maxRecDepth 65536 in
theorem w_alone : about1.alone = true := by decide +kernel
set_option maxRecDepth 65536 in
theorem w_named : about1.methodNamed? x = some theMethod := by decide +kernel
set_option maxRecDepth 65536 in
theorem w_hears : about1.hears theMethod below0 = true := by decide +kernel
set_option maxRecDepth 65536 in
theorem w_ripe : about1.ripe theMethod args0 below0 = true := by decide +kernel
theorem w_running : about1.status = .running := rfl
set_option maxRecDepth 65536 in
theorem w_room : about1.hasRoom e0.platform room_1 = true :=
  launch0.hasRoom_least _ room_1 (by decide +kernel) (by decide +kernel) (by decide +kernel) (by decide +kernel) (by decide +kernel) (by decide +kernel)
theorem allAtoms_all (ts : List Jvm.Cond) (a : Array Jvm.Value) (st : Jvm.State) : (allAtoms ts).before a st = ts.all (fun c => c.before a st) := by
  induction ts with
  | nil => rfl
  | cons c t ih =>
    show (Jvm.Cond.and c (allAtoms t)).before a st = _
    rw [Jvm.Cond.before_and, ih, List.all_cons]
def words1 : List Jvm.Cond := Jvm.Cond.code x code maxLocals ret :: tables_1
/-- a 'code' word, met by the world's own term for the bytes: nothing is compared byte by byte -/
theorem code_word {y : MethodName} {bytes : ByteArray} {mx : Nat} {rt : Option FieldType} {a : Array Value} {s : State} {m : MethodId} {meth : Method} {c : Code} (h1 : s.methodNamed? y = some m) (h2 : s.vm.method? m = some meth) (h3 : meth.code = some c) (h4 : c.code = bytes)
    (h5 : (c.maxLocals == mx && c.exceptionTable.isEmpty && decide (c.maxStack ≤ mostOperands) && decide (meth.sig.returnType = rt) && !meth.locks && decide (parseMethodDescriptor y.desc = some meth.sig)) = true) : (Jvm.Cond.code y bytes mx rt).before a s = true := by
  simp only [Bool.and_eq_true, beq_iff_eq, Bool.not_eq_true', decide_eq_true_eq] at h5
  obtain ⟨⟨⟨⟨⟨g1, g2⟩, g3⟩, g4⟩, g5⟩, g6⟩ := h5
  simp [Cond.before, Cond.holds, Cond.value, h1, h2, h3, h4, g1, g2, g3, g4, g5, g6]
def isCode : Jvm.Cond → Bool
  | .code _ _ _ _ => true
  | _ => false
theorem all_split {L : List Jvm.Cond} {P : Jvm.Cond → Bool} (h1 : L.all (fun c => isCode c || P c) = true) (h2 : ∀ c ∈ L.filter isCode, P c = true) : L.all P = true := by
  refine List.all_eq_true.mpr fun c hc => ?_
  have h := List.all_eq_true.mp h1 c hc
  rcases Bool.eq_false_or_eq_true (isCode c) with hi | hi
  · exact h2 c (List.mem_filter.mpr ⟨hc, hi⟩)
  · simpa [hi] using h
set_option maxRecDepth 65536 in
theorem w_c0 : (Jvm.Cond.code x code maxLocals ret).before args0 about1 = true := code_word (m := ⟨1, 2⟩) (meth := k1m2) (c := k1c2) (by decide +kernel) rfl rfl rfl (by decide +kernel)
set_option maxRecDepth 65536 in
theorem w_c1 : (Jvm.Cond.code ({ cls := "com/example/windrow/windrow/ComparisonOfPinLaw", name := "pick", desc := "(I)C" } : Jvm.MethodName) method_2_code (2 : Nat) (Option.some Jvm.ClassFile.FieldType.char)).before args0 about1 = true := code_word (m := ⟨1, 1⟩) (meth := k1m1) (c := k1c1) (by decide +kernel) rfl rfl rfl (by decide +kernel)
set_option maxRecDepth 65536 in
theorem w_c2 : (Jvm.Cond.code ({ cls := "java/lang/String", name := "<init>", desc := "([C)V" } : Jvm.MethodName) jdk_42_method_3_code (2 : Nat) (Option.none : Option Jvm.ClassFile.FieldType)).before args0 about1 = true := code_word (m := ⟨7, 1⟩) (meth := k7m1) (c := k7c1) (by decide +kernel) rfl rfl rfl (by decide +kernel)
set_option maxRecDepth 65536 in
theorem w_c3 : (Jvm.Cond.code ({ cls := "java/lang/String", name := "<init>", desc := "([CIILjava/lang/Void;)V" } : Jvm.MethodName) jdk_42_method_149_code (6 : Nat) (Option.none : Option Jvm.ClassFile.FieldType)).before args0 about1 = true := code_word (m := ⟨7, 3⟩) (meth := k7m3) (c := k7c3) (by decide +kernel) rfl rfl rfl (by decide +kernel)
set_option maxRecDepth 65536 in
theorem w_c4 : (Jvm.Cond.code ({ cls := "java/lang/Object", name := "<init>", desc := "()V" } : Jvm.MethodName) object_method_1_code (1 : Nat) (Option.none : Option Jvm.ClassFile.FieldType)).before args0 about1 = true := code_word (m := ⟨0, 0⟩) (meth := k0m0) (c := k0c0) (by decide +kernel) rfl rfl rfl (by decide +kernel)
set_option maxRecDepth 65536 in
theorem w_c5 : (Jvm.Cond.code ({ cls := "com/example/windrow/windrow/Condition$Comparison", name := "of", desc := "(Ljava/lang/String;)Lcom/example/windrow/windrow/Condition$Comparison;" } : Jvm.MethodName) prog_20_method_4_code (5 : Nat) (Option.some (Jvm.ClassFile.FieldType.object "com/example/windrow/windrow/Condition$Comparison"))).before args0 about1 = true := code_word (m := ⟨9, 1⟩) (meth := k9m1) (c := k9c1) (by decide +kernel) rfl rfl rfl (by decide +kernel)
set_option maxRecDepth 65536 in
theorem w_c6 : (Jvm.Cond.code ({ cls := "com/example/windrow/windrow/Condition$Comparison", name := "values", desc := "()[Lcom/example/windrow/windrow/Condition$Comparison;" } : Jvm.MethodName) prog_20_method_1_code (0 : Nat) (Option.some (Jvm.ClassFile.FieldType.array (Jvm.ClassFile.FieldType.object "com/example/windrow/windrow/Condition$Comparison")))).before args0 about1 = true := code_word (m := ⟨9, 0⟩) (meth := k9m0) (c := k9c0) (by decide +kernel) rfl rfl rfl (by decide +kernel)
set_option maxRecDepth 65536 in
theorem w_c7 : (Jvm.Cond.code ({ cls := "java/lang/String", name := "equals", desc := "(Ljava/lang/Object;)Z" } : Jvm.MethodName) jdk_42_method_66_code (3 : Nat) (Option.some Jvm.ClassFile.FieldType.boolean)).before args0 about1 = true := code_word (m := ⟨7, 2⟩) (meth := k7m2) (c := k7c2) (by decide +kernel) rfl rfl rfl (by decide +kernel)
set_option maxRecDepth 65536 in
theorem w_c8 : (Jvm.Cond.code ({ cls := "java/lang/StringLatin1", name := "equals", desc := "([B[B)Z" } : Jvm.MethodName) jdk_43_method_13_code (3 : Nat) (Option.some Jvm.ClassFile.FieldType.boolean)).before args0 about1 = true := code_word (m := ⟨11, 1⟩) (meth := k11m1) (c := k11c1) (by decide +kernel) rfl rfl rfl (by decide +kernel)
set_option maxRecDepth 65536 in
theorem w_c9 : (Jvm.Cond.code ({ cls := "java/lang/StringUTF16", name := "compress", desc := "([CII)[B" } : Jvm.MethodName) jdk_52_method_16_code (6 : Nat) (Option.some (Jvm.ClassFile.FieldType.array Jvm.ClassFile.FieldType.byte))).before args0 about1 = true := code_word (m := ⟨12, 2⟩) (meth := k12m2) (c := k12c2) (by decide +kernel) rfl rfl rfl (by decide +kernel)
set_option maxRecDepth 65536 in
theorem w_c10 : (Jvm.Cond.code ({ cls := "java/lang/StringUTF16", name := "compress", desc := "([CI[BII)I" } : Jvm.MethodName) jdk_52_method_21_code (7 : Nat) (Option.some Jvm.ClassFile.FieldType.int)).before args0 about1 = true := code_word (m := ⟨12, 3⟩) (meth := k12m3) (c := k12c3) (by decide +kernel) rfl rfl rfl (by decide +kernel)
set_option maxRecDepth 65536 in
theorem w_c11 : (Jvm.Cond.code ({ cls := "java/lang/StringUTF16", name := "coderFromArrayLen", desc := "([BI)B" } : Jvm.MethodName) jdk_52_method_15_code (2 : Nat) (Option.some Jvm.ClassFile.FieldType.byte)).before args0 about1 = true := code_word (m := ⟨12, 1⟩) (meth := k12m1) (c := k12c1) (by decide +kernel) rfl rfl rfl (by decide +kernel)
def codes1 : List Jvm.Cond := [Jvm.Cond.code x code maxLocals ret, Jvm.Cond.code ({ cls := "com/example/windrow/windrow/ComparisonOfPinLaw", name := "pick", desc := "(I)C" } : Jvm.MethodName) method_2_code (2 : Nat) (Option.some Jvm.ClassFile.FieldType.char), Jvm.Cond.code ({ cls := "java/lang/String", name := "<init>", desc := "([C)V" } : Jvm.MethodName) jdk_42_method_3_code (2 : Nat) (Option.none : Option Jvm.ClassFile.FieldType), Jvm.Cond.code ({ cls := "java/lang/String", name := "<init>", desc := "([CIILjava/lang/Void;)V" } : Jvm.MethodName) jdk_42_method_149_code (6 : Nat) (Option.none : Option Jvm.ClassFile.FieldType), Jvm.Cond.code ({ cls := "java/lang/Object", name := "<init>", desc := "()V" } : Jvm.MethodName) object_method_1_code (1 : Nat) (Option.none : Option Jvm.ClassFile.FieldType), Jvm.Cond.code ({ cls := "com/example/windrow/windrow/Condition$Comparison", name := "of", desc := "(Ljava/lang/String;)Lcom/example/windrow/windrow/Condition$Comparison;" } : Jvm.MethodName) prog_20_method_4_code (5 : Nat) (Option.some (Jvm.ClassFile.FieldType.object "com/example/windrow/windrow/Condition$Comparison")), Jvm.Cond.code ({ cls := "com/example/windrow/windrow/Condition$Comparison", name := "values", desc := "()[Lcom/example/windrow/windrow/Condition$Comparison;" } : Jvm.MethodName) prog_20_method_1_code (0 : Nat) (Option.some (Jvm.ClassFile.FieldType.array (Jvm.ClassFile.FieldType.object "com/example/windrow/windrow/Condition$Comparison"))), Jvm.Cond.code ({ cls := "java/lang/String", name := "equals", desc := "(Ljava/lang/Object;)Z" } : Jvm.MethodName) jdk_42_method_66_code (3 : Nat) (Option.some Jvm.ClassFile.FieldType.boolean), Jvm.Cond.code ({ cls := "java/lang/StringLatin1", name := "equals", desc := "([B[B)Z" } : Jvm.MethodName) jdk_43_method_13_code (3 : Nat) (Option.some Jvm.ClassFile.FieldType.boolean), Jvm.Cond.code ({ cls := "java/lang/StringUTF16", name := "compress", desc := "([CII)[B" } : Jvm.MethodName) jdk_52_method_16_code (6 : Nat) (Option.some (Jvm.ClassFile.FieldType.array Jvm.ClassFile.FieldType.byte)), Jvm.Cond.code ({ cls := "java/lang/StringUTF16", name := "compress", desc := "([CI[BII)I" } : Jvm.MethodName) jdk_52_method_21_code (7 : Nat) (Option.some Jvm.ClassFile.FieldType.int), Jvm.Cond.code ({ cls := "java/lang/StringUTF16", name := "coderFromArrayLen", desc := "([BI)B" } : Jvm.MethodName) jdk_52_method_15_code (2 : Nat) (Option.some Jvm.ClassFile.FieldType.byte)]
set_option maxRecDepth 65536 in
theorem codes_eq : words1.filter isCode = codes1 := rfl
theorem w_codes : ∀ c ∈ words1.filter isCode, c.before args0 about1 = true := by
  rw [codes_eq]
  intro c hc
  simp only [codes1, List.mem_cons, List.not_mem_nil, or_false] at hc
  rcases hc with rfl | rfl | rfl | rfl | rfl | rfl | rfl | rfl | rfl | rfl | rfl | rfl
  · exact w_c0
  · exact w_c1
  · exact w_c2
  · exact w_c3
  · exact w_c4
  · exact w_c5
  · exact w_c6
  · exact w_c7
  · exact w_c8
  · exact w_c9
  · exact w_c10
  · exact w_c11
set_option maxRecDepth 65536 in
theorem w_t1 : (words1.take 24).all (fun c => isCode c || c.before args0 about1) = true := by decide +kernel
set_option maxRecDepth 65536 in
theorem w_t2 : ((words1.drop 24).take 24).all (fun c => isCode c || c.before args0 about1) = true := by decide +kernel
set_option maxRecDepth 65536 in
theorem w_t3 : (((words1.drop 24).drop 24).take 24).all (fun c => isCode c || c.before args0 about1) = true := by decide +kernel
set_option maxRecDepth 65536 in
theorem w_t4 : (((words1.drop 24).drop 24).drop 24).all (fun c => isCode c || c.before args0 about1) = true := by decide +kernel
theorem w_tables : (allAtoms (Jvm.Cond.code x code maxLocals ret :: tables_1)).before args0 about1 = true := by
  rw [allAtoms_all]
  show words1.all (fun c => c.before args0 about1) = true
  refine all_split ?_ w_codes
  rw [← List.take_append_drop 24 words1, List.all_append, w_t1, ← List.take_append_drop 24 (words1.drop 24), List.all_append, w_t2, ← List.take_append_drop 24 ((words1.drop 24).drop 24), List.all_append, w_t3, w_t4]
  rfl
set_option maxRecDepth 65536 in
theorem w_rest : rest_1_c.before args0 about1 = true := by decide +kernel
set_option maxRecDepth 65536 in
theorem w_case : (Jvm.Cond.and given_1 narrow_1).before args0 about1 = true := by decide +kernel
set_option maxRecDepth 65536 in
theorem w_consts : constsHeld consts_1 about1 := Jvm.Lit.constsHeldB_iff.mp (by decide +kernel)
theorem w_applies : (headSpec (Jvm.Cond.code x code maxLocals ret :: tables_1) room_1).applies x e0.platform about1 = true :=
  (Spec.applies_iff w_frames).mpr ⟨w_running, w_runnable, w_alone, w_named, w_hears, w_ripe, w_room, w_tables⟩
theorem atStart : AtStart classFile x code maxLocals ret World_1 tables_1 room_1 Calls_1 rest_1 Pre_1 launch0 p0 e0 about1 theMethod args0 below0 :=
  ⟨lists_1, trivial, launch0.admits_env _ _ _, launch0.least_env, fairChoices_fair.cas, fairChoices_fair.clock, w_frames, w_args, w_heap, w_applies, ⟨w_consts, trivial⟩, w_rest, w_case⟩
end start1
theorem witness_1 : WitnessClaimed_1 := ⟨start1.p0, start1.e0, start1.about1, start1.theMethod, start1.args0, start1.below0, start1.atStart⟩
end Jvm.Pilot.@@N@@
