import JvmDerived
import JvmDerived.Pilot.@@N@@Statement
import JvmDerived.Pilot.@@N@@Code
set_option linter.unusedVariables false
set_option linter.unusedSimpArgs false
namespace Jvm.OwnK
open Sem ClassFile Op Lib Jvm.Stand Jvm.Free Jvm.LawKit Jvm.RoadKit
/-- the run from S ends, and well -/
def EndsK (p : Program) (e : Env) (below : List Frame) (QQ : Outcome → State → Prop) (S : State) : Prop :=
  ∃ s₂ o, Steps p.tables e below S s₂ ∧ s₂.status = .running ∧ Ended s₂ below o ∧ QQ o s₂
/-- what a body's contract says of its end -/
abbrev OQ (s : State) (Q : Option Value → Heap → List Loc → Prop) (ck cs : Nat) : Outcome → State → Prop :=
  fun o U' => ∃ v L, o = .returned v ∧ Q v U'.heap L ∧ FrameEnd s o U' L ck cs
section EndsK
variable {p : Program} {e : Env} {below : List Frame} {QQ : Outcome → State → Prop} {S S' T : State}
theorem EndsK.go (h : ∀ t, Steps p.tables e below S' t → Steps p.tables e below S t) (k : EndsK p e below QQ S') : EndsK p e below QQ S := by
  obtain ⟨s₂, o, h1, h2⟩ := k
  exact ⟨s₂, o, h _ h1, h2⟩
theorem EndsK.tr (h : Steps p.tables e below S S') (k : EndsK p e below QQ S') : EndsK p e below QQ S := by
  obtain ⟨s₂, o, h1, h2⟩ := k
  exact ⟨s₂, o, h.trans h1, h2⟩
theorem EndsK.start {g g' : JFrame} (q : g = g') (k : EndsK p e below QQ (T.setTop g')) : EndsK p e below QQ (T.setTop g) := q ▸ k
end EndsK
section Leave
variable {p : Program} {l : Launch} {e : Env} {R : Room} {s : State} {m : MethodId} {args : Array Value} {below : List Frame} {meth : Method} {c : Code} {T : State} {locs : List Loc} {cells slots : Nat} {Q : Option Value → Heap → List Loc → Prop} {ck cs pc : Nat} {Ls : Array Slot} {rest : List Value}
theorem endI (X : Stand p l e R s m args below meth c T locs cells slots) (hx : p.tables.exec = Jvm.exec) {z : Int32} (hret : meth.sig.returnType = some .int) (hd : decode c.code pc = .ok (.ireturn, 1)) (hlk : meth.locks = false)
    (hq : Q (some (.int z)) T.heap locs) (hc : cells ≤ ck) (hs : slots ≤ cs) : EndsK p e below (OQ s Q ck cs) (T.setTop (mkF m pc Ls (.int z :: rest))) := by
  obtain ⟨fs, hr, hrun, hended, hW, hsame⟩ := X.leave (v := some (.int z)) (fun h => by rw [hret] at h; cases h) hlk
  refine ⟨_, _, retOut X hx hret rfl (Or.inl ⟨rfl, Or.inl rfl, _, rfl⟩) hd hr, hrun, hended, _, _, rfl, hq, ⟨_, rfl⟩, hW, hsame.mono hc hs⟩
theorem endN (X : Stand p l e R s m args below meth c T locs cells slots) (hx : p.tables.exec = Jvm.exec) {z : Int32} {t : FieldType} (hret : meth.sig.returnType = some t) (ht : t = .boolean ∨ t = .byte ∨ t = .char ∨ t = .short) (hd : decode c.code pc = .ok (.ireturn, 1)) (hlk : meth.locks = false)
    (hq : Q (some (.int (nar t z))) T.heap locs) (hc : cells ≤ ck) (hs : slots ≤ cs) : EndsK p e below (OQ s Q ck cs) (T.setTop (mkF m pc Ls (.int z :: rest))) := by
  obtain ⟨fs, hr, hrun, hended, hW, hsame⟩ := X.leave (v := some (.int (nar t z))) (fun h => by rw [hret] at h; cases h) hlk
  exact ⟨_, _, retN X hx hret ht hd hr, hrun, hended, _, _, rfl, hq, ⟨_, rfl⟩, hW, hsame.mono hc hs⟩
theorem endJ (X : Stand p l e R s m args below meth c T locs cells slots) (hx : p.tables.exec = Jvm.exec) {z : Int64} (hret : meth.sig.returnType = some .long) (hd : decode c.code pc = .ok (.lreturn, 1)) (hlk : meth.locks = false)
    (hq : Q (some (.long z)) T.heap locs) (hc : cells ≤ ck) (hs : slots ≤ cs) : EndsK p e below (OQ s Q ck cs) (T.setTop (mkF m pc Ls (.long z :: rest))) := by
  obtain ⟨fs, hr, hrun, hended, hW, hsame⟩ := X.leave (v := some (.long z)) (fun h => by rw [hret] at h; cases h) hlk
  exact ⟨_, _, retOut X hx hret rfl (Or.inr (Or.inl ⟨rfl, rfl, _, rfl⟩)) hd hr, hrun, hended, _, _, rfl, hq, ⟨_, rfl⟩, hW, hsame.mono hc hs⟩
theorem endR (X : Stand p l e R s m args below meth c T locs cells slots) (hx : p.tables.exec = Jvm.exec) {w : Value} {t : FieldType} (hret : meth.sig.returnType = some t) (ht : t.isReference = true) (hw : w.isRef = true) (hd : decode c.code pc = .ok (.areturn, 1)) (hlk : meth.locks = false)
    (hq : Q (some w) T.heap locs) (hc : cells ≤ ck) (hs : slots ≤ cs) : EndsK p e below (OQ s Q ck cs) (T.setTop (mkF m pc Ls (w :: rest))) := by
  obtain ⟨fs, hr, hrun, hended, hW, hsame⟩ := X.leave (v := some w) (fun h => by rw [hret] at h; cases h) hlk
  have hn : narrow t w = w := by cases t <;> first | (cases ht; done) | (cases w <;> first | rfl | (cases hw; done))
  exact ⟨_, _, retOut X hx hret hn (Or.inr (Or.inr (Or.inr (Or.inr ⟨rfl, ht, hw⟩)))) hd hr, hrun, hended, _, _, rfl, hq, ⟨_, rfl⟩, hW, hsame.mono hc hs⟩
theorem endV (X : Stand p l e R s m args below meth c T locs cells slots) (hx : p.tables.exec = Jvm.exec) (hret : meth.sig.returnType = none) (hd : decode c.code pc = .ok (.return_, 1)) (hlk : meth.locks = false)
    (hq : Q none T.heap locs) (hc : cells ≤ ck) (hs : slots ≤ cs) : EndsK p e below (OQ s Q ck cs) (T.setTop (mkF m pc Ls [])) := by
  obtain ⟨fs, hr, hrun, hended, hW, hsame⟩ := X.leave (v := none) (fun _ => rfl) hlk
  exact ⟨_, _, X.returnOut hx hret hd hr, hrun, hended, _, _, rfl, hq, ⟨_, rfl⟩, hW, hsame.mono hc hs⟩
end Leave
section Heaps
variable {h0 h h' : Heap} {a : Addr} {sl : Nat} {v : Value}
theorem ext_refl (h : Heap) : Ext h h := ⟨Nat.le_refl _, fun _ _ q => q⟩
theorem ext_trans (E : Ext h0 h) (E' : Ext h h') : Ext h0 h' := ⟨Nat.le_trans E.1 E'.1, fun x c q => E'.2 x c (E.2 x c q)⟩
theorem ext_wr (E : Ext h0 h) (W : Wr h h' a sl v) (q : h0.size ≤ a) : Ext h0 h' := by
  refine ⟨Nat.le_trans E.1 (Nat.le_of_eq W.size.symm), fun x c r => ?_⟩
  obtain ⟨c', e1, -, -, -, e5, -⟩ := wr_at W (E.2 x c r)
  rw [e1, e5 (fun z => by
    subst z
    exact absurd (Array.getElem?_eq_some_iff.mp r).1 (Nat.not_lt.mpr q))]
end Heaps
section Nums
theorem own_iadd (x y : Int32) (h1 : -2147483648 ≤ x.toInt + y.toInt) (h2 : x.toInt + y.toInt ≤ 2147483647) : (x + y).toInt = x.toInt + y.toInt := by
  have a := c_iadd x y
  have b := rng32 (x + y)
  omega
theorem own_isub (x y : Int32) (h1 : -2147483648 ≤ x.toInt - y.toInt) (h2 : x.toInt - y.toInt ≤ 2147483647) : (x - y).toInt = x.toInt - y.toInt := by
  have a := c_isub x y
  have b := rng32 (x - y)
  omega
theorem own_ladd (x y : Int64) (h1 : -9223372036854775808 ≤ x.toInt + y.toInt) (h2 : x.toInt + y.toInt ≤ 9223372036854775807) : (x + y).toInt = x.toInt + y.toInt := by
  have a := c_ladd x y
  have b := rng64 (x + y)
  omega
theorem own_lsub (x y : Int64) (h1 : -9223372036854775808 ≤ x.toInt - y.toInt) (h2 : x.toInt - y.toInt ≤ 9223372036854775807) : (x - y).toInt = x.toInt - y.toInt := by
  have a := c_lsub x y
  have b := rng64 (x - y)
  omega
theorem own_l2i (x : Int64) (h1 : -2147483648 ≤ x.toInt) (h2 : x.toInt ≤ 2147483647) : x.toInt32.toInt = x.toInt := by
  have a := c_l2i x
  have b := rng32 x.toInt32
  omega
theorem own_wide (x y : Int32) (d : Int) (hy : y.toInt = d) : (x.toInt64 * y.toInt64).toInt = x.toInt * d := by rw [← hy]; exact XT.wideMul x y
end Nums
section Words
variable {Z : State} {args : Array Value} {t u : Term} {a b : Addr} {C n d O : String} {v : Value}
theorem fldI {k : Int32} (ev : t.eval args Z none [] Z = some (.ref a)) (h : (Cond.eq (.field t O n d) (.int k)).value args Z none Z [] = some true) : Fld Z Z.heap a O n d (.int k) := by
  obtain ⟨x, y, e1, e2, -, k2⟩ := cmp_v (Or.inl h)
  cases e2
  obtain ⟨z, rfl⟩ := k2
  have e3 := (fld_at (C := O) (n := n) (dd := d) ev).symm.trans e1
  have q := gotT (Cond.eq_ints e1 rfl) h
  subst q
  exact Fld.start e3
theorem fldR (ev : t.eval args Z none [] Z = some (.ref a)) (eu : u.eval args Z none [] Z = some (.ref b)) (h : (Cond.eq (.field t O n d) u).value args Z none Z [] = some true) : Fld Z Z.heap a O n d (.ref b) := by
  obtain ⟨x, y, e1, e2, -, k2⟩ := cmp_v (Or.inl h)
  cases eu.symm.trans e2
  have e3 := (fld_at (C := O) (n := n) (dd := d) ev).symm.trans e1
  have q := gotT (eq_R e1 eu k2.2 rfl) h
  subst q
  exact Fld.start e3
theorem fldN (ev : t.eval args Z none [] Z = some (.ref a)) (h : (Cond.eq (.field t O n d) .null).value args Z none Z [] = some true) : Fld Z Z.heap a O n d .null :=
  Fld.start ((fld_at (C := O) (n := n) (dd := d) ev).symm.trans (null_v h))
/-- an int[] of the start: its length and what it holds, as the case says -/
theorem arrLen {k : Int32} {cl : Cell} {ty : FieldType} (ev : t.eval args Z none [] Z = some (.ref a)) (A : Arr Z Z.heap a cl ty) (h : (Cond.eq (.length t) (.int k)).value args Z none Z [] = some true) : cl.slots.size < 2 ^ 31 ∧ cl.slots.size.toInt32 = k := by
  obtain ⟨x, y, e1, e2, -, k2⟩ := cmp_v (Or.inl h)
  cases e2
  obtain ⟨z, rfl⟩ := k2
  have q := gotT (Cond.eq_ints e1 rfl) h
  subst q
  have ha := A.fin (Vm.Alike.refl _)
  simp only [Term.eval, ev, ha, Option.bind_eq_bind, Option.bind_some] at e1
  split at e1
  · rename_i hlt; exact ⟨hlt, by simpa using e1⟩
  · cases e1
theorem arrAt {j k : Int32} {cl : Cell} {ty : FieldType} (ev : t.eval args Z none [] Z = some (.ref a)) (A : Arr Z Z.heap a cl ty) (h : (Cond.eq (.elem t (.int j)) (.int k)).value args Z none Z [] = some true) : ¬ (j < 0 ∨ cl.slots.size ≤ j.toNatClampNeg) ∧ cl.slots[j.toNatClampNeg]? = some (.int k) := by
  obtain ⟨x, y, e1, e2, -, k2⟩ := cmp_v (Or.inl h)
  cases e2
  obtain ⟨z, rfl⟩ := k2
  have q := gotT (Cond.eq_ints e1 rfl) h
  subst q
  exact elem_in e1 ev rfl A.1
end Words
end Jvm.OwnK
namespace Jvm.Pilot.@@N@@
open Jvm Jvm.ClassFile Sem Op Lib Jvm.Free Jvm.Stand Jvm.LawKit Jvm.RoadKit Jvm.OwnK Bundle Jvm.Pilot.@@N@@.Jvm.D
theorem own_ne {a b : Nat} (h : a < b ∨ b < a) : a ≠ b := fun q => by
  subst q
  exact h.elim (Nat.lt_irrefl _) (Nat.lt_irrefl _)
theorem own_eq {a b : Nat} (h : a = b) : a = b := h
def GridP (Z : State) (h : Heap) (a : Addr) (cA : ClassId) (hI wI : Int32) (xs : List Addr) (f : Nat → Nat → Prop) : Prop :=
  Arv Z h a cA (.array .boolean) hI (xs.map .ref) .null ∧ ∀ (j : Nat) (x : Addr), xs[j]? = some x → ∃ cl, Arr Z h x cl .boolean ∧ cl.slots.size = wI.toNatClampNeg ∧ ∀ q, q < cl.slots.size → (f j q → cl.slots[q]? = some (.int 1)) ∧ (¬ f j q → cl.slots[q]? = some (.int 0))
theorem GridP.ext {Z : State} {h h' : Heap} {a : Addr} {cA : ClassId} {hI wI : Int32} {xs : List Addr} {f : Nat → Nat → Prop} (G : GridP Z h a cA hI wI xs f) (E : Ext h h') : GridP Z h' a cA hI wI xs f :=
  ⟨G.1.ext E, fun j x hj => by obtain ⟨cl, A, r⟩ := G.2 j x hj; exact ⟨cl, A.ext E, r⟩⟩
theorem GridP.same {Z : State} {h : Heap} {a : Addr} {cA : ClassId} {hI wI : Int32} {xs : List Addr} {f f' : Nat → Nat → Prop} (G : GridP Z h a cA hI wI xs f) (e : ∀ j q, j < xs.length → q < wI.toNatClampNeg → (f j q ↔ f' j q)) : GridP Z h a cA hI wI xs f' :=
  ⟨G.1, fun j x hj => by
    obtain ⟨cl, A, S, r⟩ := G.2 j x hj
    have hl : j < xs.length := (List.getElem?_eq_some_iff.mp hj).1
    refine ⟨cl, A, S, fun q hq => ?_⟩
    have ee := e j q hl (S ▸ hq)
    exact ⟨fun y => (r q hq).1 (ee.mpr y), fun y => (r q hq).2 (fun z => y (ee.mp z))⟩⟩
theorem GridP.set {Z : State} {h h' : Heap} {a : Nat} {cA : ClassId} {hI wI : Int32} {xs : List Addr} {f : Nat → Nat → Prop} {b : Nat} {N : Nat} (hxs : xs = (List.range N).map fun j => b + 1 + j) (ha : a = b)
    (G : GridP Z h a cA hI wI xs f) {j : Nat} {x : Addr} (hj : xs[j]? = some x) {c : Nat} (W : Wr h h' x c (.int 1)) : GridP Z h' a cA hI wI xs (fun j' q => f j' q ∨ (j' = j ∧ q = c)) := by
  have val : ∀ (i : Nat) (y : Nat), xs[i]? = some y → y = b + 1 + i := fun i y hi => by
    subst hxs
    simp only [List.getElem?_map, Option.map_eq_some_iff] at hi
    obtain ⟨z, hz, rfl⟩ := hi
    have := (List.getElem?_eq_some_iff.mp hz).2
    simp at this
    omega
  have vx := val j x hj
  refine ⟨G.1.other W (own_ne (by omega)), fun i y hi => ?_⟩
  have vy := val i y hi
  obtain ⟨cl, A, S, r⟩ := G.2 i y hi
  by_cases e : i = j
  · subst e
    have exy : x = y := own_eq (by omega)
    subst exy
    refine ⟨_, A.same W, by rw [sz_set]; exact S, fun q hq => ?_⟩
    rw [sz_set] at hq
    by_cases u : q = c
    · subst u
      exact ⟨fun _ => by simp [Cell.setSlot, hq], fun z => absurd (Or.inr ⟨rfl, rfl⟩) z⟩
    · have e1 : (cl.setSlot c (.int 1)).slots[q]? = cl.slots[q]? := by simp only [Cell.setSlot]; exact Array.getElem?_setIfInBounds_ne (Ne.symm u)
      rw [e1]
      exact ⟨fun z => (r q hq).1 (z.elim id fun w => absurd w.2 u), fun z => (r q hq).2 fun w => z (Or.inl w)⟩
  · have nxy : y ≠ x := own_ne (by omega)
    refine ⟨cl, A.other W nxy, S, fun q hq => ⟨fun z => (r q hq).1 (z.elim id fun w => absurd w.1 e), fun z => (r q hq).2 fun w => z (Or.inl w)⟩⟩
theorem own_nat {x : Int32} (h : 0 ≤ x.toInt) : (x.toNatClampNeg : Int) = x.toInt := by
  have : x.toNatClampNeg = x.toInt.toNat := rfl
  omega
theorem own_or3 {x : Int32} (h0 : 0 ≤ x.toInt) (h1 : x.toInt < 64) : (x ||| 3).toInt = x.toInt - x.toInt % 4 + 3 := by
  have t : ∀ k : Fin 64, ((Int32.ofNat k.val) ||| 3).toInt = (Int32.ofNat k.val).toInt - (Int32.ofNat k.val).toInt % 4 + 3 := by decide +kernel
  have e : x = Int32.ofNat x.toNatClampNeg := by
    apply Int32.toInt_inj.mp
    have q : (Int32.ofNat x.toNatClampNeg).toInt = x.toNatClampNeg := Int32.toInt_ofNat_small (by have := own_nat h0; omega)
    rw [q, own_nat h0]
  have hk : x.toNatClampNeg < 64 := by have := own_nat h0; omega
  have q := t ⟨x.toNatClampNeg, hk⟩
  rw [← e] at q
  exact q
def Bk (wI hI : Int32) (j q : Nat) : Prop := j % 4 = 1 ∧ q % 4 ≠ 3 ∧ (j : Int) - j % 4 + 3 < hI.toInt ∧ (q : Int) - q % 4 + 3 < wI.toInt
def exF (r c w h : Int32) : Int32 := if r &&& 3 = 1 then (if c &&& 3 = 3 then 0 else if r ||| 3 < h then (if c ||| 3 < w then 1 else 0) else 0) else 0
theorem own_ex {r c w h : Int32} (r0 : 0 ≤ r.toInt) (r1 : r.toInt < 64) (c0 : 0 ≤ c.toInt) (c1 : c.toInt < 64) : (Bk w h r.toNatClampNeg c.toNatClampNeg → exF r c w h = 1) ∧ (¬ Bk w h r.toNatClampNeg c.toNatClampNeg → exF r c w h = 0) := by
  have a1 := c_mask r 3 2 (by decide) (by decide)
  have a2 := c_mask c 3 2 (by decide) (by decide)
  have a3 := own_or3 r0 r1
  have a4 := own_or3 c0 c1
  have a5 := own_nat r0
  have a6 := own_nat c0
  have e1 : (1 : Int32).toInt = 1 := rfl
  have e3 : (3 : Int32).toInt = 3 := rfl
  unfold Bk exF
  by_cases p1 : r &&& 3 = 1
  · have p1' := congrArg Int32.toInt p1
    rw [if_pos p1]
    by_cases p2 : c &&& 3 = 3
    · have p2' := congrArg Int32.toInt p2
      rw [if_pos p2]
      exact ⟨fun z => by omega, fun _ => rfl⟩
    · have p2' : ¬ (c &&& 3).toInt = (3 : Int32).toInt := fun z => p2 (Int32.toInt_inj.mp z)
      rw [if_neg p2]
      by_cases p3 : r ||| 3 < h
      · have p3' := Int32.lt_iff_toInt_lt.mp p3
        rw [if_pos p3]
        by_cases p4 : c ||| 3 < w
        · have p4' := Int32.lt_iff_toInt_lt.mp p4
          rw [if_pos p4]
          exact ⟨fun _ => rfl, fun z => by omega⟩
        · have p4' : ¬ (c ||| 3).toInt < w.toInt := fun z => p4 (Int32.lt_iff_toInt_lt.mpr z)
          rw [if_neg p4]
          exact ⟨fun z => by omega, fun _ => rfl⟩
      · have p3' : ¬ (r ||| 3).toInt < h.toInt := fun z => p3 (Int32.lt_iff_toInt_lt.mpr z)
        rw [if_neg p3]
        exact ⟨fun z => by omega, fun _ => rfl⟩
  · have p1' : ¬ (r &&& 3).toInt = (1 : Int32).toInt := fun z => p1 (Int32.toInt_inj.mp z)
    rw [if_neg p1]
    exact ⟨fun z => by omega, fun _ => rfl⟩
theorem own_row {xs : List Addr} {b N : Nat} (hxs : xs = (List.range N).map fun j => b + 1 + j) {k : Nat} (hk : k < N) : xs[k]? = some (b + 1 + k) ∧ (xs.map Value.ref).getD k .null = .ref (b + 1 + k) := by
  have e : xs[k]? = some (b + 1 + k) := by subst hxs; simp [hk]
  exact ⟨e, by simp [List.getD_eq_getElem?_getD, e]⟩
theorem d3_0 : decode method_4_code 0 = .ok (.iload_n 0, 1) := by decide +kernel
theorem d3_1 : decode method_4_code 1 = .ok (.iconst 3, 1) := by decide +kernel
theorem d3_2 : decode method_4_code 2 = .ok (.iand, 1) := by decide +kernel
theorem d3_3 : decode method_4_code 3 = .ok (.iconst 1, 1) := by decide +kernel
theorem d3_4 : decode method_4_code 4 = .ok (.if_icmp .ne 28, 3) := by decide +kernel
theorem d3_7 : decode method_4_code 7 = .ok (.iload_n 1, 1) := by decide +kernel
theorem d3_8 : decode method_4_code 8 = .ok (.iconst 3, 1) := by decide +kernel
theorem d3_9 : decode method_4_code 9 = .ok (.iand, 1) := by decide +kernel
theorem d3_10 : decode method_4_code 10 = .ok (.iconst 3, 1) := by decide +kernel
theorem d3_11 : decode method_4_code 11 = .ok (.if_icmp .eq 21, 3) := by decide +kernel
theorem d3_14 : decode method_4_code 14 = .ok (.iload_n 0, 1) := by decide +kernel
theorem d3_15 : decode method_4_code 15 = .ok (.iconst 3, 1) := by decide +kernel
theorem d3_16 : decode method_4_code 16 = .ok (.ior, 1) := by decide +kernel
theorem d3_17 : decode method_4_code 17 = .ok (.iload_n 3, 1) := by decide +kernel
theorem d3_18 : decode method_4_code 18 = .ok (.if_icmp .ge 14, 3) := by decide +kernel
theorem d3_21 : decode method_4_code 21 = .ok (.iload_n 1, 1) := by decide +kernel
theorem d3_22 : decode method_4_code 22 = .ok (.iconst 3, 1) := by decide +kernel
theorem d3_23 : decode method_4_code 23 = .ok (.ior, 1) := by decide +kernel
theorem d3_24 : decode method_4_code 24 = .ok (.iload_n 2, 1) := by decide +kernel
theorem d3_25 : decode method_4_code 25 = .ok (.if_icmp .ge 7, 3) := by decide +kernel
theorem d3_28 : decode method_4_code 28 = .ok (.iconst 1, 1) := by decide +kernel
theorem d3_29 : decode method_4_code 29 = .ok (.goto 4, 3) := by decide +kernel
theorem d3_32 : decode method_4_code 32 = .ok (.iconst 0, 1) := by decide +kernel
theorem d3_33 : decode method_4_code 33 = .ok (.ireturn, 1) := by decide +kernel
theorem pn0 : plainName "tidewell/probe/GenerationsBlinkersPinLaw" = true := by first | (simp [plainName, overriddenIn]; done) | decide +kernel
theorem ef_ex (m : MethodId) (xr : Int32) (xc : Int32) (xw : Int32) (xh : Int32) : entryFrame m #[(.int xr), (.int xc), (.int xw), (.int xh)] 4 = mkF m 0 #[.val (.int xr), .val (.int xc), .val (.int xw), .val (.int xh)] [] := by first | (simp [entryFrame, mkF, argsToLocals, Value.category]; done) | rfl
def Q_ex (Z : State) (xr : Int32) (xc : Int32) (xw : Int32) (xh : Int32) (h0 : Heap) (n0 : Nat) (vz : Option Value) (hz : Heap) (Lz : List Loc) : Prop := vz = some (.int (exF xr xc xw xh)) ∧ Fr n0 Lz ∧ hz = h0
set_option maxRecDepth 65536 in
set_option maxHeartbeats 40000000 in
theorem rm_ex (l : Launch) (Z : State) (a0 : Array Value) (hw : ∀ d ∈ tables_1, d.before a0 Z = true) (ws : List Jvm.Cond) (xr : Int32) (xc : Int32) (xw : Int32) (xh : Int32) (h0 : Heap) (n0 : Nat) (Z0 : n0 ≤ h0.size)  :
    MetFree l (⟨"tidewell/probe/GenerationsBlinkersPinLaw", "expected", "(IIII)Z"⟩ : MethodName) (head1 (Jvm.Cond.code (⟨"tidewell/probe/GenerationsBlinkersPinLaw", "expected", "(IIII)Z"⟩ : MethodName) method_4_code 4 (some .boolean) :: ws) ({ frames := 0, cells := 0, slots := 0, locals := 0 } : Room)) (fun az Uz => az = #[(.int xr), (.int xc), (.int xw), (.int xh)] ∧ Z.Warmed39 Uz.vm ∧ Uz.heap = h0) (fun _ _ _ _ _ => True) (fun _ Uz oz Ut => ∃ vz Lz, oz = .returned vz ∧ Q_ex Z xr xc xw xh h0 n0 vz Ut.heap Lz ∧ FrameEnd Uz oz Ut Lz (({ frames := 0, cells := 0, slots := 0, locals := 0 } : Room)).cells (({ frames := 0, cells := 0, slots := 0, locals := 0 } : Room)).slots) := by
  refine MetFree.of_bodySF (plainFor_of_name pn0) hisR ?_
  intro p e s m args below meth c s₁ Bd hml0 hP hK
  obtain ⟨rfl, hZ, hh⟩ := hP
  have hx := Bd.exec
  have hby := Bd.bytes
  have hml : c.maxLocals = 4 := hml0
  have hown : s.vm.findClass "tidewell/probe/GenerationsBlinkersPinLaw" = some m.cls := findClass_of_methodNamed Bd.named
  have hnm := (name_of_methodNamed Bd.named Bd.method).1
  have hlk : meth.locks = false := Bd.notSynchronized
  have X0 : Stand p l e ({ frames := 0, cells := 0, slots := 0, locals := 0 } : Room) s m #[(.int xr), (.int xc), (.int xw), (.int xh)] below meth c s₁ [] 0 0 := Stand.of_body Bd
  have e0 : s₁.heap = h0 := by rw [← hh, Bd.state]; rfl
  have N0 := Fr.nil n0
  show EndsK p e below (OQ s (Q_ex Z xr xc xw xh h0 n0) (({ frames := 0, cells := 0, slots := 0, locals := 0 } : Room)).cells (({ frames := 0, cells := 0, slots := 0, locals := 0 } : Room)).slots) (s₁.setTop (entryFrame m #[(.int xr), (.int xc), (.int xw), (.int xh)] 4))
  refine EndsK.start (ef_ex m xr xc xw xh) ?_
  show EndsK p e below _ (s₁.setTop (mkF m 0 #[.val (.int xr), .val (.int xc), .val (.int xw), .val (.int xh)] []))
  refine EndsK.go (fun _ kz => XS.iloadN X0.here hx rfl (hb hby d3_0) rfl kz) ?_
  show EndsK p e below _ (s₁.setTop (mkF m 1 #[.val (.int xr), .val (.int xc), .val (.int xw), .val (.int xh)] [(.int xr)]))
  refine EndsK.go (fun _ kz => XS.iconst X0.here hx rfl (hb hby d3_1) kz) ?_
  show EndsK p e below _ (s₁.setTop (mkF m 2 #[.val (.int xr), .val (.int xc), .val (.int xw), .val (.int xh)] [(.int (3 : Int32)), (.int xr)]))
  refine EndsK.go (fun _ kz => XS.iand X0.here hx rfl (hb hby d3_2) rfl kz) ?_
  show EndsK p e below _ (s₁.setTop (mkF m 3 #[.val (.int xr), .val (.int xc), .val (.int xw), .val (.int xh)] [(.int (xr &&& (3 : Int32)))]))
  refine EndsK.go (fun _ kz => XS.iconst X0.here hx rfl (hb hby d3_3) kz) ?_
  show EndsK p e below _ (s₁.setTop (mkF m 4 #[.val (.int xr), .val (.int xc), .val (.int xw), .val (.int xh)] [(.int (1 : Int32)), (.int (xr &&& (3 : Int32)))]))
  by_cases H4_1 : (xr &&& (3 : Int32)) = (1 : Int32)
  · refine EndsK.go (fun _ kz => XS.icmpNo X0.here hx rfl (hb hby d3_4) rfl (teq H4_1).2 kz) ?_
    show EndsK p e below _ (s₁.setTop (mkF m 7 #[.val (.int xr), .val (.int xc), .val (.int xw), .val (.int xh)] []))
    refine EndsK.go (fun _ kz => XS.iloadN X0.here hx rfl (hb hby d3_7) rfl kz) ?_
    show EndsK p e below _ (s₁.setTop (mkF m 8 #[.val (.int xr), .val (.int xc), .val (.int xw), .val (.int xh)] [(.int xc)]))
    refine EndsK.go (fun _ kz => XS.iconst X0.here hx rfl (hb hby d3_8) kz) ?_
    show EndsK p e below _ (s₁.setTop (mkF m 9 #[.val (.int xr), .val (.int xc), .val (.int xw), .val (.int xh)] [(.int (3 : Int32)), (.int xc)]))
    refine EndsK.go (fun _ kz => XS.iand X0.here hx rfl (hb hby d3_9) rfl kz) ?_
    show EndsK p e below _ (s₁.setTop (mkF m 10 #[.val (.int xr), .val (.int xc), .val (.int xw), .val (.int xh)] [(.int (xc &&& (3 : Int32)))]))
    refine EndsK.go (fun _ kz => XS.iconst X0.here hx rfl (hb hby d3_10) kz) ?_
    show EndsK p e below _ (s₁.setTop (mkF m 11 #[.val (.int xr), .val (.int xc), .val (.int xw), .val (.int xh)] [(.int (3 : Int32)), (.int (xc &&& (3 : Int32)))]))
    by_cases H11_2 : (xc &&& (3 : Int32)) = (3 : Int32)
    · refine EndsK.go (fun _ kz => XS.icmpYes X0.here hx rfl (pc0 := 11) (pc' := 32) rfl (hb hby d3_11) rfl (teq H11_2).1 (by decide) (by decide) kz) ?_
      show EndsK p e below _ (s₁.setTop (mkF m 32 #[.val (.int xr), .val (.int xc), .val (.int xw), .val (.int xh)] []))
      refine EndsK.go (fun _ kz => XS.iconst X0.here hx rfl (hb hby d3_32) kz) ?_
      show EndsK p e below _ (s₁.setTop (mkF m 33 #[.val (.int xr), .val (.int xc), .val (.int xw), .val (.int xh)] [(.int (0 : Int32))]))
      exact endN X0 hx (t := .boolean) Bd.returns (by simp) (hb hby d3_33) hlk ⟨(congrArg (fun z => some (Value.int z)) (by simp [exF, H4_1, H11_2] : exF xr xc xw xh = (0 : Int32))).symm, N0, e0⟩ (by decide) (by decide)
    · refine EndsK.go (fun _ kz => XS.icmpNo X0.here hx rfl (hb hby d3_11) rfl (feq H11_2).1 kz) ?_
      show EndsK p e below _ (s₁.setTop (mkF m 14 #[.val (.int xr), .val (.int xc), .val (.int xw), .val (.int xh)] []))
      refine EndsK.go (fun _ kz => XS.iloadN X0.here hx rfl (hb hby d3_14) rfl kz) ?_
      show EndsK p e below _ (s₁.setTop (mkF m 15 #[.val (.int xr), .val (.int xc), .val (.int xw), .val (.int xh)] [(.int xr)]))
      refine EndsK.go (fun _ kz => XS.iconst X0.here hx rfl (hb hby d3_15) kz) ?_
      show EndsK p e below _ (s₁.setTop (mkF m 16 #[.val (.int xr), .val (.int xc), .val (.int xw), .val (.int xh)] [(.int (3 : Int32)), (.int xr)]))
      refine EndsK.go (fun _ kz => XS.ior X0.here hx rfl (hb hby d3_16) rfl kz) ?_
      show EndsK p e below _ (s₁.setTop (mkF m 17 #[.val (.int xr), .val (.int xc), .val (.int xw), .val (.int xh)] [(.int (xr ||| (3 : Int32)))]))
      refine EndsK.go (fun _ kz => XS.iloadN X0.here hx rfl (hb hby d3_17) rfl kz) ?_
      show EndsK p e below _ (s₁.setTop (mkF m 18 #[.val (.int xr), .val (.int xc), .val (.int xw), .val (.int xh)] [(.int xh), (.int (xr ||| (3 : Int32)))]))
      by_cases H18_3 : (xr ||| (3 : Int32)) < xh
      · refine EndsK.go (fun _ kz => XS.icmpNo X0.here hx rfl (hb hby d3_18) rfl (tlt H18_3).2.1 kz) ?_
        show EndsK p e below _ (s₁.setTop (mkF m 21 #[.val (.int xr), .val (.int xc), .val (.int xw), .val (.int xh)] []))
        refine EndsK.go (fun _ kz => XS.iloadN X0.here hx rfl (hb hby d3_21) rfl kz) ?_
        show EndsK p e below _ (s₁.setTop (mkF m 22 #[.val (.int xr), .val (.int xc), .val (.int xw), .val (.int xh)] [(.int xc)]))
        refine EndsK.go (fun _ kz => XS.iconst X0.here hx rfl (hb hby d3_22) kz) ?_
        show EndsK p e below _ (s₁.setTop (mkF m 23 #[.val (.int xr), .val (.int xc), .val (.int xw), .val (.int xh)] [(.int (3 : Int32)), (.int xc)]))
        refine EndsK.go (fun _ kz => XS.ior X0.here hx rfl (hb hby d3_23) rfl kz) ?_
        show EndsK p e below _ (s₁.setTop (mkF m 24 #[.val (.int xr), .val (.int xc), .val (.int xw), .val (.int xh)] [(.int (xc ||| (3 : Int32)))]))
        refine EndsK.go (fun _ kz => XS.iloadN X0.here hx rfl (hb hby d3_24) rfl kz) ?_
        show EndsK p e below _ (s₁.setTop (mkF m 25 #[.val (.int xr), .val (.int xc), .val (.int xw), .val (.int xh)] [(.int xw), (.int (xc ||| (3 : Int32)))]))
        by_cases H25_4 : (xc ||| (3 : Int32)) < xw
        · refine EndsK.go (fun _ kz => XS.icmpNo X0.here hx rfl (hb hby d3_25) rfl (tlt H25_4).2.1 kz) ?_
          show EndsK p e below _ (s₁.setTop (mkF m 28 #[.val (.int xr), .val (.int xc), .val (.int xw), .val (.int xh)] []))
          refine EndsK.go (fun _ kz => XS.iconst X0.here hx rfl (hb hby d3_28) kz) ?_
          show EndsK p e below _ (s₁.setTop (mkF m 29 #[.val (.int xr), .val (.int xc), .val (.int xw), .val (.int xh)] [(.int (1 : Int32))]))
          refine EndsK.go (fun _ kz => XS.goto X0.here hx rfl (pc0 := 29) (pc' := 33) rfl (hb hby d3_29) (by decide) (by decide) kz) ?_
          show EndsK p e below _ (s₁.setTop (mkF m 33 #[.val (.int xr), .val (.int xc), .val (.int xw), .val (.int xh)] [(.int (1 : Int32))]))
          exact endN X0 hx (t := .boolean) Bd.returns (by simp) (hb hby d3_33) hlk ⟨(congrArg (fun z => some (Value.int z)) (by simp [exF, H4_1, H11_2, H18_3, H25_4] : exF xr xc xw xh = (1 : Int32))).symm, N0, e0⟩ (by decide) (by decide)
        · refine EndsK.go (fun _ kz => XS.icmpYes X0.here hx rfl (pc0 := 25) (pc' := 32) rfl (hb hby d3_25) rfl (flt H25_4).2.1 (by decide) (by decide) kz) ?_
          show EndsK p e below _ (s₁.setTop (mkF m 32 #[.val (.int xr), .val (.int xc), .val (.int xw), .val (.int xh)] []))
          refine EndsK.go (fun _ kz => XS.iconst X0.here hx rfl (hb hby d3_32) kz) ?_
          show EndsK p e below _ (s₁.setTop (mkF m 33 #[.val (.int xr), .val (.int xc), .val (.int xw), .val (.int xh)] [(.int (0 : Int32))]))
          exact endN X0 hx (t := .boolean) Bd.returns (by simp) (hb hby d3_33) hlk ⟨(congrArg (fun z => some (Value.int z)) (by simp [exF, H4_1, H11_2, H18_3, H25_4] : exF xr xc xw xh = (0 : Int32))).symm, N0, e0⟩ (by decide) (by decide)
      · refine EndsK.go (fun _ kz => XS.icmpYes X0.here hx rfl (pc0 := 18) (pc' := 32) rfl (hb hby d3_18) rfl (flt H18_3).2.1 (by decide) (by decide) kz) ?_
        show EndsK p e below _ (s₁.setTop (mkF m 32 #[.val (.int xr), .val (.int xc), .val (.int xw), .val (.int xh)] []))
        refine EndsK.go (fun _ kz => XS.iconst X0.here hx rfl (hb hby d3_32) kz) ?_
        show EndsK p e below _ (s₁.setTop (mkF m 33 #[.val (.int xr), .val (.int xc), .val (.int xw), .val (.int xh)] [(.int (0 : Int32))]))
        exact endN X0 hx (t := .boolean) Bd.returns (by simp) (hb hby d3_33) hlk ⟨(congrArg (fun z => some (Value.int z)) (by simp [exF, H4_1, H11_2, H18_3] : exF xr xc xw xh = (0 : Int32))).symm, N0, e0⟩ (by decide) (by decide)
  · refine EndsK.go (fun _ kz => XS.icmpYes X0.here hx rfl (pc0 := 4) (pc' := 32) rfl (hb hby d3_4) rfl (feq H4_1).2 (by decide) (by decide) kz) ?_
    show EndsK p e below _ (s₁.setTop (mkF m 32 #[.val (.int xr), .val (.int xc), .val (.int xw), .val (.int xh)] []))
    refine EndsK.go (fun _ kz => XS.iconst X0.here hx rfl (hb hby d3_32) kz) ?_
    show EndsK p e below _ (s₁.setTop (mkF m 33 #[.val (.int xr), .val (.int xc), .val (.int xw), .val (.int xh)] [(.int (0 : Int32))]))
    exact endN X0 hx (t := .boolean) Bd.returns (by simp) (hb hby d3_33) hlk ⟨(congrArg (fun z => some (Value.int z)) (by simp [exF, H4_1] : exF xr xc xw xh = (0 : Int32))).symm, N0, e0⟩ (by decide) (by decide)
theorem d1_0 : decode prog_104_method_3_code 0 = .ok (.iload_n 1, 1) := by decide +kernel
theorem d1_1 : decode prog_104_method_3_code 1 = .ok (.iload_n 0, 1) := by decide +kernel
theorem d1_2 : decode prog_104_method_3_code 2 = .ok (.multianewarray 94 2, 4) := by decide +kernel
theorem d1_6 : decode prog_104_method_3_code 6 = .ok (.astore_n 2, 1) := by decide +kernel
theorem d1_7 : decode prog_104_method_3_code 7 = .ok (.iconst 0, 1) := by decide +kernel
theorem d1_8 : decode prog_104_method_3_code 8 = .ok (.istore_n 3, 1) := by decide +kernel
theorem d1_9 : decode prog_104_method_3_code 9 = .ok (.iload_n 3, 1) := by decide +kernel
theorem d1_10 : decode prog_104_method_3_code 10 = .ok (.iconst 4, 1) := by decide +kernel
theorem d1_11 : decode prog_104_method_3_code 11 = .ok (.iadd, 1) := by decide +kernel
theorem d1_12 : decode prog_104_method_3_code 12 = .ok (.iload_n 1, 1) := by decide +kernel
theorem d1_13 : decode prog_104_method_3_code 13 = .ok (.if_icmp .gt 54, 3) := by decide +kernel
theorem d1_16 : decode prog_104_method_3_code 16 = .ok (.iconst 0, 1) := by decide +kernel
theorem d1_17 : decode prog_104_method_3_code 17 = .ok (.istore 4, 2) := by decide +kernel
theorem d1_19 : decode prog_104_method_3_code 19 = .ok (.iload 4, 2) := by decide +kernel
theorem d1_21 : decode prog_104_method_3_code 21 = .ok (.iconst 4, 1) := by decide +kernel
theorem d1_22 : decode prog_104_method_3_code 22 = .ok (.iadd, 1) := by decide +kernel
theorem d1_23 : decode prog_104_method_3_code 23 = .ok (.iload_n 0, 1) := by decide +kernel
theorem d1_24 : decode prog_104_method_3_code 24 = .ok (.if_icmp .gt 37, 3) := by decide +kernel
theorem d1_27 : decode prog_104_method_3_code 27 = .ok (.iload 4, 2) := by decide +kernel
theorem d1_29 : decode prog_104_method_3_code 29 = .ok (.istore 5, 2) := by decide +kernel
theorem d1_31 : decode prog_104_method_3_code 31 = .ok (.iload 5, 2) := by decide +kernel
theorem d1_33 : decode prog_104_method_3_code 33 = .ok (.iload 4, 2) := by decide +kernel
theorem d1_35 : decode prog_104_method_3_code 35 = .ok (.iconst 3, 1) := by decide +kernel
theorem d1_36 : decode prog_104_method_3_code 36 = .ok (.iadd, 1) := by decide +kernel
theorem d1_37 : decode prog_104_method_3_code 37 = .ok (.if_icmp .ge 18, 3) := by decide +kernel
theorem d1_40 : decode prog_104_method_3_code 40 = .ok (.aload_n 2, 1) := by decide +kernel
theorem d1_41 : decode prog_104_method_3_code 41 = .ok (.iload_n 3, 1) := by decide +kernel
theorem d1_42 : decode prog_104_method_3_code 42 = .ok (.iconst 1, 1) := by decide +kernel
theorem d1_43 : decode prog_104_method_3_code 43 = .ok (.iadd, 1) := by decide +kernel
theorem d1_44 : decode prog_104_method_3_code 44 = .ok (.aaload, 1) := by decide +kernel
theorem d1_45 : decode prog_104_method_3_code 45 = .ok (.iload 5, 2) := by decide +kernel
theorem d1_47 : decode prog_104_method_3_code 47 = .ok (.iconst 1, 1) := by decide +kernel
theorem d1_48 : decode prog_104_method_3_code 48 = .ok (.bastore, 1) := by decide +kernel
theorem d1_49 : decode prog_104_method_3_code 49 = .ok (.iinc 5 1, 3) := by decide +kernel
theorem d1_52 : decode prog_104_method_3_code 52 = .ok (.goto (-21), 3) := by decide +kernel
theorem d1_55 : decode prog_104_method_3_code 55 = .ok (.iinc 4 4, 3) := by decide +kernel
theorem d1_58 : decode prog_104_method_3_code 58 = .ok (.goto (-39), 3) := by decide +kernel
theorem d1_61 : decode prog_104_method_3_code 61 = .ok (.iinc 3 4, 3) := by decide +kernel
theorem d1_64 : decode prog_104_method_3_code 64 = .ok (.goto (-55), 3) := by decide +kernel
theorem d1_67 : decode prog_104_method_3_code 67 = .ok (.aload_n 2, 1) := by decide +kernel
theorem d1_68 : decode prog_104_method_3_code 68 = .ok (.areturn, 1) := by decide +kernel
theorem pn1 : plainName "tidewell/probe/Generations" = true := by first | (simp [plainName, overriddenIn]; done) | decide +kernel
theorem ef_bl (m : MethodId) (w : Int32) (h : Int32) : entryFrame m #[(.int w), (.int h)] 6 = mkF m 0 #[.val (.int w), .val (.int h), .unset, .unset, .unset, .unset] [] := by first | (simp [entryFrame, mkF, argsToLocals, Value.category]; done) | rfl
def Q_bl (Z : State) (w : Int32) (h : Int32) (h0 : Heap) (n0 : Nat) (vz : Option Value) (hz : Heap) (Lz : List Loc) : Prop := ∃ (a : Addr) (cA : ClassId) (xs : List Addr), vz = some (.ref a) ∧ Fr n0 Lz ∧ Ext h0 hz ∧ xs = (List.range h.toNatClampNeg).map (fun j => a + 1 + j) ∧ GridP Z hz a cA h w xs (Bk w h)
set_option maxRecDepth 65536 in
set_option maxHeartbeats 40000000 in
theorem rm_bl (l : Launch) (Z : State) (a0 : Array Value) (hw : ∀ d ∈ tables_1, d.before a0 Z = true) (ws : List Jvm.Cond) (w : Int32) (h : Int32) (h0 : Heap) (n0 : Nat) (Z0 : n0 ≤ h0.size) (hw0 : 0 ≤ w.toInt) (hw1 : w.toInt ≤ 63) (hh0 : 0 ≤ h.toInt) (hh1 : h.toInt ≤ 63) :
    MetFree l (⟨"tidewell/probe/Generations", "blinkers", "(II)[[Z"⟩ : MethodName) (head1 (Jvm.Cond.code (⟨"tidewell/probe/Generations", "blinkers", "(II)[[Z"⟩ : MethodName) prog_104_method_3_code 6 (some (.array (.array .boolean))) :: ws) ({ frames := 0, cells := 64, slots := 4096, locals := 0 } : Room)) (fun az Uz => az = #[(.int w), (.int h)] ∧ Z.Warmed39 Uz.vm ∧ Uz.heap = h0) (fun _ _ _ _ _ => True) (fun _ Uz oz Ut => ∃ vz Lz, oz = .returned vz ∧ Q_bl Z w h h0 n0 vz Ut.heap Lz ∧ FrameEnd Uz oz Ut Lz (({ frames := 0, cells := 64, slots := 4096, locals := 0 } : Room)).cells (({ frames := 0, cells := 64, slots := 4096, locals := 0 } : Room)).slots) := by
  refine MetFree.of_bodySF (plainFor_of_name pn1) hisR ?_
  intro p e s m args below meth c s₁ Bd hml0 hP hK
  obtain ⟨rfl, hZ, hh⟩ := hP
  have hx := Bd.exec
  have hby := Bd.bytes
  have hml : c.maxLocals = 6 := hml0
  have hown : s.vm.findClass "tidewell/probe/Generations" = some m.cls := findClass_of_methodNamed Bd.named
  have hnm := (name_of_methodNamed Bd.named Bd.method).1
  have hlk : meth.locks = false := Bd.notSynchronized
  have X0 : Stand p l e ({ frames := 0, cells := 64, slots := 4096, locals := 0 } : Room) s m #[(.int w), (.int h)] below meth c s₁ [] 0 0 := Stand.of_body Bd
  have e0 : s₁.heap = h0 := by rw [← hh, Bd.state]; rfl
  have N0 := Fr.nil n0
  show EndsK p e below (OQ s (Q_bl Z w h h0 n0) (({ frames := 0, cells := 64, slots := 4096, locals := 0 } : Room)).cells (({ frames := 0, cells := 64, slots := 4096, locals := 0 } : Room)).slots) (s₁.setTop (entryFrame m #[(.int w), (.int h)] 6))
  refine EndsK.start (ef_bl m w h) ?_
  have z4 : (4 : Int32).toInt = 4 := rfl
  have z3 : (3 : Int32).toInt = 3 := rfl
  have z1 : (1 : Int32).toInt = 1 := rfl
  have z0 : (0 : Int32).toInt = 0 := rfl
  have hh0' : ¬ h < 0 := by rw [Int32.lt_iff_toInt_lt]; omega
  have hw0' : ¬ w < 0 := by rw [Int32.lt_iff_toInt_lt]; omega
  have kh := own_nat (x := h) hh0
  have kw := own_nat (x := w) hw0
  have hN : h.toNatClampNeg ≤ 63 := by omega
  have wN : w.toNatClampNeg ≤ 63 := by omega
  have nm : h.toNatClampNeg * 63 ≤ 63 * 63 := Nat.mul_le_mul_right _ hN
  obtain ⟨a, ga⟩ : ∃ z, z = h0.size := ⟨_, rfl⟩
  obtain ⟨xs, hxs⟩ : ∃ z, z = (List.range h.toNatClampNeg).map (fun j => h0.size + 1 + j) := ⟨_, rfl⟩
  have hl : xs.length = h.toNatClampNeg := by rw [hxs]; simp
  show EndsK p e below _ (s₁.setTop (mkF m 0 #[.val (.int w), .val (.int h), .unset, .unset, .unset, .unset] []))
  refine EndsK.go (fun _ kz => XS.iloadN X0.here hx rfl (hb hby d1_0) rfl kz) ?_
  show EndsK p e below _ (s₁.setTop (mkF m 1 #[.val (.int w), .val (.int h), .unset, .unset, .unset, .unset] [(.int h)]))
  refine EndsK.go (fun _ kz => XS.iloadN X0.here hx rfl (hb hby d1_1) rfl kz) ?_
  show EndsK p e below _ (s₁.setTop (mkF m 2 #[.val (.int w), .val (.int h), .unset, .unset, .unset, .unset] [(.int w), (.int h)]))
  obtain ⟨T1, h1, cA, comp, X1, e1, E1, V1, -, -, R1, st1⟩ := gridM X0 hx hZ hown (C := "[Z") (ad := "[[Z") (ty := .boolean) (by decide) (by decide) (hw _ (List.mem_of_getElem? (i := 4) rfl)) (hw _ (List.mem_of_getElem? (i := 5) rfl)) (hw _ (List.mem_of_getElem? (i := 6) rfl)) e0 (g := (mkF m 2 #[.val (.int w), .val (.int h), .unset, .unset, .unset, .unset] [(.int w), (.int h)])) rfl (hb hby d1_2) rfl hh0' hw0' (N := h.toNatClampNeg) rfl (xs := xs) hxs (cap := 63) wN (by decide) (by omega) (by decide) (by decide) (by show 0 + (1 + _) ≤ 64; omega) (by show 0 + (_ + _) ≤ 4096; omega)
  rw [← ga] at V1 st1
  have Y1 : Stand p l e ({ frames := 0, cells := 64, slots := 4096, locals := 0 } : Room) s m #[.int w, .int h] below meth c T1 [] 64 4096 := X1.mono (by omega) (by omega)
  refine EndsK.go st1 ?_
  have G1 : GridP Z h1 a cA h w xs (fun _ _ => False) := ⟨V1, fun j x hj => ⟨_, (R1 j x hj).1, sz_new _ _ _, fun q hq => ⟨fun z => z.elim, fun _ => by rw [sz_new] at hq; simp [newA, hq, defaultValue]⟩⟩⟩
  show EndsK p e below _ (T1.setTop (mkF m 6 #[.val (.int w), .val (.int h), .unset, .unset, .unset, .unset] [(.ref a)]))
  refine EndsK.go (fun _ kz => XS.astoreN Y1.here hx rfl (hb hby d1_6) rfl rfl (l' := #[.val (.int w), .val (.int h), .val (.ref a), .unset, .unset, .unset]) rfl kz) ?_
  show EndsK p e below _ (T1.setTop (mkF m 7 #[.val (.int w), .val (.int h), .val (.ref a), .unset, .unset, .unset] []))
  refine EndsK.go (fun _ kz => XS.iconst Y1.here hx rfl (hb hby d1_7) kz) ?_
  show EndsK p e below _ (T1.setTop (mkF m 8 #[.val (.int w), .val (.int h), .val (.ref a), .unset, .unset, .unset] [(.int (0 : Int32))]))
  refine EndsK.go (fun _ kz => XS.istoreN Y1.here hx rfl (hb hby d1_8) rfl (l' := #[.val (.int w), .val (.int h), .val (.ref a), .val (.int (0 : Int32)), .unset, .unset]) rfl kz) ?_
  have J9 : ∀ (ko : Nat) (r : Int32) (o4 o5 : Slot), (o4 = .unset ∨ ∃ v, o4 = .val v ∧ v.category = 1) → (o5 = .unset ∨ ∃ v, o5 = .val v ∧ v.category = 1) → 0 ≤ r.toInt → r.toInt % 4 = 0 → r.toInt ≤ h.toInt → h.toInt - r.toInt < 4 * ko + 4 → ∀ (T : State) (hp : Heap), Stand p l e ({ frames := 0, cells := 64, slots := 4096, locals := 0 } : Room) s m #[.int w, .int h] below meth c T [] 64 4096 → T.heap = hp → Ext h0 hp → GridP Z hp a cA h w xs (fun j q => j % 4 = 1 ∧ (j : Int) < r.toInt ∧ q % 4 ≠ 3 ∧ (q : Int) - q % 4 + 3 < w.toInt) → EndsK p e below (OQ s (Q_bl Z w h h0 n0) (({ frames := 0, cells := 64, slots := 4096, locals := 0 } : Room)).cells (({ frames := 0, cells := 64, slots := 4096, locals := 0 } : Room)).slots) (T.setTop (mkF m 9 #[.val (.int w), .val (.int h), .val (.ref a), .val (.int r), o4, o5] [])) := by
    intro ko
    induction ko with
    | zero =>
      intro r o4 o5 ho4 ho5 r0 r4 rh hk T hp XJ eJ PJ GJ
      have f7 := c_iadd r (4 : Int32)
      have f7r := rng32 (r + (4 : Int32))
      show EndsK p e below _ (T.setTop (mkF m 9 #[.val (.int w), .val (.int h), .val (.ref a), .val (.int r), o4, o5] []))
      refine EndsK.go (fun _ kz => XS.iloadN XJ.here hx rfl (hb hby d1_9) rfl kz) ?_
      show EndsK p e below _ (T.setTop (mkF m 10 #[.val (.int w), .val (.int h), .val (.ref a), .val (.int r), o4, o5] [(.int r)]))
      refine EndsK.go (fun _ kz => XS.iconst XJ.here hx rfl (hb hby d1_10) kz) ?_
      show EndsK p e below _ (T.setTop (mkF m 11 #[.val (.int w), .val (.int h), .val (.ref a), .val (.int r), o4, o5] [(.int (4 : Int32)), (.int r)]))
      refine EndsK.go (fun _ kz => XS.iadd XJ.here hx rfl (hb hby d1_11) rfl kz) ?_
      show EndsK p e below _ (T.setTop (mkF m 12 #[.val (.int w), .val (.int h), .val (.ref a), .val (.int r), o4, o5] [(.int (r + (4 : Int32)))]))
      refine EndsK.go (fun _ kz => XS.iloadN XJ.here hx rfl (hb hby d1_12) rfl kz) ?_
      show EndsK p e below _ (T.setTop (mkF m 13 #[.val (.int w), .val (.int h), .val (.ref a), .val (.int r), o4, o5] [(.int h), (.int (r + (4 : Int32)))]))
      by_cases H13_1 : h < (r + (4 : Int32))
      · have H13_1i := Int32.lt_iff_toInt_lt.mp H13_1
        refine EndsK.go (fun _ kz => XS.icmpYes XJ.here hx rfl (pc0 := 13) (pc' := 67) rfl (hb hby d1_13) rfl (tlt H13_1).2.2.1 (by decide) (by decide) kz) ?_
        show EndsK p e below _ (T.setTop (mkF m 67 #[.val (.int w), .val (.int h), .val (.ref a), .val (.int r), o4, o5] []))
        refine EndsK.go (fun _ kz => XS.aloadN XJ.here hx rfl (hb hby d1_67) rfl rfl kz) ?_
        show EndsK p e below _ (T.setTop (mkF m 68 #[.val (.int w), .val (.int h), .val (.ref a), .val (.int r), o4, o5] [(.ref a)]))
        exact endR XJ hx Bd.returns rfl rfl (hb hby d1_68) hlk ⟨a, cA, xs, rfl, N0, by rw [eJ]; exact PJ, by rw [ga]; exact hxs, by rw [eJ]; exact (GJ.same (fun j q hj hq => by first | omega | (simp only [Bk]; omega)))⟩ (by decide) (by decide)
      · have H13_1i : ¬ (h).toInt < ((r + (4 : Int32))).toInt := fun qz => H13_1 (Int32.lt_iff_toInt_lt.mpr qz)
        exfalso; have q : ¬ h.toInt < (r + (4 : Int32)).toInt := fun qz => H13_1 (Int32.lt_iff_toInt_lt.mpr qz); omega
    | succ ko ih =>
      intro r o4 o5 ho4 ho5 r0 r4 rh hk T hp XJ eJ PJ GJ
      have f7 := c_iadd r (4 : Int32)
      have f7r := rng32 (r + (4 : Int32))
      show EndsK p e below _ (T.setTop (mkF m 9 #[.val (.int w), .val (.int h), .val (.ref a), .val (.int r), o4, o5] []))
      refine EndsK.go (fun _ kz => XS.iloadN XJ.here hx rfl (hb hby d1_9) rfl kz) ?_
      show EndsK p e below _ (T.setTop (mkF m 10 #[.val (.int w), .val (.int h), .val (.ref a), .val (.int r), o4, o5] [(.int r)]))
      refine EndsK.go (fun _ kz => XS.iconst XJ.here hx rfl (hb hby d1_10) kz) ?_
      show EndsK p e below _ (T.setTop (mkF m 11 #[.val (.int w), .val (.int h), .val (.ref a), .val (.int r), o4, o5] [(.int (4 : Int32)), (.int r)]))
      refine EndsK.go (fun _ kz => XS.iadd XJ.here hx rfl (hb hby d1_11) rfl kz) ?_
      show EndsK p e below _ (T.setTop (mkF m 12 #[.val (.int w), .val (.int h), .val (.ref a), .val (.int r), o4, o5] [(.int (r + (4 : Int32)))]))
      refine EndsK.go (fun _ kz => XS.iloadN XJ.here hx rfl (hb hby d1_12) rfl kz) ?_
      show EndsK p e below _ (T.setTop (mkF m 13 #[.val (.int w), .val (.int h), .val (.ref a), .val (.int r), o4, o5] [(.int h), (.int (r + (4 : Int32)))]))
      by_cases H13_1 : h < (r + (4 : Int32))
      · have H13_1i := Int32.lt_iff_toInt_lt.mp H13_1
        refine EndsK.go (fun _ kz => XS.icmpYes XJ.here hx rfl (pc0 := 13) (pc' := 67) rfl (hb hby d1_13) rfl (tlt H13_1).2.2.1 (by decide) (by decide) kz) ?_
        show EndsK p e below _ (T.setTop (mkF m 67 #[.val (.int w), .val (.int h), .val (.ref a), .val (.int r), o4, o5] []))
        refine EndsK.go (fun _ kz => XS.aloadN XJ.here hx rfl (hb hby d1_67) rfl rfl kz) ?_
        show EndsK p e below _ (T.setTop (mkF m 68 #[.val (.int w), .val (.int h), .val (.ref a), .val (.int r), o4, o5] [(.ref a)]))
        exact endR XJ hx Bd.returns rfl rfl (hb hby d1_68) hlk ⟨a, cA, xs, rfl, N0, by rw [eJ]; exact PJ, by rw [ga]; exact hxs, by rw [eJ]; exact (GJ.same (fun j q hj hq => by first | omega | (simp only [Bk]; omega)))⟩ (by decide) (by decide)
      · have H13_1i : ¬ (h).toInt < ((r + (4 : Int32))).toInt := fun qz => H13_1 (Int32.lt_iff_toInt_lt.mpr qz)
        refine EndsK.go (fun _ kz => XS.icmpNo XJ.here hx rfl (hb hby d1_13) rfl (flt H13_1).2.2.1 kz) ?_
        show EndsK p e below _ (T.setTop (mkF m 16 #[.val (.int w), .val (.int h), .val (.ref a), .val (.int r), o4, o5] []))
        refine EndsK.go (fun _ kz => XS.iconst XJ.here hx rfl (hb hby d1_16) kz) ?_
        show EndsK p e below _ (T.setTop (mkF m 17 #[.val (.int w), .val (.int h), .val (.ref a), .val (.int r), o4, o5] [(.int (0 : Int32))]))
        refine EndsK.go (fun _ kz => XS.istoreS XJ.here hx rfl (hb hby d1_17) rfl rfl ho4 kz) ?_
        have J19 : ∀ (km : Nat) (cc : Int32) (o5 : Slot), (o5 = .unset ∨ ∃ v, o5 = .val v ∧ v.category = 1) → 0 ≤ cc.toInt → cc.toInt % 4 = 0 → cc.toInt ≤ w.toInt → w.toInt - cc.toInt < 4 * km + 4 → ∀ (T : State) (hp : Heap), Stand p l e ({ frames := 0, cells := 64, slots := 4096, locals := 0 } : Room) s m #[.int w, .int h] below meth c T [] 64 4096 → T.heap = hp → Ext h0 hp → GridP Z hp a cA h w xs (fun j q => (j % 4 = 1 ∧ (j : Int) < r.toInt ∧ q % 4 ≠ 3 ∧ (q : Int) - q % 4 + 3 < w.toInt) ∨ ((j : Int) = r.toInt + 1 ∧ q % 4 ≠ 3 ∧ (q : Int) < cc.toInt)) → EndsK p e below (OQ s (Q_bl Z w h h0 n0) (({ frames := 0, cells := 64, slots := 4096, locals := 0 } : Room)).cells (({ frames := 0, cells := 64, slots := 4096, locals := 0 } : Room)).slots) (T.setTop (mkF m 19 #[.val (.int w), .val (.int h), .val (.ref a), .val (.int r), .val (.int cc), o5] [])) := by
          intro km
          induction km with
          | zero =>
            intro cc o5 ho5 c0 c4 cw hm T hp XJ eJ PJ GJ
            have f5 := c_iadd cc (4 : Int32)
            have f5r := rng32 (cc + (4 : Int32))
            have f6 := c_iadd r (4 : Int32)
            have f6r := rng32 (r + (4 : Int32))
            show EndsK p e below _ (T.setTop (mkF m 19 #[.val (.int w), .val (.int h), .val (.ref a), .val (.int r), .val (.int cc), o5] []))
            refine EndsK.go (fun _ kz => XS.iload XJ.here hx rfl (hb hby d1_19) rfl kz) ?_
            show EndsK p e below _ (T.setTop (mkF m 21 #[.val (.int w), .val (.int h), .val (.ref a), .val (.int r), .val (.int cc), o5] [(.int cc)]))
            refine EndsK.go (fun _ kz => XS.iconst XJ.here hx rfl (hb hby d1_21) kz) ?_
            show EndsK p e below _ (T.setTop (mkF m 22 #[.val (.int w), .val (.int h), .val (.ref a), .val (.int r), .val (.int cc), o5] [(.int (4 : Int32)), (.int cc)]))
            refine EndsK.go (fun _ kz => XS.iadd XJ.here hx rfl (hb hby d1_22) rfl kz) ?_
            show EndsK p e below _ (T.setTop (mkF m 23 #[.val (.int w), .val (.int h), .val (.ref a), .val (.int r), .val (.int cc), o5] [(.int (cc + (4 : Int32)))]))
            refine EndsK.go (fun _ kz => XS.iloadN XJ.here hx rfl (hb hby d1_23) rfl kz) ?_
            show EndsK p e below _ (T.setTop (mkF m 24 #[.val (.int w), .val (.int h), .val (.ref a), .val (.int r), .val (.int cc), o5] [(.int w), (.int (cc + (4 : Int32)))]))
            by_cases H24_1 : w < (cc + (4 : Int32))
            · have H24_1i := Int32.lt_iff_toInt_lt.mp H24_1
              refine EndsK.go (fun _ kz => XS.icmpYes XJ.here hx rfl (pc0 := 24) (pc' := 61) rfl (hb hby d1_24) rfl (tlt H24_1).2.2.1 (by decide) (by decide) kz) ?_
              show EndsK p e below _ (T.setTop (mkF m 61 #[.val (.int w), .val (.int h), .val (.ref a), .val (.int r), .val (.int cc), o5] []))
              refine EndsK.go (fun _ kz => XS.iinc XJ.here hx rfl (hb hby d1_61) rfl (l' := #[.val (.int w), .val (.int h), .val (.ref a), .val (.int (r + (4 : Int32))), .val (.int cc), o5]) rfl kz) ?_
              show EndsK p e below _ (T.setTop (mkF m 64 #[.val (.int w), .val (.int h), .val (.ref a), .val (.int (r + (4 : Int32))), .val (.int cc), o5] []))
              refine EndsK.go (fun _ kz => XS.goto XJ.here hx rfl (pc0 := 64) (pc' := 9) rfl (hb hby d1_64) (by decide) (by decide) kz) ?_
              refine ih (r + 4) _ _ (Or.inr ⟨_, rfl, rfl⟩) ho5 (by omega) (by omega) (by omega) (by omega) T hp XJ eJ PJ (GJ.same (fun j q hj hq => by first | omega | (simp only [Bk]; omega)))
            · have H24_1i : ¬ (w).toInt < ((cc + (4 : Int32))).toInt := fun qz => H24_1 (Int32.lt_iff_toInt_lt.mpr qz)
              exfalso; have q : ¬ w.toInt < (cc + (4 : Int32)).toInt := fun qz => H24_1 (Int32.lt_iff_toInt_lt.mpr qz); omega
          | succ km ihm =>
            intro cc o5 ho5 c0 c4 cw hm T hp XJ eJ PJ GJ
            have f5 := c_iadd cc (4 : Int32)
            have f5r := rng32 (cc + (4 : Int32))
            have f6 := c_iadd r (4 : Int32)
            have f6r := rng32 (r + (4 : Int32))
            show EndsK p e below _ (T.setTop (mkF m 19 #[.val (.int w), .val (.int h), .val (.ref a), .val (.int r), .val (.int cc), o5] []))
            refine EndsK.go (fun _ kz => XS.iload XJ.here hx rfl (hb hby d1_19) rfl kz) ?_
            show EndsK p e below _ (T.setTop (mkF m 21 #[.val (.int w), .val (.int h), .val (.ref a), .val (.int r), .val (.int cc), o5] [(.int cc)]))
            refine EndsK.go (fun _ kz => XS.iconst XJ.here hx rfl (hb hby d1_21) kz) ?_
            show EndsK p e below _ (T.setTop (mkF m 22 #[.val (.int w), .val (.int h), .val (.ref a), .val (.int r), .val (.int cc), o5] [(.int (4 : Int32)), (.int cc)]))
            refine EndsK.go (fun _ kz => XS.iadd XJ.here hx rfl (hb hby d1_22) rfl kz) ?_
            show EndsK p e below _ (T.setTop (mkF m 23 #[.val (.int w), .val (.int h), .val (.ref a), .val (.int r), .val (.int cc), o5] [(.int (cc + (4 : Int32)))]))
            refine EndsK.go (fun _ kz => XS.iloadN XJ.here hx rfl (hb hby d1_23) rfl kz) ?_
            show EndsK p e below _ (T.setTop (mkF m 24 #[.val (.int w), .val (.int h), .val (.ref a), .val (.int r), .val (.int cc), o5] [(.int w), (.int (cc + (4 : Int32)))]))
            by_cases H24_1 : w < (cc + (4 : Int32))
            · have H24_1i := Int32.lt_iff_toInt_lt.mp H24_1
              refine EndsK.go (fun _ kz => XS.icmpYes XJ.here hx rfl (pc0 := 24) (pc' := 61) rfl (hb hby d1_24) rfl (tlt H24_1).2.2.1 (by decide) (by decide) kz) ?_
              show EndsK p e below _ (T.setTop (mkF m 61 #[.val (.int w), .val (.int h), .val (.ref a), .val (.int r), .val (.int cc), o5] []))
              refine EndsK.go (fun _ kz => XS.iinc XJ.here hx rfl (hb hby d1_61) rfl (l' := #[.val (.int w), .val (.int h), .val (.ref a), .val (.int (r + (4 : Int32))), .val (.int cc), o5]) rfl kz) ?_
              show EndsK p e below _ (T.setTop (mkF m 64 #[.val (.int w), .val (.int h), .val (.ref a), .val (.int (r + (4 : Int32))), .val (.int cc), o5] []))
              refine EndsK.go (fun _ kz => XS.goto XJ.here hx rfl (pc0 := 64) (pc' := 9) rfl (hb hby d1_64) (by decide) (by decide) kz) ?_
              refine ih (r + 4) _ _ (Or.inr ⟨_, rfl, rfl⟩) ho5 (by omega) (by omega) (by omega) (by omega) T hp XJ eJ PJ (GJ.same (fun j q hj hq => by first | omega | (simp only [Bk]; omega)))
            · have H24_1i : ¬ (w).toInt < ((cc + (4 : Int32))).toInt := fun qz => H24_1 (Int32.lt_iff_toInt_lt.mpr qz)
              refine EndsK.go (fun _ kz => XS.icmpNo XJ.here hx rfl (hb hby d1_24) rfl (flt H24_1).2.2.1 kz) ?_
              show EndsK p e below _ (T.setTop (mkF m 27 #[.val (.int w), .val (.int h), .val (.ref a), .val (.int r), .val (.int cc), o5] []))
              refine EndsK.go (fun _ kz => XS.iload XJ.here hx rfl (hb hby d1_27) rfl kz) ?_
              show EndsK p e below _ (T.setTop (mkF m 29 #[.val (.int w), .val (.int h), .val (.ref a), .val (.int r), .val (.int cc), o5] [(.int cc)]))
              refine EndsK.go (fun _ kz => XS.istoreS XJ.here hx rfl (hb hby d1_29) rfl rfl ho5 kz) ?_
              have J31 : ∀ (ki : Nat) (i : Int32), i.toInt + ki = cc.toInt + 3 → cc.toInt ≤ i.toInt → ∀ (T : State) (hp : Heap), Stand p l e ({ frames := 0, cells := 64, slots := 4096, locals := 0 } : Room) s m #[.int w, .int h] below meth c T [] 64 4096 → T.heap = hp → Ext h0 hp → GridP Z hp a cA h w xs (fun j q => ((j % 4 = 1 ∧ (j : Int) < r.toInt ∧ q % 4 ≠ 3 ∧ (q : Int) - q % 4 + 3 < w.toInt) ∨ ((j : Int) = r.toInt + 1 ∧ q % 4 ≠ 3 ∧ (q : Int) < cc.toInt)) ∨ ((j : Int) = r.toInt + 1 ∧ cc.toInt ≤ q ∧ (q : Int) < i.toInt)) → EndsK p e below (OQ s (Q_bl Z w h h0 n0) (({ frames := 0, cells := 64, slots := 4096, locals := 0 } : Room)).cells (({ frames := 0, cells := 64, slots := 4096, locals := 0 } : Room)).slots) (T.setTop (mkF m 31 #[.val (.int w), .val (.int h), .val (.ref a), .val (.int r), .val (.int cc), .val (.int i)] [])) := by
                intro ki
                induction ki with
                | zero =>
                  intro i hi hci T hp XJ eJ PJ GJ
                  have f1 := c_iadd cc (3 : Int32)
                  have f1r := rng32 (cc + (3 : Int32))
                  have f2 := c_iadd cc (4 : Int32)
                  have f2r := rng32 (cc + (4 : Int32))
                  have f3 := c_iadd i (1 : Int32)
                  have f3r := rng32 (i + (1 : Int32))
                  have f4 := c_iadd r (1 : Int32)
                  have f4r := rng32 (r + (1 : Int32))
                  show EndsK p e below _ (T.setTop (mkF m 31 #[.val (.int w), .val (.int h), .val (.ref a), .val (.int r), .val (.int cc), .val (.int i)] []))
                  refine EndsK.go (fun _ kz => XS.iload XJ.here hx rfl (hb hby d1_31) rfl kz) ?_
                  show EndsK p e below _ (T.setTop (mkF m 33 #[.val (.int w), .val (.int h), .val (.ref a), .val (.int r), .val (.int cc), .val (.int i)] [(.int i)]))
                  refine EndsK.go (fun _ kz => XS.iload XJ.here hx rfl (hb hby d1_33) rfl kz) ?_
                  show EndsK p e below _ (T.setTop (mkF m 35 #[.val (.int w), .val (.int h), .val (.ref a), .val (.int r), .val (.int cc), .val (.int i)] [(.int cc), (.int i)]))
                  refine EndsK.go (fun _ kz => XS.iconst XJ.here hx rfl (hb hby d1_35) kz) ?_
                  show EndsK p e below _ (T.setTop (mkF m 36 #[.val (.int w), .val (.int h), .val (.ref a), .val (.int r), .val (.int cc), .val (.int i)] [(.int (3 : Int32)), (.int cc), (.int i)]))
                  refine EndsK.go (fun _ kz => XS.iadd XJ.here hx rfl (hb hby d1_36) rfl kz) ?_
                  show EndsK p e below _ (T.setTop (mkF m 37 #[.val (.int w), .val (.int h), .val (.ref a), .val (.int r), .val (.int cc), .val (.int i)] [(.int (cc + (3 : Int32))), (.int i)]))
                  by_cases H37_1 : i < (cc + (3 : Int32))
                  · have H37_1i := Int32.lt_iff_toInt_lt.mp H37_1
                    exfalso; have q := Int32.lt_iff_toInt_lt.mp H37_1; omega
                  · have H37_1i : ¬ (i).toInt < ((cc + (3 : Int32))).toInt := fun qz => H37_1 (Int32.lt_iff_toInt_lt.mpr qz)
                    refine EndsK.go (fun _ kz => XS.icmpYes XJ.here hx rfl (pc0 := 37) (pc' := 55) rfl (hb hby d1_37) rfl (flt H37_1).2.1 (by decide) (by decide) kz) ?_
                    show EndsK p e below _ (T.setTop (mkF m 55 #[.val (.int w), .val (.int h), .val (.ref a), .val (.int r), .val (.int cc), .val (.int i)] []))
                    refine EndsK.go (fun _ kz => XS.iinc XJ.here hx rfl (hb hby d1_55) rfl (l' := #[.val (.int w), .val (.int h), .val (.ref a), .val (.int r), .val (.int (cc + (4 : Int32))), .val (.int i)]) rfl kz) ?_
                    show EndsK p e below _ (T.setTop (mkF m 58 #[.val (.int w), .val (.int h), .val (.ref a), .val (.int r), .val (.int (cc + (4 : Int32))), .val (.int i)] []))
                    refine EndsK.go (fun _ kz => XS.goto XJ.here hx rfl (pc0 := 58) (pc' := 19) rfl (hb hby d1_58) (by decide) (by decide) kz) ?_
                    refine ihm (cc + 4) _ (Or.inr ⟨_, rfl, rfl⟩) (by omega) (by omega) (by omega) (by omega) T hp XJ eJ PJ (GJ.same (fun j q hj hq => by first | omega | (simp only [Bk]; omega)))
                | succ ki ihi =>
                  intro i hi hci T hp XJ eJ PJ GJ
                  have f1 := c_iadd cc (3 : Int32)
                  have f1r := rng32 (cc + (3 : Int32))
                  have f2 := c_iadd cc (4 : Int32)
                  have f2r := rng32 (cc + (4 : Int32))
                  have f3 := c_iadd i (1 : Int32)
                  have f3r := rng32 (i + (1 : Int32))
                  have f4 := c_iadd r (1 : Int32)
                  have f4r := rng32 (r + (1 : Int32))
                  show EndsK p e below _ (T.setTop (mkF m 31 #[.val (.int w), .val (.int h), .val (.ref a), .val (.int r), .val (.int cc), .val (.int i)] []))
                  refine EndsK.go (fun _ kz => XS.iload XJ.here hx rfl (hb hby d1_31) rfl kz) ?_
                  show EndsK p e below _ (T.setTop (mkF m 33 #[.val (.int w), .val (.int h), .val (.ref a), .val (.int r), .val (.int cc), .val (.int i)] [(.int i)]))
                  refine EndsK.go (fun _ kz => XS.iload XJ.here hx rfl (hb hby d1_33) rfl kz) ?_
                  show EndsK p e below _ (T.setTop (mkF m 35 #[.val (.int w), .val (.int h), .val (.ref a), .val (.int r), .val (.int cc), .val (.int i)] [(.int cc), (.int i)]))
                  refine EndsK.go (fun _ kz => XS.iconst XJ.here hx rfl (hb hby d1_35) kz) ?_
                  show EndsK p e below _ (T.setTop (mkF m 36 #[.val (.int w), .val (.int h), .val (.ref a), .val (.int r), .val (.int cc), .val (.int i)] [(.int (3 : Int32)), (.int cc), (.int i)]))
                  refine EndsK.go (fun _ kz => XS.iadd XJ.here hx rfl (hb hby d1_36) rfl kz) ?_
                  show EndsK p e below _ (T.setTop (mkF m 37 #[.val (.int w), .val (.int h), .val (.ref a), .val (.int r), .val (.int cc), .val (.int i)] [(.int (cc + (3 : Int32))), (.int i)]))
                  by_cases H37_1 : i < (cc + (3 : Int32))
                  · have H37_1i := Int32.lt_iff_toInt_lt.mp H37_1
                    refine EndsK.go (fun _ kz => XS.icmpNo XJ.here hx rfl (hb hby d1_37) rfl (tlt H37_1).2.1 kz) ?_
                    show EndsK p e below _ (T.setTop (mkF m 40 #[.val (.int w), .val (.int h), .val (.ref a), .val (.int r), .val (.int cc), .val (.int i)] []))
                    refine EndsK.go (fun _ kz => XS.aloadN XJ.here hx rfl (hb hby d1_40) rfl rfl kz) ?_
                    show EndsK p e below _ (T.setTop (mkF m 41 #[.val (.int w), .val (.int h), .val (.ref a), .val (.int r), .val (.int cc), .val (.int i)] [(.ref a)]))
                    refine EndsK.go (fun _ kz => XS.iloadN XJ.here hx rfl (hb hby d1_41) rfl kz) ?_
                    show EndsK p e below _ (T.setTop (mkF m 42 #[.val (.int w), .val (.int h), .val (.ref a), .val (.int r), .val (.int cc), .val (.int i)] [(.int r), (.ref a)]))
                    refine EndsK.go (fun _ kz => XS.iconst XJ.here hx rfl (hb hby d1_42) kz) ?_
                    show EndsK p e below _ (T.setTop (mkF m 43 #[.val (.int w), .val (.int h), .val (.ref a), .val (.int r), .val (.int cc), .val (.int i)] [(.int (1 : Int32)), (.int r), (.ref a)]))
                    refine EndsK.go (fun _ kz => XS.iadd XJ.here hx rfl (hb hby d1_43) rfl kz) ?_
                    show EndsK p e below _ (T.setTop (mkF m 44 #[.val (.int w), .val (.int h), .val (.ref a), .val (.int r), .val (.int cc), .val (.int i)] [(.int (r + (1 : Int32))), (.ref a)]))
                    obtain ⟨cO, AO, qO1, qO2, qO3, HO, GO⟩ := id GJ.1
                    have inr : ¬ (r + (1 : Int32)) < 0 ∧ (r + (1 : Int32)) < h := by simp only [Int32.lt_iff_toInt_lt]; omega
                    have k1 := own_nat (x := r + (1 : Int32)) (by omega)
                    have k2 := own_nat (x := i) (by omega)
                    have k3 := own_nat (x := h) hh0
                    have k4 := own_nat (x := w) hw0
                    obtain ⟨v1, v2⟩ := own_row hxs (k := (r + (1 : Int32)).toNatClampNeg) (by omega)
                    obtain ⟨y, ey⟩ : ∃ z, z = h0.size + 1 + (r + (1 : Int32)).toNatClampNeg := ⟨_, rfl⟩
                    rw [← ey] at v1 v2
                    obtain ⟨cl, AR, SR, RR⟩ := GJ.2 _ _ v1
                    show EndsK p e below _ (T.setTop (mkF m 44 #[.val (.int w), .val (.int h), .val (.ref a), .val (.int r), .val (.int cc), .val (.int i)] [(.int (r + (1 : Int32))), (.ref a)]))
                    refine EndsK.go (fun tz kz => XJ.aaload hx (j := (r + (1 : Int32))) (v := (.ref y)) (by rw [eJ]; exact AO.1) (State.isArrayOf_alike hZ.alike AO.2.1) rfl AO.2.2 (inb_of qO2 inr) (Has.at HO (inb_of qO2 inr) v2) (g := (mkF m 44 #[.val (.int w), .val (.int h), .val (.ref a), .val (.int r), .val (.int cc), .val (.int i)] [(.int (r + (1 : Int32))), (.ref a)])) rfl rfl (hb hby d1_44) tz kz) ?_
                    show EndsK p e below _ (T.setTop (mkF m 45 #[.val (.int w), .val (.int h), .val (.ref a), .val (.int r), .val (.int cc), .val (.int i)] [(.ref y)]))
                    refine EndsK.go (fun _ kz => XS.iload XJ.here hx rfl (hb hby d1_45) rfl kz) ?_
                    show EndsK p e below _ (T.setTop (mkF m 47 #[.val (.int w), .val (.int h), .val (.ref a), .val (.int r), .val (.int cc), .val (.int i)] [(.int i), (.ref y)]))
                    refine EndsK.go (fun _ kz => XS.iconst XJ.here hx rfl (hb hby d1_47) kz) ?_
                    show EndsK p e below _ (T.setTop (mkF m 48 #[.val (.int w), .val (.int h), .val (.ref a), .val (.int r), .val (.int cc), .val (.int i)] [(.int (1 : Int32)), (.int i), (.ref y)]))
                    obtain ⟨T5, h5, X5, e5, W5, st5⟩ := stZ XJ hx hZ eJ AR (j := i) (inb_of SR (by simp only [Int32.lt_iff_toInt_lt]; omega)) (g := (mkF m 48 #[.val (.int w), .val (.int h), .val (.ref a), .val (.int r), .val (.int cc), .val (.int i)] [(.int (1 : Int32)), (.int i), (.ref y)])) rfl rfl (hb hby d1_48)
                    have sy : h0.size ≤ y := by omega
                    have Y5 : Stand p l e ({ frames := 0, cells := 64, slots := 4096, locals := 0 } : Room) s m #[.int w, .int h] below meth c T5 [] 64 4096 := X5.dropFresh (fun xz hxz => by cases List.mem_singleton.mp hxz; rw [hh]; exact sy)
                    have P5 := ext_wr PJ W5 sy
                    have GS := GridP.set (N := h.toNatClampNeg) hxs ga GJ v1 W5
                    refine EndsK.go st5 ?_
                    show EndsK p e below _ (T5.setTop (mkF m 49 #[.val (.int w), .val (.int h), .val (.ref a), .val (.int r), .val (.int cc), .val (.int i)] []))
                    refine EndsK.go (fun _ kz => XS.iinc Y5.here hx rfl (hb hby d1_49) rfl (l' := #[.val (.int w), .val (.int h), .val (.ref a), .val (.int r), .val (.int cc), .val (.int (i + (1 : Int32)))]) rfl kz) ?_
                    show EndsK p e below _ (T5.setTop (mkF m 52 #[.val (.int w), .val (.int h), .val (.ref a), .val (.int r), .val (.int cc), .val (.int (i + (1 : Int32)))] []))
                    refine EndsK.go (fun _ kz => XS.goto Y5.here hx rfl (pc0 := 52) (pc' := 31) rfl (hb hby d1_52) (by decide) (by decide) kz) ?_
                    refine ihi (i + 1) (by omega) (by omega) T5 h5 Y5 e5 P5 (GS.same (fun j q hj hq => by omega))
                  · have H37_1i : ¬ (i).toInt < ((cc + (3 : Int32))).toInt := fun qz => H37_1 (Int32.lt_iff_toInt_lt.mpr qz)
                    refine EndsK.go (fun _ kz => XS.icmpYes XJ.here hx rfl (pc0 := 37) (pc' := 55) rfl (hb hby d1_37) rfl (flt H37_1).2.1 (by decide) (by decide) kz) ?_
                    show EndsK p e below _ (T.setTop (mkF m 55 #[.val (.int w), .val (.int h), .val (.ref a), .val (.int r), .val (.int cc), .val (.int i)] []))
                    refine EndsK.go (fun _ kz => XS.iinc XJ.here hx rfl (hb hby d1_55) rfl (l' := #[.val (.int w), .val (.int h), .val (.ref a), .val (.int r), .val (.int (cc + (4 : Int32))), .val (.int i)]) rfl kz) ?_
                    show EndsK p e below _ (T.setTop (mkF m 58 #[.val (.int w), .val (.int h), .val (.ref a), .val (.int r), .val (.int (cc + (4 : Int32))), .val (.int i)] []))
                    refine EndsK.go (fun _ kz => XS.goto XJ.here hx rfl (pc0 := 58) (pc' := 19) rfl (hb hby d1_58) (by decide) (by decide) kz) ?_
                    refine ihm (cc + 4) _ (Or.inr ⟨_, rfl, rfl⟩) (by omega) (by omega) (by omega) (by omega) T hp XJ eJ PJ (GJ.same (fun j q hj hq => by first | omega | (simp only [Bk]; omega)))
              refine J31 3 cc (by omega) (by omega) T hp XJ eJ PJ (GJ.same (fun j q hj hq => by first | omega | (simp only [Bk]; omega)))
        refine J19 16 (0 : Int32) _ ho5 (by omega) (by omega) (by omega) (by omega) T hp XJ eJ PJ (GJ.same (fun j q hj hq => by first | omega | (simp only [Bk]; omega)))
  refine J9 15 (0 : Int32) _ _ (Or.inl rfl) (Or.inl rfl) (by omega) (by omega) (by omega) (by omega) T1 h1 Y1 e1 E1 (G1.same (fun j q hj hq => ⟨fun z => z.elim, fun z => by omega⟩))
theorem d2_0 : decode method_3_code 0 = .ok (.iload_n 3, 1) := by decide +kernel
theorem d2_1 : decode method_3_code 1 = .ok (.ldc 19, 2) := by decide +kernel
theorem d2_3 : decode method_3_code 3 = .ok (.iand, 1) := by decide +kernel
theorem d2_4 : decode method_3_code 4 = .ok (.iload_n 2, 1) := by decide +kernel
theorem d2_5 : decode method_3_code 5 = .ok (.irem, 1) := by decide +kernel
theorem d2_6 : decode method_3_code 6 = .ok (.istore 5, 2) := by decide +kernel
theorem d2_8 : decode method_3_code 8 = .ok (.aload_n 0, 1) := by decide +kernel
theorem d2_9 : decode method_3_code 9 = .ok (.iload 5, 2) := by decide +kernel
theorem d2_11 : decode method_3_code 11 = .ok (.aaload, 1) := by decide +kernel
theorem d2_12 : decode method_3_code 12 = .ok (.astore 6, 2) := by decide +kernel
theorem d2_14 : decode method_3_code 14 = .ok (.aload 6, 2) := by decide +kernel
theorem d2_16 : decode method_3_code 16 = .ok (.ifnull 10, 3) := by decide +kernel
theorem d2_19 : decode method_3_code 19 = .ok (.aload 6, 2) := by decide +kernel
theorem d2_21 : decode method_3_code 21 = .ok (.arraylength, 1) := by decide +kernel
theorem d2_22 : decode method_3_code 22 = .ok (.iload_n 1, 1) := by decide +kernel
theorem d2_23 : decode method_3_code 23 = .ok (.if_icmp .eq 5, 3) := by decide +kernel
theorem d2_26 : decode method_3_code 26 = .ok (.iconst 0, 1) := by decide +kernel
theorem d2_27 : decode method_3_code 27 = .ok (.ireturn, 1) := by decide +kernel
theorem d2_28 : decode method_3_code 28 = .ok (.iload_n 1, 1) := by decide +kernel
theorem d2_29 : decode method_3_code 29 = .ok (.ifCond .ne 5, 3) := by decide +kernel
theorem d2_32 : decode method_3_code 32 = .ok (.iconst 1, 1) := by decide +kernel
theorem d2_33 : decode method_3_code 33 = .ok (.ireturn, 1) := by decide +kernel
theorem d2_34 : decode method_3_code 34 = .ok (.iload 4, 2) := by decide +kernel
theorem d2_36 : decode method_3_code 36 = .ok (.ldc 19, 2) := by decide +kernel
theorem d2_38 : decode method_3_code 38 = .ok (.iand, 1) := by decide +kernel
theorem d2_39 : decode method_3_code 39 = .ok (.iload_n 1, 1) := by decide +kernel
theorem d2_40 : decode method_3_code 40 = .ok (.irem, 1) := by decide +kernel
theorem d2_41 : decode method_3_code 41 = .ok (.istore 7, 2) := by decide +kernel
theorem d2_43 : decode method_3_code 43 = .ok (.aload 6, 2) := by decide +kernel
theorem d2_45 : decode method_3_code 45 = .ok (.iload 7, 2) := by decide +kernel
theorem d2_47 : decode method_3_code 47 = .ok (.baload, 1) := by decide +kernel
theorem d2_48 : decode method_3_code 48 = .ok (.iload 5, 2) := by decide +kernel
theorem d2_50 : decode method_3_code 50 = .ok (.iload 7, 2) := by decide +kernel
theorem d2_52 : decode method_3_code 52 = .ok (.iload_n 1, 1) := by decide +kernel
theorem d2_53 : decode method_3_code 53 = .ok (.iload_n 2, 1) := by decide +kernel
theorem d2_54 : decode method_3_code 54 = .ok (.invokestatic 20, 3) := by decide +kernel
theorem d2_57 : decode method_3_code 57 = .ok (.if_icmp .ne 7, 3) := by decide +kernel
theorem d2_60 : decode method_3_code 60 = .ok (.iconst 1, 1) := by decide +kernel
theorem d2_61 : decode method_3_code 61 = .ok (.goto 4, 3) := by decide +kernel
theorem d2_64 : decode method_3_code 64 = .ok (.iconst 0, 1) := by decide +kernel
theorem d2_65 : decode method_3_code 65 = .ok (.ireturn, 1) := by decide +kernel
theorem ef_pb (m : MethodId) (b : Addr) (w : Int32) (h : Int32) (rs : Int32) (cs : Int32) (cA : ClassId) (xs : List Addr) : entryFrame m #[(.ref b), (.int w), (.int h), (.int rs), (.int cs)] 8 = mkF m 0 #[.val (.ref b), .val (.int w), .val (.int h), .val (.int rs), .val (.int cs), .unset, .unset, .unset] [] := by first | (simp [entryFrame, mkF, argsToLocals, Value.category]; done) | rfl
def Q_pb (Z : State) (b : Addr) (w : Int32) (h : Int32) (rs : Int32) (cs : Int32) (cA : ClassId) (xs : List Addr) (h0 : Heap) (n0 : Nat) (vz : Option Value) (hz : Heap) (Lz : List Loc) : Prop := vz = some (.int 1) ∧ Fr n0 Lz ∧ hz = h0
theorem pd0 : parseMethodDescriptor "(IIII)Z" = some ⟨[.int, .int, .int, .int], some .boolean⟩ := by decide +kernel
set_option maxRecDepth 65536 in
set_option maxHeartbeats 40000000 in
theorem rm_pb (l : Launch) (Z : State) (a0 : Array Value) (hw : ∀ d ∈ tables_1, d.before a0 Z = true) (ws : List Jvm.Cond) (b : Addr) (w : Int32) (h : Int32) (rs : Int32) (cs : Int32) (cA : ClassId) (xs : List Addr) (h0 : Heap) (n0 : Nat) (Z0 : n0 ≤ h0.size) (hw0 : 0 ≤ w.toInt) (hw1 : w.toInt ≤ 63) (hh0 : 0 < h.toInt) (hh1 : h.toInt ≤ 63) (hxs : xs = (List.range h.toNatClampNeg).map (fun j => b + 1 + j)) (GG : GridP Z h0 b cA h w xs (Bk w h)) :
    MetFree l (⟨"tidewell/probe/GenerationsBlinkersPinLaw", "probe", "([[ZIIII)Z"⟩ : MethodName) (head1 (Jvm.Cond.code (⟨"tidewell/probe/GenerationsBlinkersPinLaw", "probe", "([[ZIIII)Z"⟩ : MethodName) method_3_code 8 (some .boolean) :: ws) ({ frames := 1, cells := 0, slots := 0, locals := 16 } : Room)) (fun az Uz => az = #[(.ref b), (.int w), (.int h), (.int rs), (.int cs)] ∧ Z.Warmed39 Uz.vm ∧ Uz.heap = h0) (fun _ _ _ _ _ => True) (fun _ Uz oz Ut => ∃ vz Lz, oz = .returned vz ∧ Q_pb Z b w h rs cs cA xs h0 n0 vz Ut.heap Lz ∧ FrameEnd Uz oz Ut Lz (({ frames := 1, cells := 0, slots := 0, locals := 16 } : Room)).cells (({ frames := 1, cells := 0, slots := 0, locals := 16 } : Room)).slots) := by
  refine MetFree.of_bodySF (plainFor_of_name pn0) hisR ?_
  intro p e s m args below meth c s₁ Bd hml0 hP hK
  obtain ⟨rfl, hZ, hh⟩ := hP
  have hx := Bd.exec
  have hby := Bd.bytes
  have hml : c.maxLocals = 8 := hml0
  have hown : s.vm.findClass "tidewell/probe/GenerationsBlinkersPinLaw" = some m.cls := findClass_of_methodNamed Bd.named
  have hnm := (name_of_methodNamed Bd.named Bd.method).1
  have hlk : meth.locks = false := Bd.notSynchronized
  have X0 : Stand p l e ({ frames := 1, cells := 0, slots := 0, locals := 16 } : Room) s m #[(.ref b), (.int w), (.int h), (.int rs), (.int cs)] below meth c s₁ [] 0 0 := Stand.of_body Bd
  have e0 : s₁.heap = h0 := by rw [← hh, Bd.state]; rfl
  have N0 := Fr.nil n0
  show EndsK p e below (OQ s (Q_pb Z b w h rs cs cA xs h0 n0) (({ frames := 1, cells := 0, slots := 0, locals := 16 } : Room)).cells (({ frames := 1, cells := 0, slots := 0, locals := 16 } : Room)).slots) (s₁.setTop (entryFrame m #[(.ref b), (.int w), (.int h), (.int rs), (.int cs)] 8))
  refine EndsK.start (ef_pb m b w h rs cs cA xs) ?_
  have hnz : h ≠ 0 := fun q => by have q2 := congrArg Int32.toInt q; have z0 : (0 : Int32).toInt = 0 := rfl; omega
  show EndsK p e below _ (s₁.setTop (mkF m 0 #[.val (.ref b), .val (.int w), .val (.int h), .val (.int rs), .val (.int cs), .unset, .unset, .unset] []))
  refine EndsK.go (fun _ kz => XS.iloadN X0.here hx rfl (hb hby d2_0) rfl kz) ?_
  show EndsK p e below _ (s₁.setTop (mkF m 1 #[.val (.ref b), .val (.int w), .val (.int h), .val (.int rs), .val (.int cs), .unset, .unset, .unset] [(.int rs)]))
  refine EndsK.go (fun _ kz => X0.ldcI hx hown (mvT hZ (hw _ (List.mem_of_getElem? (i := 11) rfl))) rfl (hb hby d2_1) kz) ?_
  show EndsK p e below _ (s₁.setTop (mkF m 3 #[.val (.ref b), .val (.int w), .val (.int h), .val (.int rs), .val (.int cs), .unset, .unset, .unset] [(.int (2147483647 : Int32)), (.int rs)]))
  refine EndsK.go (fun _ kz => XS.iand X0.here hx rfl (hb hby d2_3) rfl kz) ?_
  show EndsK p e below _ (s₁.setTop (mkF m 4 #[.val (.ref b), .val (.int w), .val (.int h), .val (.int rs), .val (.int cs), .unset, .unset, .unset] [(.int (rs &&& (2147483647 : Int32)))]))
  refine EndsK.go (fun _ kz => XS.iloadN X0.here hx rfl (hb hby d2_4) rfl kz) ?_
  show EndsK p e below _ (s₁.setTop (mkF m 5 #[.val (.ref b), .val (.int w), .val (.int h), .val (.int rs), .val (.int cs), .unset, .unset, .unset] [(.int h), (.int (rs &&& (2147483647 : Int32)))]))
  refine EndsK.go (fun _ kz => iremM X0 hx rfl (hb hby d2_5) rfl hnz kz) ?_
  show EndsK p e below _ (s₁.setTop (mkF m 6 #[.val (.ref b), .val (.int w), .val (.int h), .val (.int rs), .val (.int cs), .unset, .unset, .unset] [(.int ((rs &&& (2147483647 : Int32)) % h))]))
  refine EndsK.go (fun _ kz => XS.istore X0.here hx rfl (hb hby d2_6) rfl (l' := #[.val (.ref b), .val (.int w), .val (.int h), .val (.int rs), .val (.int cs), .val (.int ((rs &&& (2147483647 : Int32)) % h)), .unset, .unset]) rfl kz) ?_
  show EndsK p e below _ (s₁.setTop (mkF m 8 #[.val (.ref b), .val (.int w), .val (.int h), .val (.int rs), .val (.int cs), .val (.int ((rs &&& (2147483647 : Int32)) % h)), .unset, .unset] []))
  have b1 := c_mask rs 2147483647 31 (by decide) (by decide)
  have b2 := c_iremV (rs &&& 2147483647) h
  have br : 0 ≤ (((rs &&& (2147483647 : Int32)) % h)).toInt ∧ (((rs &&& (2147483647 : Int32)) % h)).toInt < h.toInt := by omega
  obtain ⟨r, er⟩ : ∃ z, z = ((rs &&& (2147483647 : Int32)) % h) := ⟨_, rfl⟩
  rw [← er] at br ⊢
  have kr := own_nat br.1
  have kh := own_nat (x := h) (by omega)
  obtain ⟨cO, AO, qO1, qO2, qO3, HO, GO⟩ := GG.1
  obtain ⟨v1, v2⟩ := own_row hxs (k := r.toNatClampNeg) (by omega)
  obtain ⟨cl, AR, SR, RR⟩ := GG.2 _ _ v1
  have inr : ¬ r < 0 ∧ r < h := by simp only [Int32.lt_iff_toInt_lt]; have z0 : (0 : Int32).toInt = 0 := rfl; omega
  obtain ⟨y, ey⟩ : ∃ z, z = b + 1 + r.toNatClampNeg := ⟨_, rfl⟩
  rw [← ey] at v1 v2 AR
  show EndsK p e below _ (s₁.setTop (mkF m 8 #[.val (.ref b), .val (.int w), .val (.int h), .val (.int rs), .val (.int cs), .val (.int r), .unset, .unset] []))
  refine EndsK.go (fun _ kz => XS.aloadN X0.here hx rfl (hb hby d2_8) rfl rfl kz) ?_
  show EndsK p e below _ (s₁.setTop (mkF m 9 #[.val (.ref b), .val (.int w), .val (.int h), .val (.int rs), .val (.int cs), .val (.int r), .unset, .unset] [(.ref b)]))
  refine EndsK.go (fun _ kz => XS.iload X0.here hx rfl (hb hby d2_9) rfl kz) ?_
  show EndsK p e below _ (s₁.setTop (mkF m 11 #[.val (.ref b), .val (.int w), .val (.int h), .val (.int rs), .val (.int cs), .val (.int r), .unset, .unset] [(.int r), (.ref b)]))
  refine EndsK.go (fun tz kz => X0.aaload hx (j := r) (v := (.ref y)) (by rw [e0]; exact AO.1) (State.isArrayOf_alike hZ.alike AO.2.1) rfl AO.2.2 (inb_of qO2 inr) (Has.at HO (inb_of qO2 inr) v2) (g := (mkF m 11 #[.val (.ref b), .val (.int w), .val (.int h), .val (.int rs), .val (.int cs), .val (.int r), .unset, .unset] [(.int r), (.ref b)])) rfl rfl (hb hby d2_11) tz kz) ?_
  show EndsK p e below _ (s₁.setTop (mkF m 12 #[.val (.ref b), .val (.int w), .val (.int h), .val (.int rs), .val (.int cs), .val (.int r), .unset, .unset] [(.ref y)]))
  refine EndsK.go (fun _ kz => XS.astore X0.here hx rfl (hb hby d2_12) rfl rfl (l' := #[.val (.ref b), .val (.int w), .val (.int h), .val (.int rs), .val (.int cs), .val (.int r), .val (.ref y), .unset]) rfl kz) ?_
  show EndsK p e below _ (s₁.setTop (mkF m 14 #[.val (.ref b), .val (.int w), .val (.int h), .val (.int rs), .val (.int cs), .val (.int r), .val (.ref y), .unset] []))
  refine EndsK.go (fun _ kz => XS.aload X0.here hx rfl (hb hby d2_14) rfl rfl kz) ?_
  show EndsK p e below _ (s₁.setTop (mkF m 16 #[.val (.ref b), .val (.int w), .val (.int h), .val (.int rs), .val (.int cs), .val (.int r), .val (.ref y), .unset] [(.ref y)]))
  refine EndsK.go (fun _ kz => XS.ifnullNo X0.here hx rfl (hb hby d2_16) rfl kz) ?_
  show EndsK p e below _ (s₁.setTop (mkF m 19 #[.val (.ref b), .val (.int w), .val (.int h), .val (.int rs), .val (.int cs), .val (.int r), .val (.ref y), .unset] []))
  refine EndsK.go (fun _ kz => XS.aload X0.here hx rfl (hb hby d2_19) rfl rfl kz) ?_
  show EndsK p e below _ (s₁.setTop (mkF m 21 #[.val (.ref b), .val (.int w), .val (.int h), .val (.int rs), .val (.int cs), .val (.int r), .val (.ref y), .unset] [(.ref y)]))
  refine EndsK.go (fun tz kz => X0.arraylength hx (by rw [e0]; exact AR.1) (State.isArrayOf_alike hZ.alike AR.2.1) (g := (mkF m 21 #[.val (.ref b), .val (.int w), .val (.int h), .val (.int rs), .val (.int cs), .val (.int r), .val (.ref y), .unset] [(.ref y)])) rfl rfl (hb hby d2_21) tz kz) ?_
  rw [(len_of SR (by rw [Int32.lt_iff_toInt_lt]; have z0 : (0 : Int32).toInt = 0 := rfl; omega))]
  show EndsK p e below _ (s₁.setTop (mkF m 22 #[.val (.ref b), .val (.int w), .val (.int h), .val (.int rs), .val (.int cs), .val (.int r), .val (.ref y), .unset] [(.int w)]))
  refine EndsK.go (fun _ kz => XS.iloadN X0.here hx rfl (hb hby d2_22) rfl kz) ?_
  show EndsK p e below _ (s₁.setTop (mkF m 23 #[.val (.ref b), .val (.int w), .val (.int h), .val (.int rs), .val (.int cs), .val (.int r), .val (.ref y), .unset] [(.int w), (.int w)]))
  refine EndsK.go (fun _ kz => XS.icmpYes X0.here hx rfl (pc0 := 23) (pc' := 28) rfl (hb hby d2_23) rfl (teq (rfl : w = w)).1 (by decide) (by decide) kz) ?_
  show EndsK p e below _ (s₁.setTop (mkF m 28 #[.val (.ref b), .val (.int w), .val (.int h), .val (.int rs), .val (.int cs), .val (.int r), .val (.ref y), .unset] []))
  refine EndsK.go (fun _ kz => XS.iloadN X0.here hx rfl (hb hby d2_28) rfl kz) ?_
  show EndsK p e below _ (s₁.setTop (mkF m 29 #[.val (.ref b), .val (.int w), .val (.int h), .val (.int rs), .val (.int cs), .val (.int r), .val (.ref y), .unset] [(.int w)]))
  by_cases H29_1 : w = (0 : Int32)
  · refine EndsK.go (fun _ kz => XS.ifNo X0.here hx rfl (hb hby d2_29) rfl ((if0 _ _).trans (teq H29_1).2) kz) ?_
    show EndsK p e below _ (s₁.setTop (mkF m 32 #[.val (.ref b), .val (.int w), .val (.int h), .val (.int rs), .val (.int cs), .val (.int r), .val (.ref y), .unset] []))
    refine EndsK.go (fun _ kz => XS.iconst X0.here hx rfl (hb hby d2_32) kz) ?_
    show EndsK p e below _ (s₁.setTop (mkF m 33 #[.val (.ref b), .val (.int w), .val (.int h), .val (.int rs), .val (.int cs), .val (.int r), .val (.ref y), .unset] [(.int (1 : Int32))]))
    exact endN X0 hx (t := .boolean) Bd.returns (by simp) (hb hby d2_33) hlk ⟨rfl, N0, e0⟩ (by decide) (by decide)
  · refine EndsK.go (fun _ kz => XS.ifYes X0.here hx rfl (pc0 := 29) (pc' := 34) rfl (hb hby d2_29) rfl ((if0 _ _).trans (feq H29_1).2) (by decide) (by decide) kz) ?_
    show EndsK p e below _ (s₁.setTop (mkF m 34 #[.val (.ref b), .val (.int w), .val (.int h), .val (.int rs), .val (.int cs), .val (.int r), .val (.ref y), .unset] []))
    have wnz : w ≠ 0 := H29_1
    show EndsK p e below _ (s₁.setTop (mkF m 34 #[.val (.ref b), .val (.int w), .val (.int h), .val (.int rs), .val (.int cs), .val (.int r), .val (.ref y), .unset] []))
    refine EndsK.go (fun _ kz => XS.iload X0.here hx rfl (hb hby d2_34) rfl kz) ?_
    show EndsK p e below _ (s₁.setTop (mkF m 36 #[.val (.ref b), .val (.int w), .val (.int h), .val (.int rs), .val (.int cs), .val (.int r), .val (.ref y), .unset] [(.int cs)]))
    refine EndsK.go (fun _ kz => X0.ldcI hx hown (mvT hZ (hw _ (List.mem_of_getElem? (i := 11) rfl))) rfl (hb hby d2_36) kz) ?_
    show EndsK p e below _ (s₁.setTop (mkF m 38 #[.val (.ref b), .val (.int w), .val (.int h), .val (.int rs), .val (.int cs), .val (.int r), .val (.ref y), .unset] [(.int (2147483647 : Int32)), (.int cs)]))
    refine EndsK.go (fun _ kz => XS.iand X0.here hx rfl (hb hby d2_38) rfl kz) ?_
    show EndsK p e below _ (s₁.setTop (mkF m 39 #[.val (.ref b), .val (.int w), .val (.int h), .val (.int rs), .val (.int cs), .val (.int r), .val (.ref y), .unset] [(.int (cs &&& (2147483647 : Int32)))]))
    refine EndsK.go (fun _ kz => XS.iloadN X0.here hx rfl (hb hby d2_39) rfl kz) ?_
    show EndsK p e below _ (s₁.setTop (mkF m 40 #[.val (.ref b), .val (.int w), .val (.int h), .val (.int rs), .val (.int cs), .val (.int r), .val (.ref y), .unset] [(.int w), (.int (cs &&& (2147483647 : Int32)))]))
    refine EndsK.go (fun _ kz => iremM X0 hx rfl (hb hby d2_40) rfl wnz kz) ?_
    show EndsK p e below _ (s₁.setTop (mkF m 41 #[.val (.ref b), .val (.int w), .val (.int h), .val (.int rs), .val (.int cs), .val (.int r), .val (.ref y), .unset] [(.int ((cs &&& (2147483647 : Int32)) % w))]))
    refine EndsK.go (fun _ kz => XS.istore X0.here hx rfl (hb hby d2_41) rfl (l' := #[.val (.ref b), .val (.int w), .val (.int h), .val (.int rs), .val (.int cs), .val (.int r), .val (.ref y), .val (.int ((cs &&& (2147483647 : Int32)) % w))]) rfl kz) ?_
    show EndsK p e below _ (s₁.setTop (mkF m 43 #[.val (.ref b), .val (.int w), .val (.int h), .val (.int rs), .val (.int cs), .val (.int r), .val (.ref y), .val (.int ((cs &&& (2147483647 : Int32)) % w))] []))
    have d1 := c_mask cs 2147483647 31 (by decide) (by decide)
    have d2 := c_iremV (cs &&& 2147483647) w
    have wp : 0 < w.toInt := by have q : ¬ w.toInt = (0 : Int32).toInt := fun q => wnz (Int32.toInt_inj.mp q); have z0 : (0 : Int32).toInt = 0 := rfl; omega
    have bc : 0 ≤ (((cs &&& (2147483647 : Int32)) % w)).toInt ∧ (((cs &&& (2147483647 : Int32)) % w)).toInt < w.toInt := by omega
    obtain ⟨c', ec⟩ : ∃ z, z = ((cs &&& (2147483647 : Int32)) % w) := ⟨_, rfl⟩
    rw [← ec] at bc ⊢
    have kc := own_nat bc.1
    have kw := own_nat (x := w) (by omega)
    have inc : ¬ (c' < 0 ∨ cl.slots.size ≤ c'.toNatClampNeg) := inb_of SR (by simp only [Int32.lt_iff_toInt_lt]; have z0 : (0 : Int32).toInt = 0 := rfl; omega)
    have RQ := RR c'.toNatClampNeg (by rw [SR]; omega)
    have EQ := own_ex (w := w) (h := h) br.1 (by omega) bc.1 (by omega)
    obtain ⟨z, hat, hz⟩ : ∃ z : Int32, cl.slots[c'.toNatClampNeg]? = some (.int z) ∧ z = exF r c' w h := by
      by_cases q : Bk w h r.toNatClampNeg c'.toNatClampNeg
      · exact ⟨1, RQ.1 q, (EQ.1 q).symm⟩
      · exact ⟨0, RQ.2 q, (EQ.2 q).symm⟩
    show EndsK p e below _ (s₁.setTop (mkF m 43 #[.val (.ref b), .val (.int w), .val (.int h), .val (.int rs), .val (.int cs), .val (.int r), .val (.ref y), .val (.int c')] []))
    refine EndsK.go (fun _ kz => XS.aload X0.here hx rfl (hb hby d2_43) rfl rfl kz) ?_
    show EndsK p e below _ (s₁.setTop (mkF m 45 #[.val (.ref b), .val (.int w), .val (.int h), .val (.int rs), .val (.int cs), .val (.int r), .val (.ref y), .val (.int c')] [(.ref y)]))
    refine EndsK.go (fun _ kz => XS.iload X0.here hx rfl (hb hby d2_45) rfl kz) ?_
    show EndsK p e below _ (s₁.setTop (mkF m 47 #[.val (.ref b), .val (.int w), .val (.int h), .val (.int rs), .val (.int cs), .val (.int r), .val (.ref y), .val (.int c')] [(.int c'), (.ref y)]))
    refine EndsK.go (fun tz kz => X0.baloadBooleans hx (j := c') (v := (.int z)) (by rw [e0]; exact AR.1) (State.isArrayOf_alike hZ.alike AR.2.1) AR.2.2 inc hat (g := (mkF m 47 #[.val (.ref b), .val (.int w), .val (.int h), .val (.int rs), .val (.int cs), .val (.int r), .val (.ref y), .val (.int c')] [(.int c'), (.ref y)])) rfl rfl (hb hby d2_47) tz kz) ?_
    show EndsK p e below _ (s₁.setTop (mkF m 48 #[.val (.ref b), .val (.int w), .val (.int h), .val (.int rs), .val (.int cs), .val (.int r), .val (.ref y), .val (.int c')] [(.int z)]))
    refine EndsK.go (fun _ kz => XS.iload X0.here hx rfl (hb hby d2_48) rfl kz) ?_
    show EndsK p e below _ (s₁.setTop (mkF m 50 #[.val (.ref b), .val (.int w), .val (.int h), .val (.int rs), .val (.int cs), .val (.int r), .val (.ref y), .val (.int c')] [(.int r), (.int z)]))
    refine EndsK.go (fun _ kz => XS.iload X0.here hx rfl (hb hby d2_50) rfl kz) ?_
    show EndsK p e below _ (s₁.setTop (mkF m 52 #[.val (.ref b), .val (.int w), .val (.int h), .val (.int rs), .val (.int cs), .val (.int r), .val (.ref y), .val (.int c')] [(.int c'), (.int r), (.int z)]))
    refine EndsK.go (fun _ kz => XS.iloadN X0.here hx rfl (hb hby d2_52) rfl kz) ?_
    show EndsK p e below _ (s₁.setTop (mkF m 53 #[.val (.ref b), .val (.int w), .val (.int h), .val (.int rs), .val (.int cs), .val (.int r), .val (.ref y), .val (.int c')] [(.int w), (.int c'), (.int r), (.int z)]))
    refine EndsK.go (fun _ kz => XS.iloadN X0.here hx rfl (hb hby d2_53) rfl kz) ?_
    show EndsK p e below _ (s₁.setTop (mkF m 54 #[.val (.ref b), .val (.int w), .val (.int h), .val (.int rs), .val (.int cs), .val (.int r), .val (.ref y), .val (.int c')] [(.int h), (.int w), (.int c'), (.int r), (.int z)]))
    obtain ⟨_, _, ⟨T2, L2, k2, n2⟩, -, X2, ⟨Lc2, hQ2, l2, y2, z2⟩, st2⟩ := Jvm.LawKit.callS X0 hx (y := (⟨"tidewell/probe/GenerationsBlinkersPinLaw", "expected", "(IIII)Z"⟩ : MethodName)) hown (mvT hZ (hw _ (List.mem_of_getElem? (i := 12) rfl))) (mvT hZ (hw _ (List.mem_of_getElem? (i := 13) rfl))) (mvT hZ (hw _ (List.mem_of_getElem? (i := 9) rfl))) (mvT hZ (hw _ (List.mem_of_getElem? (i := 14) rfl))) (by decide) (backOf (W := 1) (rm_ex l Z a0 hw [] r c' w h h0 n0 Z0) hZ (hw _ (List.mem_of_getElem? (i := 14) rfl)) (hw _ (List.mem_of_getElem? (i := 9) rfl)) (by decide) (by decide)) (g := (mkF m 54 #[.val (.ref b), .val (.int w), .val (.int h), .val (.int rs), .val (.int cs), .val (.int r), .val (.ref y), .val (.int c')] [(.int h), (.int w), (.int c'), (.int r), (.int z)])) rfl (by rw [hml]; rfl) (argsL := [(.int r), (.int c'), (.int w), (.int h)]) (rest := [(.int z)]) (lenOf pd0 rfl) rfl (by show 2 * 0 + _ ≤ _; exact Nat.le_of_eq rfl) (hb hby d2_54) (fun _ _ => ⟨rfl, e0, (by decide : 0 + 0 ≤ _), (by decide : 0 + 0 ≤ _)⟩)
    dsimp only [Pt.U, Pt.locs, Pt.cells, Pt.slots] at X2 l2 y2 z2 st2 hQ2
    subst l2 y2 z2
    obtain ⟨rfl, N2, e2⟩ := hQ2
    have M2 := Fr.app N0 N2
    refine EndsK.go st2 ?_
    show EndsK p e below _ (T2.setTop (mkF m 57 #[.val (.ref b), .val (.int w), .val (.int h), .val (.int rs), .val (.int cs), .val (.int r), .val (.ref y), .val (.int c')] [(.int (exF r c' w h)), (.int z)]))
    refine EndsK.go (fun _ kz => XS.icmpNo X2.here hx rfl (hb hby d2_57) rfl (teq hz).2 kz) ?_
    show EndsK p e below _ (T2.setTop (mkF m 60 #[.val (.ref b), .val (.int w), .val (.int h), .val (.int rs), .val (.int cs), .val (.int r), .val (.ref y), .val (.int c')] []))
    refine EndsK.go (fun _ kz => XS.iconst X2.here hx rfl (hb hby d2_60) kz) ?_
    show EndsK p e below _ (T2.setTop (mkF m 61 #[.val (.ref b), .val (.int w), .val (.int h), .val (.int rs), .val (.int cs), .val (.int r), .val (.ref y), .val (.int c')] [(.int (1 : Int32))]))
    refine EndsK.go (fun _ kz => XS.goto X2.here hx rfl (pc0 := 61) (pc' := 65) rfl (hb hby d2_61) (by decide) (by decide) kz) ?_
    show EndsK p e below _ (T2.setTop (mkF m 65 #[.val (.ref b), .val (.int w), .val (.int h), .val (.int rs), .val (.int cs), .val (.int r), .val (.ref y), .val (.int c')] [(.int (1 : Int32))]))
    exact endN X2 hx (t := .boolean) Bd.returns (by simp) (hb hby d2_65) hlk ⟨rfl, M2, e2⟩ (by decide) (by decide)
theorem ef_law (m : MethodId) (i0 : Int32) (i1 : Int32) (i2 : Int32) (i3 : Int32) (i4 : Int32) (i5 : Int32) : entryFrame m #[(.int i0), (.int i1), (.int i2), (.int i3), (.int i4), (.int i5)] maxLocals = mkF m 0 #[.val (.int i0), .val (.int i1), .val (.int i2), .val (.int i3), .val (.int i4), .val (.int i5), .unset, .unset, .unset] [] := by first | (simp [entryFrame, mkF, argsToLocals, Value.category, maxLocals]; done) | rfl
def Q_law (Z : State) (i0 : Int32) (i1 : Int32) (i2 : Int32) (i3 : Int32) (i4 : Int32) (i5 : Int32) (h0 : Heap) (n0 : Nat) (vz : Option Value) (hz : Heap) (Lz : List Loc) : Prop := vz = some (.int 1) ∧ Fr n0 Lz
theorem pd1 : parseMethodDescriptor "(II)[[Z" = some ⟨[.int, .int], some (.array (.array .boolean))⟩ := by decide +kernel
theorem pd2 : parseMethodDescriptor "([[ZIIII)Z" = some ⟨[(.array (.array .boolean)), .int, .int, .int, .int], some .boolean⟩ := by decide +kernel
set_option maxRecDepth 65536 in
set_option maxHeartbeats 40000000 in
theorem rm_law (l : Launch) (Z : State) (a0 : Array Value) (hw : ∀ d ∈ tables_1, d.before a0 Z = true) (ws : List Jvm.Cond) (i0 : Int32) (i1 : Int32) (i2 : Int32) (i3 : Int32) (i4 : Int32) (i5 : Int32) (h0 : Heap) (n0 : Nat) (Z0 : n0 ≤ h0.size)  :
    MetFree l x (head1 (Jvm.Cond.code x code maxLocals ret :: ws) room_1) (fun az Uz => az = #[(.int i0), (.int i1), (.int i2), (.int i3), (.int i4), (.int i5)] ∧ Z.Warmed39 Uz.vm ∧ Uz.heap = h0) (fun _ _ _ _ _ => True) (fun _ Uz oz Ut => ∃ vz Lz, oz = .returned vz ∧ Q_law Z i0 i1 i2 i3 i4 i5 h0 n0 vz Ut.heap Lz ∧ FrameEnd Uz oz Ut Lz (room_1).cells (room_1).slots) := by
  refine MetFree.of_bodySF (plainFor_of_name pn0) hisR ?_
  intro p e s m args below meth c s₁ Bd hml0 hP hK
  obtain ⟨rfl, hZ, hh⟩ := hP
  have hx := Bd.exec
  have hby := Bd.bytes
  have hml : c.maxLocals = 9 := hml0
  have hown : s.vm.findClass "tidewell/probe/GenerationsBlinkersPinLaw" = some m.cls := findClass_of_methodNamed Bd.named
  have hnm := (name_of_methodNamed Bd.named Bd.method).1
  have hlk : meth.locks = false := Bd.notSynchronized
  have X0 : Stand p l e room_1 s m #[(.int i0), (.int i1), (.int i2), (.int i3), (.int i4), (.int i5)] below meth c s₁ [] 0 0 := Stand.of_body Bd
  have e0 : s₁.heap = h0 := by rw [← hh, Bd.state]; rfl
  have N0 := Fr.nil n0
  show EndsK p e below (OQ s (Q_law Z i0 i1 i2 i3 i4 i5 h0 n0) (room_1).cells (room_1).slots) (s₁.setTop (entryFrame m #[(.int i0), (.int i1), (.int i2), (.int i3), (.int i4), (.int i5)] maxLocals))
  refine EndsK.start (ef_law m i0 i1 i2 i3 i4 i5) ?_
  show EndsK p e below _ (s₁.setTop (mkF m 0 #[.val (.int i0), .val (.int i1), .val (.int i2), .val (.int i3), .val (.int i4), .val (.int i5), .unset, .unset, .unset] []))
  refine EndsK.go (fun _ kz => XS.iloadN X0.here hx rfl (hb hby at_0) rfl kz) ?_
  show EndsK p e below _ (s₁.setTop (mkF m 1 #[.val (.int i0), .val (.int i1), .val (.int i2), .val (.int i3), .val (.int i4), .val (.int i5), .unset, .unset, .unset] [(.int i0)]))
  refine EndsK.go (fun _ kz => XS.bipush X0.here hx rfl (hb hby at_1) kz) ?_
  show EndsK p e below _ (s₁.setTop (mkF m 3 #[.val (.int i0), .val (.int i1), .val (.int i2), .val (.int i3), .val (.int i4), .val (.int i5), .unset, .unset, .unset] [(.int (63 : Int32)), (.int i0)]))
  refine EndsK.go (fun _ kz => XS.iand X0.here hx rfl (hb hby at_3) rfl kz) ?_
  show EndsK p e below _ (s₁.setTop (mkF m 4 #[.val (.int i0), .val (.int i1), .val (.int i2), .val (.int i3), .val (.int i4), .val (.int i5), .unset, .unset, .unset] [(.int (i0 &&& (63 : Int32)))]))
  refine EndsK.go (fun _ kz => XS.istore X0.here hx rfl (hb hby at_4) rfl (l' := #[.val (.int i0), .val (.int i1), .val (.int i2), .val (.int i3), .val (.int i4), .val (.int i5), .val (.int (i0 &&& (63 : Int32))), .unset, .unset]) rfl kz) ?_
  show EndsK p e below _ (s₁.setTop (mkF m 6 #[.val (.int i0), .val (.int i1), .val (.int i2), .val (.int i3), .val (.int i4), .val (.int i5), .val (.int (i0 &&& (63 : Int32))), .unset, .unset] []))
  refine EndsK.go (fun _ kz => XS.iloadN X0.here hx rfl (hb hby at_6) rfl kz) ?_
  show EndsK p e below _ (s₁.setTop (mkF m 7 #[.val (.int i0), .val (.int i1), .val (.int i2), .val (.int i3), .val (.int i4), .val (.int i5), .val (.int (i0 &&& (63 : Int32))), .unset, .unset] [(.int i1)]))
  refine EndsK.go (fun _ kz => XS.bipush X0.here hx rfl (hb hby at_7) kz) ?_
  show EndsK p e below _ (s₁.setTop (mkF m 9 #[.val (.int i0), .val (.int i1), .val (.int i2), .val (.int i3), .val (.int i4), .val (.int i5), .val (.int (i0 &&& (63 : Int32))), .unset, .unset] [(.int (63 : Int32)), (.int i1)]))
  refine EndsK.go (fun _ kz => XS.iand X0.here hx rfl (hb hby at_9) rfl kz) ?_
  show EndsK p e below _ (s₁.setTop (mkF m 10 #[.val (.int i0), .val (.int i1), .val (.int i2), .val (.int i3), .val (.int i4), .val (.int i5), .val (.int (i0 &&& (63 : Int32))), .unset, .unset] [(.int (i1 &&& (63 : Int32)))]))
  refine EndsK.go (fun _ kz => XS.istore X0.here hx rfl (hb hby at_10) rfl (l' := #[.val (.int i0), .val (.int i1), .val (.int i2), .val (.int i3), .val (.int i4), .val (.int i5), .val (.int (i0 &&& (63 : Int32))), .val (.int (i1 &&& (63 : Int32))), .unset]) rfl kz) ?_
  show EndsK p e below _ (s₁.setTop (mkF m 12 #[.val (.int i0), .val (.int i1), .val (.int i2), .val (.int i3), .val (.int i4), .val (.int i5), .val (.int (i0 &&& (63 : Int32))), .val (.int (i1 &&& (63 : Int32))), .unset] []))
  have b1 := c_mask i0 63 6 (by decide) (by decide)
  have b2 := c_mask i1 63 6 (by decide) (by decide)
  obtain ⟨ww, e1⟩ : ∃ z, z = (i0 &&& (63 : Int32)) := ⟨_, rfl⟩
  obtain ⟨hh_, e2⟩ : ∃ z, z = (i1 &&& (63 : Int32)) := ⟨_, rfl⟩
  rw [← e1] at b1 ⊢
  rw [← e2] at b2 ⊢
  show EndsK p e below _ (s₁.setTop (mkF m 12 #[.val (.int i0), .val (.int i1), .val (.int i2), .val (.int i3), .val (.int i4), .val (.int i5), .val (.int ww), .val (.int hh_), .unset] []))
  refine EndsK.go (fun _ kz => XS.iload X0.here hx rfl (hb hby at_12) rfl kz) ?_
  show EndsK p e below _ (s₁.setTop (mkF m 14 #[.val (.int i0), .val (.int i1), .val (.int i2), .val (.int i3), .val (.int i4), .val (.int i5), .val (.int ww), .val (.int hh_), .unset] [(.int ww)]))
  refine EndsK.go (fun _ kz => XS.iload X0.here hx rfl (hb hby at_14) rfl kz) ?_
  show EndsK p e below _ (s₁.setTop (mkF m 16 #[.val (.int i0), .val (.int i1), .val (.int i2), .val (.int i3), .val (.int i4), .val (.int i5), .val (.int ww), .val (.int hh_), .unset] [(.int hh_), (.int ww)]))
  obtain ⟨_, _, ⟨T1, L1, k1, n1⟩, -, X1, ⟨Lc1, hQ1, l1, y1, z1⟩, st1⟩ := Jvm.LawKit.callS X0 hx (y := (⟨"tidewell/probe/Generations", "blinkers", "(II)[[Z"⟩ : MethodName)) hown (mvT hZ (hw _ (List.mem_of_getElem? (i := 0) rfl))) (mvT hZ (hw _ (List.mem_of_getElem? (i := 1) rfl))) (mvT hZ (hw _ (List.mem_of_getElem? (i := 2) rfl))) (mvT hZ (hw _ (List.mem_of_getElem? (i := 3) rfl))) (by decide) (backOf (W := 0) (rm_bl l Z a0 hw [] ww hh_ h0 n0 Z0 (by omega) (by omega) (by omega) (by omega)) hZ (hw _ (List.mem_of_getElem? (i := 3) rfl)) (hw _ (List.mem_of_getElem? (i := 2) rfl)) (by decide) (by decide)) (g := (mkF m 16 #[.val (.int i0), .val (.int i1), .val (.int i2), .val (.int i3), .val (.int i4), .val (.int i5), .val (.int ww), .val (.int hh_), .unset] [(.int hh_), (.int ww)])) rfl (by rw [hml]; rfl) (argsL := [(.int ww), (.int hh_)]) (rest := []) (lenOf pd1 rfl) rfl (by show 2 * 0 + _ ≤ _; exact Nat.le_of_eq rfl) (hb hby at_16) (fun _ _ => ⟨rfl, e0, (by decide : 0 + 64 ≤ _), (by decide : 0 + 4096 ≤ _)⟩)
  dsimp only [Pt.U, Pt.locs, Pt.cells, Pt.slots] at X1 l1 y1 z1 st1 hQ1
  subst l1 y1 z1
  obtain ⟨a, cA, xs, rfl, N1, E1, hxs, GG⟩ := hQ1
  have M1 := Fr.app N0 N1
  obtain ⟨h1, e1⟩ : ∃ z, T1.heap = z := ⟨_, rfl⟩
  rw [e1] at E1 GG
  obtain ⟨cO, AO, qO1, qO2, qO3, HO, GO⟩ := id GG.1
  have Zq : n0 ≤ h1.size := Nat.le_trans Z0 E1.1
  refine EndsK.go st1 ?_
  show EndsK p e below _ (T1.setTop (mkF m 19 #[.val (.int i0), .val (.int i1), .val (.int i2), .val (.int i3), .val (.int i4), .val (.int i5), .val (.int ww), .val (.int hh_), .unset] [(.ref a)]))
  refine EndsK.go (fun _ kz => XS.astore X1.here hx rfl (hb hby at_19) rfl rfl (l' := #[.val (.int i0), .val (.int i1), .val (.int i2), .val (.int i3), .val (.int i4), .val (.int i5), .val (.int ww), .val (.int hh_), .val (.ref a)]) rfl kz) ?_
  show EndsK p e below _ (T1.setTop (mkF m 21 #[.val (.int i0), .val (.int i1), .val (.int i2), .val (.int i3), .val (.int i4), .val (.int i5), .val (.int ww), .val (.int hh_), .val (.ref a)] []))
  refine EndsK.go (fun _ kz => XS.aload X1.here hx rfl (hb hby at_21) rfl rfl kz) ?_
  show EndsK p e below _ (T1.setTop (mkF m 23 #[.val (.int i0), .val (.int i1), .val (.int i2), .val (.int i3), .val (.int i4), .val (.int i5), .val (.int ww), .val (.int hh_), .val (.ref a)] [(.ref a)]))
  refine EndsK.go (fun _ kz => XS.ifnullNo X1.here hx rfl (hb hby at_23) rfl kz) ?_
  show EndsK p e below _ (T1.setTop (mkF m 26 #[.val (.int i0), .val (.int i1), .val (.int i2), .val (.int i3), .val (.int i4), .val (.int i5), .val (.int ww), .val (.int hh_), .val (.ref a)] []))
  refine EndsK.go (fun _ kz => XS.aload X1.here hx rfl (hb hby at_26) rfl rfl kz) ?_
  show EndsK p e below _ (T1.setTop (mkF m 28 #[.val (.int i0), .val (.int i1), .val (.int i2), .val (.int i3), .val (.int i4), .val (.int i5), .val (.int ww), .val (.int hh_), .val (.ref a)] [(.ref a)]))
  refine EndsK.go (fun tz kz => X1.arraylength hx (by rw [e1]; exact AO.1) (State.isArrayOf_alike hZ.alike AO.2.1) (g := (mkF m 28 #[.val (.int i0), .val (.int i1), .val (.int i2), .val (.int i3), .val (.int i4), .val (.int i5), .val (.int ww), .val (.int hh_), .val (.ref a)] [(.ref a)])) rfl rfl (hb hby at_28) tz kz) ?_
  rw [(len_of qO2 qO3)]
  show EndsK p e below _ (T1.setTop (mkF m 29 #[.val (.int i0), .val (.int i1), .val (.int i2), .val (.int i3), .val (.int i4), .val (.int i5), .val (.int ww), .val (.int hh_), .val (.ref a)] [(.int hh_)]))
  refine EndsK.go (fun _ kz => XS.iload X1.here hx rfl (hb hby at_29) rfl kz) ?_
  show EndsK p e below _ (T1.setTop (mkF m 31 #[.val (.int i0), .val (.int i1), .val (.int i2), .val (.int i3), .val (.int i4), .val (.int i5), .val (.int ww), .val (.int hh_), .val (.ref a)] [(.int hh_), (.int hh_)]))
  refine EndsK.go (fun _ kz => XS.icmpYes X1.here hx rfl (pc0 := 31) (pc' := 36) rfl (hb hby at_31) rfl (teq (rfl : hh_ = hh_)).1 (by decide) (by decide) kz) ?_
  show EndsK p e below _ (T1.setTop (mkF m 36 #[.val (.int i0), .val (.int i1), .val (.int i2), .val (.int i3), .val (.int i4), .val (.int i5), .val (.int ww), .val (.int hh_), .val (.ref a)] []))
  refine EndsK.go (fun _ kz => XS.iload X1.here hx rfl (hb hby at_36) rfl kz) ?_
  show EndsK p e below _ (T1.setTop (mkF m 38 #[.val (.int i0), .val (.int i1), .val (.int i2), .val (.int i3), .val (.int i4), .val (.int i5), .val (.int ww), .val (.int hh_), .val (.ref a)] [(.int hh_)]))
  by_cases H38_2 : hh_ = (0 : Int32)
  · refine EndsK.go (fun _ kz => XS.ifNo X1.here hx rfl (hb hby at_38) rfl ((if0 _ _).trans (teq H38_2).2) kz) ?_
    show EndsK p e below _ (T1.setTop (mkF m 41 #[.val (.int i0), .val (.int i1), .val (.int i2), .val (.int i3), .val (.int i4), .val (.int i5), .val (.int ww), .val (.int hh_), .val (.ref a)] []))
    refine EndsK.go (fun _ kz => XS.iconst X1.here hx rfl (hb hby at_41) kz) ?_
    show EndsK p e below _ (T1.setTop (mkF m 42 #[.val (.int i0), .val (.int i1), .val (.int i2), .val (.int i3), .val (.int i4), .val (.int i5), .val (.int ww), .val (.int hh_), .val (.ref a)] [(.int (1 : Int32))]))
    exact endN X1 hx (t := .boolean) Bd.returns (by simp) (hb hby at_42) hlk ⟨rfl, M1⟩ (by decide) (by decide)
  · refine EndsK.go (fun _ kz => XS.ifYes X1.here hx rfl (pc0 := 38) (pc' := 43) rfl (hb hby at_38) rfl ((if0 _ _).trans (feq H38_2).2) (by decide) (by decide) kz) ?_
    show EndsK p e below _ (T1.setTop (mkF m 43 #[.val (.int i0), .val (.int i1), .val (.int i2), .val (.int i3), .val (.int i4), .val (.int i5), .val (.int ww), .val (.int hh_), .val (.ref a)] []))
    refine EndsK.go (fun _ kz => XS.aload X1.here hx rfl (hb hby at_43) rfl rfl kz) ?_
    show EndsK p e below _ (T1.setTop (mkF m 45 #[.val (.int i0), .val (.int i1), .val (.int i2), .val (.int i3), .val (.int i4), .val (.int i5), .val (.int ww), .val (.int hh_), .val (.ref a)] [(.ref a)]))
    refine EndsK.go (fun _ kz => XS.iload X1.here hx rfl (hb hby at_45) rfl kz) ?_
    show EndsK p e below _ (T1.setTop (mkF m 47 #[.val (.int i0), .val (.int i1), .val (.int i2), .val (.int i3), .val (.int i4), .val (.int i5), .val (.int ww), .val (.int hh_), .val (.ref a)] [(.int ww), (.ref a)]))
    refine EndsK.go (fun _ kz => XS.iload X1.here hx rfl (hb hby at_47) rfl kz) ?_
    show EndsK p e below _ (T1.setTop (mkF m 49 #[.val (.int i0), .val (.int i1), .val (.int i2), .val (.int i3), .val (.int i4), .val (.int i5), .val (.int ww), .val (.int hh_), .val (.ref a)] [(.int hh_), (.int ww), (.ref a)]))
    refine EndsK.go (fun _ kz => XS.iloadN X1.here hx rfl (hb hby at_49) rfl kz) ?_
    show EndsK p e below _ (T1.setTop (mkF m 50 #[.val (.int i0), .val (.int i1), .val (.int i2), .val (.int i3), .val (.int i4), .val (.int i5), .val (.int ww), .val (.int hh_), .val (.ref a)] [(.int i2), (.int hh_), (.int ww), (.ref a)]))
    refine EndsK.go (fun _ kz => XS.iloadN X1.here hx rfl (hb hby at_50) rfl kz) ?_
    show EndsK p e below _ (T1.setTop (mkF m 51 #[.val (.int i0), .val (.int i1), .val (.int i2), .val (.int i3), .val (.int i4), .val (.int i5), .val (.int ww), .val (.int hh_), .val (.ref a)] [(.int i3), (.int i2), (.int hh_), (.int ww), (.ref a)]))
    obtain ⟨_, _, ⟨T3, L3, k3, n3⟩, -, X3, ⟨Lc3, hQ3, l3, y3, z3⟩, st3⟩ := Jvm.LawKit.callS X1 hx (y := (⟨"tidewell/probe/GenerationsBlinkersPinLaw", "probe", "([[ZIIII)Z"⟩ : MethodName)) hown (mvT hZ (hw _ (List.mem_of_getElem? (i := 7) rfl))) (mvT hZ (hw _ (List.mem_of_getElem? (i := 8) rfl))) (mvT hZ (hw _ (List.mem_of_getElem? (i := 9) rfl))) (mvT hZ (hw _ (List.mem_of_getElem? (i := 10) rfl))) (by decide) (backOf (W := 0) (rm_pb l Z a0 hw [] a ww hh_ i2 i3 cA xs h1 n0 Zq (by omega) (by omega) (by have q : ¬ hh_.toInt = (0 : Int32).toInt := fun q => H38_2 (Int32.toInt_inj.mp q); have z0 : (0 : Int32).toInt = 0 := rfl; omega) (by omega) hxs GG) hZ (hw _ (List.mem_of_getElem? (i := 10) rfl)) (hw _ (List.mem_of_getElem? (i := 9) rfl)) (by decide) (by decide)) (g := (mkF m 51 #[.val (.int i0), .val (.int i1), .val (.int i2), .val (.int i3), .val (.int i4), .val (.int i5), .val (.int ww), .val (.int hh_), .val (.ref a)] [(.int i3), (.int i2), (.int hh_), (.int ww), (.ref a)])) rfl (by rw [hml]; rfl) (argsL := [(.ref a), (.int ww), (.int hh_), (.int i2), (.int i3)]) (rest := []) (lenOf pd2 rfl) rfl (by show 2 * 0 + _ ≤ _; exact Nat.le_of_eq rfl) (hb hby at_51) (fun _ _ => ⟨rfl, e1, (by decide : 0 + 64 + 0 ≤ _), (by decide : 0 + 4096 + 0 ≤ _)⟩)
    dsimp only [Pt.U, Pt.locs, Pt.cells, Pt.slots] at X3 l3 y3 z3 st3 hQ3
    subst l3 y3 z3
    obtain ⟨rfl, N3, e3⟩ := hQ3
    have M3 := Fr.app M1 N3
    refine EndsK.go st3 ?_
    show EndsK p e below _ (T3.setTop (mkF m 54 #[.val (.int i0), .val (.int i1), .val (.int i2), .val (.int i3), .val (.int i4), .val (.int i5), .val (.int ww), .val (.int hh_), .val (.ref a)] [(.int (1 : Int32))]))
    refine EndsK.go (fun _ kz => XS.ifYes X3.here hx rfl (pc0 := 54) (pc' := 59) rfl (hb hby at_54) rfl ((if0 _ _).trans (feq (by decide : ¬ ((1 : Int32) = (0 : Int32)))).2) (by decide) (by decide) kz) ?_
    show EndsK p e below _ (T3.setTop (mkF m 59 #[.val (.int i0), .val (.int i1), .val (.int i2), .val (.int i3), .val (.int i4), .val (.int i5), .val (.int ww), .val (.int hh_), .val (.ref a)] []))
    refine EndsK.go (fun _ kz => XS.aload X3.here hx rfl (hb hby at_59) rfl rfl kz) ?_
    show EndsK p e below _ (T3.setTop (mkF m 61 #[.val (.int i0), .val (.int i1), .val (.int i2), .val (.int i3), .val (.int i4), .val (.int i5), .val (.int ww), .val (.int hh_), .val (.ref a)] [(.ref a)]))
    refine EndsK.go (fun _ kz => XS.iload X3.here hx rfl (hb hby at_61) rfl kz) ?_
    show EndsK p e below _ (T3.setTop (mkF m 63 #[.val (.int i0), .val (.int i1), .val (.int i2), .val (.int i3), .val (.int i4), .val (.int i5), .val (.int ww), .val (.int hh_), .val (.ref a)] [(.int ww), (.ref a)]))
    refine EndsK.go (fun _ kz => XS.iload X3.here hx rfl (hb hby at_63) rfl kz) ?_
    show EndsK p e below _ (T3.setTop (mkF m 65 #[.val (.int i0), .val (.int i1), .val (.int i2), .val (.int i3), .val (.int i4), .val (.int i5), .val (.int ww), .val (.int hh_), .val (.ref a)] [(.int hh_), (.int ww), (.ref a)]))
    refine EndsK.go (fun _ kz => XS.iload X3.here hx rfl (hb hby at_65) rfl kz) ?_
    show EndsK p e below _ (T3.setTop (mkF m 67 #[.val (.int i0), .val (.int i1), .val (.int i2), .val (.int i3), .val (.int i4), .val (.int i5), .val (.int ww), .val (.int hh_), .val (.ref a)] [(.int i4), (.int hh_), (.int ww), (.ref a)]))
    refine EndsK.go (fun _ kz => XS.iload X3.here hx rfl (hb hby at_67) rfl kz) ?_
    show EndsK p e below _ (T3.setTop (mkF m 69 #[.val (.int i0), .val (.int i1), .val (.int i2), .val (.int i3), .val (.int i4), .val (.int i5), .val (.int ww), .val (.int hh_), .val (.ref a)] [(.int i5), (.int i4), (.int hh_), (.int ww), (.ref a)]))
    obtain ⟨_, _, ⟨T4, L4, k4, n4⟩, -, X4, ⟨Lc4, hQ4, l4, y4, z4⟩, st4⟩ := Jvm.LawKit.callS X3 hx (y := (⟨"tidewell/probe/GenerationsBlinkersPinLaw", "probe", "([[ZIIII)Z"⟩ : MethodName)) hown (mvT hZ (hw _ (List.mem_of_getElem? (i := 7) rfl))) (mvT hZ (hw _ (List.mem_of_getElem? (i := 8) rfl))) (mvT hZ (hw _ (List.mem_of_getElem? (i := 9) rfl))) (mvT hZ (hw _ (List.mem_of_getElem? (i := 10) rfl))) (by decide) (backOf (W := 0) (rm_pb l Z a0 hw [] a ww hh_ i4 i5 cA xs h1 n0 Zq (by omega) (by omega) (by have q : ¬ hh_.toInt = (0 : Int32).toInt := fun q => H38_2 (Int32.toInt_inj.mp q); have z0 : (0 : Int32).toInt = 0 := rfl; omega) (by omega) hxs GG) hZ (hw _ (List.mem_of_getElem? (i := 10) rfl)) (hw _ (List.mem_of_getElem? (i := 9) rfl)) (by decide) (by decide)) (g := (mkF m 69 #[.val (.int i0), .val (.int i1), .val (.int i2), .val (.int i3), .val (.int i4), .val (.int i5), .val (.int ww), .val (.int hh_), .val (.ref a)] [(.int i5), (.int i4), (.int hh_), (.int ww), (.ref a)])) rfl (by rw [hml]; rfl) (argsL := [(.ref a), (.int ww), (.int hh_), (.int i4), (.int i5)]) (rest := []) (lenOf pd2 rfl) rfl (by show 2 * 0 + _ ≤ _; exact Nat.le_of_eq rfl) (hb hby at_69) (fun _ _ => ⟨rfl, e3, (by decide : 0 + 64 + 0 + 0 ≤ _), (by decide : 0 + 4096 + 0 + 0 ≤ _)⟩)
    dsimp only [Pt.U, Pt.locs, Pt.cells, Pt.slots] at X4 l4 y4 z4 st4 hQ4
    subst l4 y4 z4
    obtain ⟨rfl, N4, e4⟩ := hQ4
    have M4 := Fr.app M3 N4
    refine EndsK.go st4 ?_
    show EndsK p e below _ (T4.setTop (mkF m 72 #[.val (.int i0), .val (.int i1), .val (.int i2), .val (.int i3), .val (.int i4), .val (.int i5), .val (.int ww), .val (.int hh_), .val (.ref a)] [(.int (1 : Int32))]))
    exact endN X4 hx (t := .boolean) Bd.returns (by simp) (hb hby at_72) hlk ⟨rfl, M4⟩ (by decide) (by decide)
set_option maxRecDepth 65536 in
set_option maxHeartbeats 40000000 in
theorem comes_1 {Post : Tables → Env → Array Value → State → Outcome → State → Prop} (hpost : ∀ tb e args s v u, (limb_1_1.after args s (.returned v) u = true ∧ limb_1_2.after args s (.returned v) u = true ∧ True) → FrameEnd s (.returned v) u (Jvm.fieldLocs frame_1_writes args s ++ Jvm.arrayLocs frame_1_arrays args s ++ Jvm.staticLocs frame_1_statics s) 136 8128 → Post tb e args s (.returned v) u) :
    ArmFor flags0 classFile x code maxLocals ret World_1 tables_1 room_1 Calls_1 rest_1 Pre_1 Post := by
  intro l hfl _ _ p e ha hc hk s m args below hf hA hF happ hP
  obtain ⟨hcalls, hrest, hpre⟩ := hP
  obtain ⟨-, -, -, hnamed, -, -, -, hat⟩ := (Spec.applies_iff hf).mp happ
  obtain ⟨hg, hn⟩ := and_e (Cond.before_iff.mp (show (Jvm.Cond.and given_1 narrow_1).before args s = true from hpre))
  obtain ⟨hcount, hg⟩ := and_e hg
  obtain ⟨hi0, hg⟩ := and_e hg
  obtain ⟨hi1, hg⟩ := and_e hg
  obtain ⟨hi2, hg⟩ := and_e hg
  obtain ⟨hi3, hg⟩ := and_e hg
  obtain ⟨hi4, hg⟩ := and_e hg
  obtain ⟨w0, w1, w2, w3, w4, w5, rfl⟩ : ∃ w0 w1 w2 w3 w4 w5 : Value, args = #[w0, w1, w2, w3, w4, w5] := by
    have hs : args.size = 6 := by simpa [Cond.value, given_1] using hcount
    obtain ⟨L⟩ := args
    match L, hs with
    | [w0, w1, w2, w3, w4, w5], _ => exact ⟨w0, w1, w2, w3, w4, w5, rfl⟩
  have hw := fun d (hd : d ∈ tables_1) => atoms_spec (ws := Jvm.Cond.code x code maxLocals ret :: tables_1) hat d (List.mem_cons_of_mem _ hd)
  have hfit : Fit s := fun {y c} hc i hi => by
    obtain ⟨ha, rfl⟩ := Array.getElem?_eq_some_iff.mp hc
    have q := List.all_eq_true.mp ((Array.all_eq_true_iff_forall_mem.mp hF) _ (Array.getElem_mem ha)) i (List.mem_range.mpr hi)
    simpa [Array.getElem?_eq_getElem hi] using q
  obtain ⟨i0, ei0⟩ := is_v hi0
  obtain rfl : w0 = (.int i0) := Option.some.inj ei0
  obtain ⟨i1, ei1⟩ := is_v hi1
  obtain rfl : w1 = (.int i1) := Option.some.inj ei1
  obtain ⟨i2, ei2⟩ := is_v hi2
  obtain rfl : w2 = (.int i2) := Option.some.inj ei2
  obtain ⟨i3, ei3⟩ := is_v hi3
  obtain rfl : w3 = (.int i3) := Option.some.inj ei3
  obtain ⟨i4, ei4⟩ := is_v hi4
  obtain rfl : w4 = (.int i4) := Option.some.inj ei4
  obtain ⟨i5, ei5⟩ := is_v hg
  obtain rfl : w5 = (.int i5) := Option.some.inj ei5
  obtain ⟨n, o, h1, h2, h3, _, L, rfl, ⟨rfl, N⟩, hq⟩ := rm_law l s _ hw tables_1 i0 i1 i2 i3 i4 i5 s.heap s.heap.size (Nat.le_refl _) p e ha hc hk s m _ below hf ((Spec.applies_iff_loose hf).mp happ).1 ⟨rfl, State.Warmed39.refl s, rfl⟩ trivial
  refine ⟨n, _, h1, h2, h3, hpost _ _ _ _ _ _ ⟨Cond.after_iff.mpr rfl, Cond.after_iff.mpr (eq_i res_at (Term.int_eval (1)) rfl), trivial⟩ ⟨hq.1, hq.2.1, (hq.2.2.sift fun y hy => Or.inr (N y hy)).mono (by decide) (by decide)⟩⟩
theorem main_1_1 : Claimed_1_1 := comes_1 fun _ _ _ _ _ _ h hF => ⟨h.1, hF⟩
theorem main_1_2 : Claimed_1_2 := comes_1 fun _ _ _ _ _ _ h hF => ⟨h.2.1, hF⟩
end Jvm.Pilot.@@N@@
namespace Jvm.Pilot.@@N@@
open Jvm Jvm.ClassFile Sem Op Lib Jvm.Free Jvm.Stand Jvm.Pilot.@@N@@.Jvm.D
/-! MADE BY PROGRAM (witnessworld.py) out of the Statement's table words and the real class files: 11 classes; the members and pool entries that the words name. The judged class is class 1, her method 1. -/
namespace start1
open Jvm.ClassFile
def u (s : String) : CpInfo := .utf8 (stringToUtf16 s)
/-- a pool by its gaps: so many unusable entries, then the entry; so many at the end -/
def gap : Nat → List CpInfo → List CpInfo
  | 0, r => r
  | n + 1, r => .unusable :: gap n r
def poolList (es : List (Nat × CpInfo)) (last : Nat) : List CpInfo := es.foldr (fun e r => gap e.1 (e.2 :: r)) (gap last [])
def pool (es : List (Nat × CpInfo)) (last : Nat) : Array CpInfo := ⟨poolList es last⟩
def fileOf (pool : Array CpInfo) (this : Nat) (attrs : Array Attribute := #[]) (ms : Array MethodInfo := #[]) (fl : Nat := 33) (sup : Nat := 0) (ifs : Array Nat := #[]) (fds : Array FieldInfo := #[]) : ClassFile where
  minorVersion := 0
  majorVersion := 65
  constantPool := pool
  accessFlags := fl
  thisClass := this
  superClass := sup
  interfaces := ifs
  fields := fds
  methods := ms
  attributes := attrs
def plain (name : String) (sup : Option ClassId) : Class where
  name := name
  kind := .ordinary
  loader := none
  accessFlags := 33
  super := sup
  interfaces := #[]
  cf := none
  fields := #[]
  methods := #[]
  instanceTypes := #[]
  staticTypes := #[]
  resolved := #[]
  callSites := []
  init := .initialized
  statics := none
  mirror := none

def pool0 : Array CpInfo := pool [(5, u "<init>"), (0, u "()V"), (1, .class_ 10), (1, u "java/lang/Object")] 113

def k0m0 : Method := { name := "<init>", desc := "()V", sig := { parameters := [], returnType := none }, accessFlags := 1, code := none }
/-- java/lang/Object -/
def k0 : Class := { plain "java/lang/Object" none with
  accessFlags := 33
  interfaces := #[]
  cf := some (fileOf pool0 8 #[] #[{ accessFlags := 1, nameIndex := 5, descriptorIndex := 6, attributes := #[] }] 33 0 #[] #[])
  fields := #[]
  methods := #[k0m0]
  instanceTypes := #[]
  staticTypes := #[]
  resolved := Array.replicate 124 none
  statics := none }

def pool1 : Array CpInfo := pool [(2, .class_ 4), (1, u "java/lang/Object"), (0, u "<init>"), (0, u "()V"), (0, .methodref 8 9), (0, .class_ 10), (0, .nameAndType 11 12), (0, u "tidewell/probe/Generations"), (0, u "blinkers"), (0, u "(II)[[Z"), (0, .methodref 14 15), (0, .class_ 16), (0, .nameAndType 17 18), (0, u "tidewell/probe/GenerationsBlinkersPinLaw"), (0, u "probe"), (0, u "([[ZIIII)Z"), (0, .integer 2147483647), (0, .methodref 14 21), (0, .nameAndType 22 23), (0, u "expected"), (0, u "(IIII)Z"), (2, u "law"), (0, u "(IIIIII)Z")] 7

def k1m0 : Method := { name := "<init>", desc := "()V", sig := { parameters := [], returnType := none }, accessFlags := 2, code := none }
def k1c1 : Code := { maxStack := 5, maxLocals := 9, code := code, exceptionTable := #[], attributes := #[] }
def k1m1 : Method := { name := "law", desc := "(IIIIII)Z", sig := { parameters := [.int, .int, .int, .int, .int, .int], returnType := some .boolean }, accessFlags := 9, code := some k1c1 }
def k1c2 : Code := { maxStack := 5, maxLocals := 8, code := method_3_code, exceptionTable := #[], attributes := #[] }
def k1m2 : Method := { name := "probe", desc := "([[ZIIII)Z", sig := { parameters := [(.array (.array .boolean)), .int, .int, .int, .int], returnType := some .boolean }, accessFlags := 10, code := some k1c2 }
def k1c3 : Code := { maxStack := 2, maxLocals := 4, code := method_4_code, exceptionTable := #[], attributes := #[] }
def k1m3 : Method := { name := "expected", desc := "(IIII)Z", sig := { parameters := [.int, .int, .int, .int], returnType := some .boolean }, accessFlags := 10, code := some k1c3 }
/-- tidewell/probe/GenerationsBlinkersPinLaw -/
def k1 : Class := { plain "tidewell/probe/GenerationsBlinkersPinLaw" (some 0) with
  accessFlags := 49
  interfaces := #[]
  cf := some (fileOf pool1 14 #[] #[{ accessFlags := 2, nameIndex := 5, descriptorIndex := 6, attributes := #[] }, { accessFlags := 9, nameIndex := 26, descriptorIndex := 27, attributes := #[] }, { accessFlags := 10, nameIndex := 17, descriptorIndex := 18, attributes := #[] }, { accessFlags := 10, nameIndex := 22, descriptorIndex := 23, attributes := #[] }] 49 2 #[] #[])
  fields := #[]
  methods := #[k1m0, k1m1, k1m2, k1m3]
  instanceTypes := #[]
  staticTypes := #[]
  resolved := Array.replicate 35 none
  statics := none }

def pool2 : Array CpInfo := pool [(2, .class_ 4), (1, u "java/lang/Object"), (0, u "<init>"), (0, u "()V"), (1, .class_ 10), (1, u "tidewell/probe/Generations"), (0, u "blinkers"), (0, u "(II)[[Z"), (81, .class_ 95), (0, u "[[Z"), (0, u "PERIOD_MS"), (0, u "J")] 23

def k2m0 : Method := { name := "<init>", desc := "()V", sig := { parameters := [], returnType := none }, accessFlags := 2, code := none }
def k2c1 : Code := { maxStack := 3, maxLocals := 6, code := prog_104_method_3_code, exceptionTable := #[], attributes := #[] }
def k2m1 : Method := { name := "blinkers", desc := "(II)[[Z", sig := { parameters := [.int, .int], returnType := some (.array (.array .boolean)) }, accessFlags := 8, code := some k2c1 }
/-- tidewell/probe/Generations -/
def k2 : Class := { plain "tidewell/probe/Generations" (some 0) with
  accessFlags := 48
  interfaces := #[]
  cf := some (fileOf pool2 8 #[] #[{ accessFlags := 2, nameIndex := 5, descriptorIndex := 6, attributes := #[] }, { accessFlags := 8, nameIndex := 11, descriptorIndex := 12, attributes := #[] }] 48 2 #[] #[{ accessFlags := 26, nameIndex := 96, descriptorIndex := 97, attributes := #[] }])
  fields := #[{ name := "PERIOD_MS", type := .long, accessFlags := 26, slot := 0, constantValue := 0 }]
  methods := #[k2m0, k2m1]
  instanceTypes := #[]
  staticTypes := #[.long]
  resolved := Array.replicate 121 none
  statics := none }

def pool3 : Array CpInfo := pool [(1, u "java/lang/Cloneable"), (0, .class_ 1), (0, u "java/lang/Object"), (0, .class_ 3)] 3

/-- java/lang/Cloneable -/
def k3 : Class := { plain "java/lang/Cloneable" (some 0) with
  accessFlags := 1537
  interfaces := #[]
  cf := some (fileOf pool3 2 #[] #[] 1537 4 #[] #[])
  fields := #[]
  methods := #[]
  instanceTypes := #[]
  staticTypes := #[]
  resolved := Array.replicate 8 none
  statics := none }

def pool4 : Array CpInfo := pool [(1, u "java/io/Serializable"), (0, .class_ 1), (0, u "java/lang/Object"), (0, .class_ 3)] 3

/-- java/io/Serializable -/
def k4 : Class := { plain "java/io/Serializable" (some 0) with
  accessFlags := 1537
  interfaces := #[]
  cf := some (fileOf pool4 2 #[] #[] 1537 4 #[] #[])
  fields := #[]
  methods := #[]
  instanceTypes := #[]
  staticTypes := #[]
  resolved := Array.replicate 8 none
  statics := none }

/-- the primitive boolean -/
def k5 : Class := { plain "boolean" none with kind := .primitive 'Z', accessFlags := 0x411 }
/-- [Z -/
def k6 : Class := { plain "[Z" (some 0) with kind := .array 5 .boolean, interfaces := #[3, 4], accessFlags := 1041 }

/-- the primitive byte -/
def k7 : Class := { plain "byte" none with kind := .primitive 'B', accessFlags := 0x411 }
/-- [B -/
def k8 : Class := { plain "[B" (some 0) with kind := .array 7 .byte, interfaces := #[3, 4], accessFlags := 1041 }

/-- the primitive int -/
def k9 : Class := { plain "int" none with kind := .primitive 'I', accessFlags := 0x411 }
/-- [I -/
def k10 : Class := { plain "[I" (some 0) with kind := .array 9 .int, interfaces := #[3, 4], accessFlags := 1041 }

def heap : Heap := #[]
/-- [[Z -/
def k11 : Class := { plain "[[Z" (some 0) with kind := .array 6 (.array .boolean), interfaces := #[3, 4], accessFlags := 1041 }
def classes : Array Class := #[k0, k1, k2, k3, k4, k5, k6, k7, k8, k9, k10, k11]
def interned : List (Array UInt16 × Addr) := []
def slotsUsed : Nat := 0
def theMethod : MethodId := ⟨1, 1⟩
def args0 : Array Value := #[.int 5, .int 6, .int 7, .int 8, .int 9, .int 10]
def aboutOver (below : List Frame) : State where
  vm := { classes := classes, interned := interned.toArray }
  heap := heap
  slotsUsed := slotsUsed
  threads := #[{ frames := .invoking theMethod args0 :: below }]
def below0 : List Frame := [.native { method := ⟨0, 0⟩, args := #[] }]
def about1 : State := aboutOver below0
def p0 : Program := .bare "" "" ""
def e0 : Env := launch0.env 0 0 0
theorem w_frames : about1.frames = Frame.invoking theMethod args0 :: below0 := rfl
set_option maxRecDepth 65536 in
theorem w_args : argsFit about1.vm theMethod args0 = true := by decide +kernel
set_option maxRecDepth 65536 in
theorem w_heap : heapFits about1 = true := by decide +kernel
set_option maxRecDepth 65536 in
theorem w_runnable : about1.curStatus? = some .runnable := by decide +kernel
set_option maxRecDepth 65536 in
theorem w_alone : about1.alone = true := by decide +kernel
set_option maxRecDepth 65536 in
theorem w_named : about1.methodNamed? x = some theMethod := by decide +kernel
set_option maxRecDepth 65536 in
theorem w_hears : about1.hears theMethod below0 = true := by decide +kernel
set_option maxRecDepth 65536 in
theorem w_ripe : about1.ripe theMethod args0 below0 = true := by decide +kernel
theorem w_running : about1.status = .running := rfl
set_option maxRecDepth 65536 in
theorem w_room : about1.hasRoom e0.platform room_1 = true :=
  launch0.hasRoom_least _ room_1 (by decide +kernel) (by decide +kernel) (by decide +kernel) (by decide +kernel) (by decide +kernel) (by decide +kernel)
theorem allAtoms_all (ts : List Jvm.Cond) (a : Array Jvm.Value) (st : Jvm.State) : (allAtoms ts).before a st = ts.all (fun c => c.before a st) := by
  induction ts with
  | nil => rfl
  | cons c t ih =>
    show (Jvm.Cond.and c (allAtoms t)).before a st = _
    rw [Jvm.Cond.before_and, ih, List.all_cons]
def words1 : List Jvm.Cond := Jvm.Cond.code x code maxLocals ret :: tables_1
/-- a 'code' word, met by the world's own term for the bytes: nothing is compared byte by byte -/
theorem code_word {y : MethodName} {bytes : ByteArray} {mx : Nat} {rt : Option FieldType} {a : Array Value} {s : State} {m : MethodId} {meth : Method} {c : Code} (h1 : s.methodNamed? y = some m) (h2 : s.vm.method? m = some meth) (h3 : meth.code = some c) (h4 : c.code = bytes)
    (h5 : (c.maxLocals == mx && c.exceptionTable.isEmpty && decide (c.maxStack ≤ mostOperands) && decide (meth.sig.returnType = rt) && !meth.locks && decide (parseMethodDescriptor y.desc = some meth.sig)) = true) : (Jvm.Cond.code y bytes mx rt).before a s = true := by
  simp only [Bool.and_eq_true, beq_iff_eq, Bool.not_eq_true', decide_eq_true_eq] at h5
  obtain ⟨⟨⟨⟨⟨g1, g2⟩, g3⟩, g4⟩, g5⟩, g6⟩ := h5
  simp [Cond.before, Cond.holds, Cond.value, h1, h2, h3, h4, g1, g2, g3, g4, g5, g6]
def isCode : Jvm.Cond → Bool
  | .code _ _ _ _ => true
  | _ => false
theorem all_split {L : List Jvm.Cond} {P : Jvm.Cond → Bool} (h1 : L.all (fun c => isCode c || P c) = true) (h2 : ∀ c ∈ L.filter isCode, P c = true) : L.all P = true := by
  refine List.all_eq_true.mpr fun c hc => ?_
  have h := List.all_eq_true.mp h1 c hc
  rcases Bool.eq_false_or_eq_true (isCode c) with hi | hi
  · exact h2 c (List.mem_filter.mpr ⟨hc, hi⟩)
  · simpa [hi] using h
set_option maxRecDepth 65536 in
theorem w_c0 : (Jvm.Cond.code x code maxLocals ret).before args0 about1 = true := code_word (m := ⟨1, 1⟩) (meth := k1m1) (c := k1c1) (by decide +kernel) rfl rfl rfl (by decide +kernel)
set_option maxRecDepth 65536 in
theorem w_c1 : (Jvm.Cond.code ({ cls := "tidewell/probe/Generations", name := "blinkers", desc := "(II)[[Z" } : Jvm.MethodName) prog_104_method_3_code (6 : Nat) (Option.some (Jvm.ClassFile.FieldType.array (Jvm.ClassFile.FieldType.array Jvm.ClassFile.FieldType.boolean)))).before args0 about1 = true := code_word (m := ⟨2, 1⟩) (meth := k2m1) (c := k2c1) (by decide +kernel) rfl rfl rfl (by decide +kernel)
set_option maxRecDepth 65536 in
theorem w_c2 : (Jvm.Cond.code ({ cls := "tidewell/probe/GenerationsBlinkersPinLaw", name := "probe", desc := "([[ZIIII)Z" } : Jvm.MethodName) method_3_code (8 : Nat) (Option.some Jvm.ClassFile.FieldType.boolean)).before args0 about1 = true := code_word (m := ⟨1, 2⟩) (meth := k1m2) (c := k1c2) (by decide +kernel) rfl rfl rfl (by decide +kernel)
set_option maxRecDepth 65536 in
theorem w_c3 : (Jvm.Cond.code ({ cls := "tidewell/probe/GenerationsBlinkersPinLaw", name := "expected", desc := "(IIII)Z" } : Jvm.MethodName) method_4_code (4 : Nat) (Option.some Jvm.ClassFile.FieldType.boolean)).before args0 about1 = true := code_word (m := ⟨1, 3⟩) (meth := k1m3) (c := k1c3) (by decide +kernel) rfl rfl rfl (by decide +kernel)
def codes1 : List Jvm.Cond := [Jvm.Cond.code x code maxLocals ret, Jvm.Cond.code ({ cls := "tidewell/probe/Generations", name := "blinkers", desc := "(II)[[Z" } : Jvm.MethodName) prog_104_method_3_code (6 : Nat) (Option.some (Jvm.ClassFile.FieldType.array (Jvm.ClassFile.FieldType.array Jvm.ClassFile.FieldType.boolean))), Jvm.Cond.code ({ cls := "tidewell/probe/GenerationsBlinkersPinLaw", name := "probe", desc := "([[ZIIII)Z" } : Jvm.MethodName) method_3_code (8 : Nat) (Option.some Jvm.ClassFile.FieldType.boolean), Jvm.Cond.code ({ cls := "tidewell/probe/GenerationsBlinkersPinLaw", name := "expected", desc := "(IIII)Z" } : Jvm.MethodName) method_4_code (4 : Nat) (Option.some Jvm.ClassFile.FieldType.boolean)]
set_option maxRecDepth 65536 in
theorem codes_eq : words1.filter isCode = codes1 := rfl
theorem w_codes : ∀ c ∈ words1.filter isCode, c.before args0 about1 = true := by
  rw [codes_eq]
  intro c hc
  simp only [codes1, List.mem_cons, List.not_mem_nil, or_false] at hc
  rcases hc with rfl | rfl | rfl | rfl
  · exact w_c0
  · exact w_c1
  · exact w_c2
  · exact w_c3
set_option maxRecDepth 65536 in
theorem w_t1 : words1.all (fun c => isCode c || c.before args0 about1) = true := by decide +kernel
theorem w_tables : (allAtoms (Jvm.Cond.code x code maxLocals ret :: tables_1)).before args0 about1 = true := by
  rw [allAtoms_all]
  show words1.all (fun c => c.before args0 about1) = true
  refine all_split ?_ w_codes
  rw [w_t1]
set_option maxRecDepth 65536 in
theorem w_case : (Jvm.Cond.and given_1 narrow_1).before args0 about1 = true := by decide +kernel
theorem w_applies : (headSpec (Jvm.Cond.code x code maxLocals ret :: tables_1) room_1).applies x e0.platform about1 = true :=
  (Spec.applies_iff w_frames).mpr ⟨w_running, w_runnable, w_alone, w_named, w_hears, w_ripe, w_room, w_tables⟩
theorem atStart : AtStart classFile x code maxLocals ret World_1 tables_1 room_1 Calls_1 rest_1 Pre_1 launch0 p0 e0 about1 theMethod args0 below0 :=
  ⟨lists_1, trivial, launch0.admits_env _ _ _, launch0.least_env, fairChoices_fair.cas, fairChoices_fair.clock, w_frames, w_args, w_heap, w_applies, trivial, trivial, w_case⟩
end start1
theorem witness_1 : WitnessClaimed_1 := ⟨start1.p0, start1.e0, start1.about1, start1.theMethod, start1.args0, start1.below0, start1.atStart⟩
end Jvm.Pilot.@@N@@
