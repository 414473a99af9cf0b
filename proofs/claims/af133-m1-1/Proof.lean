import JvmDerived
import JvmDerived.Pilot.@@N@@Statement
import JvmDerived.Pilot.@@N@@Code
set_option linter.unusedVariables false
set_option linter.unusedSimpArgs false
namespace Jvm.OwnK
open Sem ClassFile Op Lib Jvm.Stand Jvm.Free Jvm.LawKit Jvm.RoadKit
/-- the run from S ends, and well -/
def EndsK (p : Program) (e : Env) (below : List Frame) (QQ : Outcome → State → Prop) (S : State) : Prop :=
  ∃ s₂ o, Steps p.tables e below S s₂ ∧ s₂.status = .running ∧ Ended s₂ below o ∧ QQ o s₂
/-- what a body's contract says of its end -/
abbrev OQ (s : State) (Q : Option Value → Heap → List Loc → Prop) (ck cs : Nat) : Outcome → State → Prop :=
  fun o U' => ∃ v L, o = .returned v ∧ Q v U'.heap L ∧ FrameEnd s o U' L ck cs
section EndsK
variable {p : Program} {e : Env} {below : List Frame} {QQ : Outcome → State → Prop} {S S' T : State}
theorem EndsK.go (h : ∀ t, Steps p.tables e below S' t → Steps p.tables e below S t) (k : EndsK p e below QQ S') : EndsK p e below QQ S := by
  obtain ⟨s₂, o, h1, h2⟩ := k
  exact ⟨s₂, o, h _ h1, h2⟩
theorem EndsK.tr (h : Steps p.tables e below S S') (k : EndsK p e below QQ S') : EndsK p e below QQ S := by
  obtain ⟨s₂, o, h1, h2⟩ := k
  exact ⟨s₂, o, h.trans h1, h2⟩
theorem EndsK.start {g g' : JFrame} (q : g = g') (k : EndsK p e below QQ (T.setTop g')) : EndsK p e below QQ (T.setTop g) := q ▸ k
end EndsK
section Leave
variable {p : Program} {l : Launch} {e : Env} {R : Room} {s : State} {m : MethodId} {args : Array Value} {below : List Frame} {meth : Method} {c : Code} {T : State} {locs : List Loc} {cells slots : Nat} {Q : Option Value → Heap → List Loc → Prop} {ck cs pc : Nat} {Ls : Array Slot} {rest : List Value}
theorem endI (X : Stand p l e R s m args below meth c T locs cells slots) (hx : p.tables.exec = Jvm.exec) {z : Int32} (hret : meth.sig.returnType = some .int) (hd : decode c.code pc = .ok (.ireturn, 1)) (hlk : meth.locks = false)
    (hq : Q (some (.int z)) T.heap locs) (hc : cells ≤ ck) (hs : slots ≤ cs) : EndsK p e below (OQ s Q ck cs) (T.setTop (mkF m pc Ls (.int z :: rest))) := by
  obtain ⟨fs, hr, hrun, hended, hW, hsame⟩ := X.leave (v := some (.int z)) (fun h => by rw [hret] at h; cases h) hlk
  refine ⟨_, _, retOut X hx hret rfl (Or.inl ⟨rfl, Or.inl rfl, _, rfl⟩) hd hr, hrun, hended, _, _, rfl, hq, ⟨_, rfl⟩, hW, hsame.mono hc hs⟩
theorem endN (X : Stand p l e R s m args below meth c T locs cells slots) (hx : p.tables.exec = Jvm.exec) {z : Int32} {t : FieldType} (hret : meth.sig.returnType = some t) (ht : t = .boolean ∨ t = .byte ∨ t = .char ∨ t = .short) (hd : decode c.code pc = .ok (.ireturn, 1)) (hlk : meth.locks = false)
    (hq : Q (some (.int (nar t z))) T.heap locs) (hc : cells ≤ ck) (hs : slots ≤ cs) : EndsK p e below (OQ s Q ck cs) (T.setTop (mkF m pc Ls (.int z :: rest))) := by
  obtain ⟨fs, hr, hrun, hended, hW, hsame⟩ := X.leave (v := some (.int (nar t z))) (fun h => by rw [hret] at h; cases h) hlk
  exact ⟨_, _, retN X hx hret ht hd hr, hrun, hended, _, _, rfl, hq, ⟨_, rfl⟩, hW, hsame.mono hc hs⟩
theorem endJ (X : Stand p l e R s m args below meth c T locs cells slots) (hx : p.tables.exec = Jvm.exec) {z : Int64} (hret : meth.sig.returnType = some .long) (hd : decode c.code pc = .ok (.lreturn, 1)) (hlk : meth.locks = false)
    (hq : Q (some (.long z)) T.heap locs) (hc : cells ≤ ck) (hs : slots ≤ cs) : EndsK p e below (OQ s Q ck cs) (T.setTop (mkF m pc Ls (.long z :: rest))) := by
  obtain ⟨fs, hr, hrun, hended, hW, hsame⟩ := X.leave (v := some (.long z)) (fun h => by rw [hret] at h; cases h) hlk
  exact ⟨_, _, retOut X hx hret rfl (Or.inr (Or.inl ⟨rfl, rfl, _, rfl⟩)) hd hr, hrun, hended, _, _, rfl, hq, ⟨_, rfl⟩, hW, hsame.mono hc hs⟩
theorem endR (X : Stand p l e R s m args below meth c T locs cells slots) (hx : p.tables.exec = Jvm.exec) {w : Value} {t : FieldType} (hret : meth.sig.returnType = some t) (ht : t.isReference = true) (hw : w.isRef = true) (hd : decode c.code pc = .ok (.areturn, 1)) (hlk : meth.locks = false)
    (hq : Q (some w) T.heap locs) (hc : cells ≤ ck) (hs : slots ≤ cs) : EndsK p e below (OQ s Q ck cs) (T.setTop (mkF m pc Ls (w :: rest))) := by
  obtain ⟨fs, hr, hrun, hended, hW, hsame⟩ := X.leave (v := some w) (fun h => by rw [hret] at h; cases h) hlk
  have hn : narrow t w = w := by cases t <;> first | (cases ht; done) | (cases w <;> first | rfl | (cases hw; done))
  exact ⟨_, _, retOut X hx hret hn (Or.inr (Or.inr (Or.inr (Or.inr ⟨rfl, ht, hw⟩)))) hd hr, hrun, hended, _, _, rfl, hq, ⟨_, rfl⟩, hW, hsame.mono hc hs⟩
theorem endV (X : Stand p l e R s m args below meth c T locs cells slots) (hx : p.tables.exec = Jvm.exec) (hret : meth.sig.returnType = none) (hd : decode c.code pc = .ok (.return_, 1)) (hlk : meth.locks = false)
    (hq : Q none T.heap locs) (hc : cells ≤ ck) (hs : slots ≤ cs) : EndsK p e below (OQ s Q ck cs) (T.setTop (mkF m pc Ls [])) := by
  obtain ⟨fs, hr, hrun, hended, hW, hsame⟩ := X.leave (v := none) (fun _ => rfl) hlk
  exact ⟨_, _, X.returnOut hx hret hd hr, hrun, hended, _, _, rfl, hq, ⟨_, rfl⟩, hW, hsame.mono hc hs⟩
end Leave
section Heaps
variable {h0 h h' : Heap} {a : Addr} {sl : Nat} {v : Value}
theorem ext_refl (h : Heap) : Ext h h := ⟨Nat.le_refl _, fun _ _ q => q⟩
theorem ext_trans (E : Ext h0 h) (E' : Ext h h') : Ext h0 h' := ⟨Nat.le_trans E.1 E'.1, fun x c q => E'.2 x c (E.2 x c q)⟩
theorem ext_wr (E : Ext h0 h) (W : Wr h h' a sl v) (q : h0.size ≤ a) : Ext h0 h' := by
  refine ⟨Nat.le_trans E.1 (Nat.le_of_eq W.size.symm), fun x c r => ?_⟩
  obtain ⟨c', e1, -, -, -, e5, -⟩ := wr_at W (E.2 x c r)
  rw [e1, e5 (fun z => by
    subst z
    exact absurd (Array.getElem?_eq_some_iff.mp r).1 (Nat.not_lt.mpr q))]
theorem ext_kept {ws : List Addr} (E : Ext h0 h) (K : Keep h h' ws) (q : ∀ x ∈ ws, h0.size ≤ x) : Ext h0 h' :=
  ⟨Nat.le_trans E.1 K.1, fun x c r => K.2.1 x c (E.2 x c r) fun z => absurd (Array.getElem?_eq_some_iff.mp r).1 (Nat.not_lt.mpr (q x z))⟩
end Heaps
section Nums
theorem own_iadd (x y : Int32) (h1 : -2147483648 ≤ x.toInt + y.toInt) (h2 : x.toInt + y.toInt ≤ 2147483647) : (x + y).toInt = x.toInt + y.toInt := by
  have a := c_iadd x y
  have b := rng32 (x + y)
  omega
theorem own_isub (x y : Int32) (h1 : -2147483648 ≤ x.toInt - y.toInt) (h2 : x.toInt - y.toInt ≤ 2147483647) : (x - y).toInt = x.toInt - y.toInt := by
  have a := c_isub x y
  have b := rng32 (x - y)
  omega
theorem own_ladd (x y : Int64) (h1 : -9223372036854775808 ≤ x.toInt + y.toInt) (h2 : x.toInt + y.toInt ≤ 9223372036854775807) : (x + y).toInt = x.toInt + y.toInt := by
  have a := c_ladd x y
  have b := rng64 (x + y)
  omega
theorem own_lsub (x y : Int64) (h1 : -9223372036854775808 ≤ x.toInt - y.toInt) (h2 : x.toInt - y.toInt ≤ 9223372036854775807) : (x - y).toInt = x.toInt - y.toInt := by
  have a := c_lsub x y
  have b := rng64 (x - y)
  omega
theorem own_l2i (x : Int64) (h1 : -2147483648 ≤ x.toInt) (h2 : x.toInt ≤ 2147483647) : x.toInt32.toInt = x.toInt := by
  have a := c_l2i x
  have b := rng32 x.toInt32
  omega
theorem own_wide (x y : Int32) (d : Int) (hy : y.toInt = d) : (x.toInt64 * y.toInt64).toInt = x.toInt * d := by rw [← hy]; exact XT.wideMul x y
end Nums
section Words
variable {Z : State} {args : Array Value} {t u : Term} {a b : Addr} {C n d O : String} {v : Value}
theorem fldI {k : Int32} (ev : t.eval args Z none [] Z = some (.ref a)) (h : (Cond.eq (.field t O n d) (.int k)).value args Z none Z [] = some true) : Fld Z Z.heap a O n d (.int k) := by
  obtain ⟨x, y, e1, e2, -, k2⟩ := cmp_v (Or.inl h)
  cases e2
  obtain ⟨z, rfl⟩ := k2
  have e3 := (fld_at (C := O) (n := n) (dd := d) ev).symm.trans e1
  have q := gotT (Cond.eq_ints e1 rfl) h
  subst q
  exact Fld.start e3
theorem fldR (ev : t.eval args Z none [] Z = some (.ref a)) (eu : u.eval args Z none [] Z = some (.ref b)) (h : (Cond.eq (.field t O n d) u).value args Z none Z [] = some true) : Fld Z Z.heap a O n d (.ref b) := by
  obtain ⟨x, y, e1, e2, -, k2⟩ := cmp_v (Or.inl h)
  cases eu.symm.trans e2
  have e3 := (fld_at (C := O) (n := n) (dd := d) ev).symm.trans e1
  have q := gotT (eq_R e1 eu k2.2 rfl) h
  subst q
  exact Fld.start e3
theorem fldN (ev : t.eval args Z none [] Z = some (.ref a)) (h : (Cond.eq (.field t O n d) .null).value args Z none Z [] = some true) : Fld Z Z.heap a O n d .null :=
  Fld.start ((fld_at (C := O) (n := n) (dd := d) ev).symm.trans (null_v h))
/-- an int[] of the start: its length and what it holds, as the case says -/
theorem arrLen {k : Int32} {cl : Cell} {ty : FieldType} (ev : t.eval args Z none [] Z = some (.ref a)) (A : Arr Z Z.heap a cl ty) (h : (Cond.eq (.length t) (.int k)).value args Z none Z [] = some true) : cl.slots.size < 2 ^ 31 ∧ cl.slots.size.toInt32 = k := by
  obtain ⟨x, y, e1, e2, -, k2⟩ := cmp_v (Or.inl h)
  cases e2
  obtain ⟨z, rfl⟩ := k2
  have q := gotT (Cond.eq_ints e1 rfl) h
  subst q
  have ha := A.fin (Vm.Alike.refl _)
  simp only [Term.eval, ev, ha, Option.bind_eq_bind, Option.bind_some] at e1
  split at e1
  · rename_i hlt; exact ⟨hlt, by simpa using e1⟩
  · cases e1
theorem arrAt {j k : Int32} {cl : Cell} {ty : FieldType} (ev : t.eval args Z none [] Z = some (.ref a)) (A : Arr Z Z.heap a cl ty) (h : (Cond.eq (.elem t (.int j)) (.int k)).value args Z none Z [] = some true) : ¬ (j < 0 ∨ cl.slots.size ≤ j.toNatClampNeg) ∧ cl.slots[j.toNatClampNeg]? = some (.int k) := by
  obtain ⟨x, y, e1, e2, -, k2⟩ := cmp_v (Or.inl h)
  cases e2
  obtain ⟨z, rfl⟩ := k2
  have q := gotT (Cond.eq_ints e1 rfl) h
  subst q
  exact elem_in e1 ev rfl A.1
end Words
end Jvm.OwnK
namespace Jvm.Pilot.@@N@@
open Jvm Jvm.ClassFile Sem Op Lib Jvm.Free Jvm.Stand Jvm.LawKit Jvm.RoadKit Jvm.OwnK Bundle Jvm.Pilot.@@N@@.Jvm.D
def famF (i : Int32) : Int32 := if i = 0 then -1 else if i = 1 then 1 else if i = 2 then 6 else if 7 < i then (if 13 < i then (if i = 14 then 3 else if i = 15 then 4 else if i = 16 then 5 else 2) else 1) else 0
def disF (f f' : Value) : Int32 := if f = .null then 0 else if f' = .null then 0 else if f = f' then 0 else 1
def own_fa (y0 y1 y2 y3 y4 y5 y6 : Addr) (k : Int32) : Addr := if k = 0 then y0 else if k = 1 then y1 else if k = 2 then y2 else if k = 3 then y3 else if k = 4 then y4 else if k = 5 then y5 else y6
def Cod (Z : State) (h : Heap) (fa : Int32 → Addr) (f : Value) (k : Int32) : Prop := (f = .null ∧ k = -1) ∨ ∃ y, f = .ref y ∧ ¬ k < 0 ∧ Fld Z h y "java/lang/Enum" "ordinal" "I" (.int k) ∧ y = fa k
theorem own_nn {Z : State} {h : Heap} {fa : Int32 → Addr} {f : Value} {k : Int32} (c : Cod Z h fa f k) : f.isRef = true := by rcases c with ⟨rfl, -⟩ | ⟨y, rfl, -⟩ <;> rfl
theorem own_fin {Z : State} {h : Heap} {fa : Int32 → Addr} {f f' : Value} {k k' : Int32} (c : Cod Z h fa f k) (c' : Cod Z h fa f' k') : (k < 0 → disF f f' = 0) ∧ (k' < 0 → disF f f' = 0) ∧ (k = k' → disF f f' = 0) ∧ (¬ k < 0 → ¬ k' < 0 → ¬ k = k' → disF f f' = 1) := by
  rcases c with ⟨rfl, rfl⟩ | ⟨y, rfl, p1, p2, p3⟩
  · exact ⟨fun _ => rfl, fun _ => rfl, fun _ => rfl, fun q => absurd (by decide) q⟩
  · rcases c' with ⟨rfl, rfl⟩ | ⟨y', rfl, q1, q2, q3⟩
    · exact ⟨fun _ => rfl, fun _ => rfl, fun _ => rfl, fun _ q => absurd (by decide) q⟩
    · refine ⟨fun q => absurd q p1, fun q => absurd q q1, fun q => ?_, fun _ _ q => ?_⟩
      · have e : y = y' := by rw [p3, q3, q]
        subst e
        simp [disF]
      · have e : y ≠ y' := Fld.ne p2 q2 (fun z => q (Value.int.inj z))
        simp [disF, e]
theorem own_nineteen {i : Int32} (h1 : ¬ i < 0) (h2 : i < 19) : i = 0 ∨ i = 1 ∨ i = 2 ∨ i = 3 ∨ i = 4 ∨ i = 5 ∨ i = 6 ∨ i = 7 ∨ i = 8 ∨ i = 9 ∨ i = 10 ∨ i = 11 ∨ i = 12 ∨ i = 13 ∨ i = 14 ∨ i = 15 ∨ i = 16 ∨ i = 17 ∨ i = 18 := by
  have a : ¬ i.toInt < (0 : Int32).toInt := fun q => h1 (Int32.lt_iff_toInt_lt.mpr q)
  have b := Int32.lt_iff_toInt_lt.mp h2
  simp only [← Int32.toInt_inj]
  have e0 : (0 : Int32).toInt = 0 := rfl
  have e1 : (1 : Int32).toInt = 1 := rfl
  have e2 : (2 : Int32).toInt = 2 := rfl
  have e3 : (3 : Int32).toInt = 3 := rfl
  have e4 : (4 : Int32).toInt = 4 := rfl
  have e5 : (5 : Int32).toInt = 5 := rfl
  have e6 : (6 : Int32).toInt = 6 := rfl
  have e7 : (7 : Int32).toInt = 7 := rfl
  have e8 : (8 : Int32).toInt = 8 := rfl
  have e9 : (9 : Int32).toInt = 9 := rfl
  have e10 : (10 : Int32).toInt = 10 := rfl
  have e11 : (11 : Int32).toInt = 11 := rfl
  have e12 : (12 : Int32).toInt = 12 := rfl
  have e13 : (13 : Int32).toInt = 13 := rfl
  have e14 : (14 : Int32).toInt = 14 := rfl
  have e15 : (15 : Int32).toInt = 15 := rfl
  have e16 : (16 : Int32).toInt = 16 := rfl
  have e17 : (17 : Int32).toInt = 17 := rfl
  have e18 : (18 : Int32).toInt = 18 := rfl
  have e19 : (19 : Int32).toInt = 19 := rfl
  omega
theorem own_pick {Z : State} {h : Heap} {d0 d1 d2 d3 d4 d5 d6 d7 d8 d9 d10 d11 d12 d13 d14 d15 d16 d17 d18 y0 y1 y2 y3 y4 y5 y6 : Addr} (E0 : Exa Z h d0 "com/example/quarry/quarry/rdf/Datatype") (E1 : Exa Z h d1 "com/example/quarry/quarry/rdf/Datatype") (E2 : Exa Z h d2 "com/example/quarry/quarry/rdf/Datatype") (E3 : Exa Z h d3 "com/example/quarry/quarry/rdf/Datatype") (E4 : Exa Z h d4 "com/example/quarry/quarry/rdf/Datatype") (E5 : Exa Z h d5 "com/example/quarry/quarry/rdf/Datatype") (E6 : Exa Z h d6 "com/example/quarry/quarry/rdf/Datatype") (E7 : Exa Z h d7 "com/example/quarry/quarry/rdf/Datatype") (E8 : Exa Z h d8 "com/example/quarry/quarry/rdf/Datatype") (E9 : Exa Z h d9 "com/example/quarry/quarry/rdf/Datatype") (E10 : Exa Z h d10 "com/example/quarry/quarry/rdf/Datatype") (E11 : Exa Z h d11 "com/example/quarry/quarry/rdf/Datatype") (E12 : Exa Z h d12 "com/example/quarry/quarry/rdf/Datatype") (E13 : Exa Z h d13 "com/example/quarry/quarry/rdf/Datatype") (E14 : Exa Z h d14 "com/example/quarry/quarry/rdf/Datatype") (E15 : Exa Z h d15 "com/example/quarry/quarry/rdf/Datatype") (E16 : Exa Z h d16 "com/example/quarry/quarry/rdf/Datatype") (E17 : Exa Z h d17 "com/example/quarry/quarry/rdf/Datatype") (E18 : Exa Z h d18 "com/example/quarry/quarry/rdf/Datatype") (F0 : Fld Z h d0 "com/example/quarry/quarry/rdf/Datatype" "family" "Lcom/example/quarry/quarry/rdf/Datatype$Family;" .null) (F1 : Fld Z h d1 "com/example/quarry/quarry/rdf/Datatype" "family" "Lcom/example/quarry/quarry/rdf/Datatype$Family;" (.ref y1)) (F2 : Fld Z h d2 "com/example/quarry/quarry/rdf/Datatype" "family" "Lcom/example/quarry/quarry/rdf/Datatype$Family;" (.ref y6)) (F3 : Fld Z h d3 "com/example/quarry/quarry/rdf/Datatype" "family" "Lcom/example/quarry/quarry/rdf/Datatype$Family;" (.ref y0)) (F4 : Fld Z h d4 "com/example/quarry/quarry/rdf/Datatype" "family" "Lcom/example/quarry/quarry/rdf/Datatype$Family;" (.ref y0)) (F5 : Fld Z h d5 "com/example/quarry/quarry/rdf/Datatype" "family" "Lcom/example/quarry/quarry/rdf/Datatype$Family;" (.ref y0)) (F6 : Fld Z h d6 "com/example/quarry/quarry/rdf/Datatype" "family" "Lcom/example/quarry/quarry/rdf/Datatype$Family;" (.ref y0)) (F7 : Fld Z h d7 "com/example/quarry/quarry/rdf/Datatype" "family" "Lcom/example/quarry/quarry/rdf/Datatype$Family;" (.ref y0)) (F8 : Fld Z h d8 "com/example/quarry/quarry/rdf/Datatype" "family" "Lcom/example/quarry/quarry/rdf/Datatype$Family;" (.ref y1)) (F9 : Fld Z h d9 "com/example/quarry/quarry/rdf/Datatype" "family" "Lcom/example/quarry/quarry/rdf/Datatype$Family;" (.ref y1)) (F10 : Fld Z h d10 "com/example/quarry/quarry/rdf/Datatype" "family" "Lcom/example/quarry/quarry/rdf/Datatype$Family;" (.ref y1)) (F11 : Fld Z h d11 "com/example/quarry/quarry/rdf/Datatype" "family" "Lcom/example/quarry/quarry/rdf/Datatype$Family;" (.ref y1)) (F12 : Fld Z h d12 "com/example/quarry/quarry/rdf/Datatype" "family" "Lcom/example/quarry/quarry/rdf/Datatype$Family;" (.ref y1)) (F13 : Fld Z h d13 "com/example/quarry/quarry/rdf/Datatype" "family" "Lcom/example/quarry/quarry/rdf/Datatype$Family;" (.ref y1)) (F14 : Fld Z h d14 "com/example/quarry/quarry/rdf/Datatype" "family" "Lcom/example/quarry/quarry/rdf/Datatype$Family;" (.ref y3)) (F15 : Fld Z h d15 "com/example/quarry/quarry/rdf/Datatype" "family" "Lcom/example/quarry/quarry/rdf/Datatype$Family;" (.ref y4)) (F16 : Fld Z h d16 "com/example/quarry/quarry/rdf/Datatype" "family" "Lcom/example/quarry/quarry/rdf/Datatype$Family;" (.ref y5)) (F17 : Fld Z h d17 "com/example/quarry/quarry/rdf/Datatype" "family" "Lcom/example/quarry/quarry/rdf/Datatype$Family;" (.ref y2)) (F18 : Fld Z h d18 "com/example/quarry/quarry/rdf/Datatype" "family" "Lcom/example/quarry/quarry/rdf/Datatype$Family;" (.ref y2)) (G0 : Fld Z h y0 "java/lang/Enum" "ordinal" "I" (.int 0)) (G1 : Fld Z h y1 "java/lang/Enum" "ordinal" "I" (.int 1)) (G2 : Fld Z h y2 "java/lang/Enum" "ordinal" "I" (.int 2)) (G3 : Fld Z h y3 "java/lang/Enum" "ordinal" "I" (.int 3)) (G4 : Fld Z h y4 "java/lang/Enum" "ordinal" "I" (.int 4)) (G5 : Fld Z h y5 "java/lang/Enum" "ordinal" "I" (.int 5)) (G6 : Fld Z h y6 "java/lang/Enum" "ordinal" "I" (.int 6)) {i : Int32} (h1 : ¬ i < 0) (h2 : i < 19) : ∃ d f, ([.ref d0, .ref d1, .ref d2, .ref d3, .ref d4, .ref d5, .ref d6, .ref d7, .ref d8, .ref d9, .ref d10, .ref d11, .ref d12, .ref d13, .ref d14, .ref d15, .ref d16, .ref d17, .ref d18] : List Value).getD i.toNatClampNeg .null = .ref d ∧ Exa Z h d "com/example/quarry/quarry/rdf/Datatype" ∧ Fld Z h d "com/example/quarry/quarry/rdf/Datatype" "family" "Lcom/example/quarry/quarry/rdf/Datatype$Family;" f ∧ Cod Z h (own_fa y0 y1 y2 y3 y4 y5 y6) f (famF i) := by
  rcases own_nineteen h1 h2 with rfl | rfl | rfl | rfl | rfl | rfl | rfl | rfl | rfl | rfl | rfl | rfl | rfl | rfl | rfl | rfl | rfl | rfl | rfl
  · exact ⟨d0, .null, rfl, E0, F0, Or.inl ⟨rfl, by decide⟩⟩
  · exact ⟨d1, (.ref y1), rfl, E1, F1, by rw [show famF 1 = 1 from by decide]; exact Or.inr ⟨y1, rfl, by decide, G1, rfl⟩⟩
  · exact ⟨d2, (.ref y6), rfl, E2, F2, by rw [show famF 2 = 6 from by decide]; exact Or.inr ⟨y6, rfl, by decide, G6, rfl⟩⟩
  · exact ⟨d3, (.ref y0), rfl, E3, F3, by rw [show famF 3 = 0 from by decide]; exact Or.inr ⟨y0, rfl, by decide, G0, rfl⟩⟩
  · exact ⟨d4, (.ref y0), rfl, E4, F4, by rw [show famF 4 = 0 from by decide]; exact Or.inr ⟨y0, rfl, by decide, G0, rfl⟩⟩
  · exact ⟨d5, (.ref y0), rfl, E5, F5, by rw [show famF 5 = 0 from by decide]; exact Or.inr ⟨y0, rfl, by decide, G0, rfl⟩⟩
  · exact ⟨d6, (.ref y0), rfl, E6, F6, by rw [show famF 6 = 0 from by decide]; exact Or.inr ⟨y0, rfl, by decide, G0, rfl⟩⟩
  · exact ⟨d7, (.ref y0), rfl, E7, F7, by rw [show famF 7 = 0 from by decide]; exact Or.inr ⟨y0, rfl, by decide, G0, rfl⟩⟩
  · exact ⟨d8, (.ref y1), rfl, E8, F8, by rw [show famF 8 = 1 from by decide]; exact Or.inr ⟨y1, rfl, by decide, G1, rfl⟩⟩
  · exact ⟨d9, (.ref y1), rfl, E9, F9, by rw [show famF 9 = 1 from by decide]; exact Or.inr ⟨y1, rfl, by decide, G1, rfl⟩⟩
  · exact ⟨d10, (.ref y1), rfl, E10, F10, by rw [show famF 10 = 1 from by decide]; exact Or.inr ⟨y1, rfl, by decide, G1, rfl⟩⟩
  · exact ⟨d11, (.ref y1), rfl, E11, F11, by rw [show famF 11 = 1 from by decide]; exact Or.inr ⟨y1, rfl, by decide, G1, rfl⟩⟩
  · exact ⟨d12, (.ref y1), rfl, E12, F12, by rw [show famF 12 = 1 from by decide]; exact Or.inr ⟨y1, rfl, by decide, G1, rfl⟩⟩
  · exact ⟨d13, (.ref y1), rfl, E13, F13, by rw [show famF 13 = 1 from by decide]; exact Or.inr ⟨y1, rfl, by decide, G1, rfl⟩⟩
  · exact ⟨d14, (.ref y3), rfl, E14, F14, by rw [show famF 14 = 3 from by decide]; exact Or.inr ⟨y3, rfl, by decide, G3, rfl⟩⟩
  · exact ⟨d15, (.ref y4), rfl, E15, F15, by rw [show famF 15 = 4 from by decide]; exact Or.inr ⟨y4, rfl, by decide, G4, rfl⟩⟩
  · exact ⟨d16, (.ref y5), rfl, E16, F16, by rw [show famF 16 = 5 from by decide]; exact Or.inr ⟨y5, rfl, by decide, G5, rfl⟩⟩
  · exact ⟨d17, (.ref y2), rfl, E17, F17, by rw [show famF 17 = 2 from by decide]; exact Or.inr ⟨y2, rfl, by decide, G2, rfl⟩⟩
  · exact ⟨d18, (.ref y2), rfl, E18, F18, by rw [show famF 18 = 2 from by decide]; exact Or.inr ⟨y2, rfl, by decide, G2, rfl⟩⟩
theorem d1_0 : decode method_2_code 0 = .ok (.iload_n 0, 1) := by decide +kernel
theorem d1_1 : decode method_2_code 1 = .ok (.ifCond .ne 5, 3) := by decide +kernel
theorem d1_4 : decode method_2_code 4 = .ok (.iconst (-1), 1) := by decide +kernel
theorem d1_5 : decode method_2_code 5 = .ok (.ireturn, 1) := by decide +kernel
theorem d1_6 : decode method_2_code 6 = .ok (.iload_n 0, 1) := by decide +kernel
theorem d1_7 : decode method_2_code 7 = .ok (.iconst 1, 1) := by decide +kernel
theorem d1_8 : decode method_2_code 8 = .ok (.if_icmp .ne 5, 3) := by decide +kernel
theorem d1_11 : decode method_2_code 11 = .ok (.iconst 1, 1) := by decide +kernel
theorem d1_12 : decode method_2_code 12 = .ok (.ireturn, 1) := by decide +kernel
theorem d1_13 : decode method_2_code 13 = .ok (.iload_n 0, 1) := by decide +kernel
theorem d1_14 : decode method_2_code 14 = .ok (.iconst 2, 1) := by decide +kernel
theorem d1_15 : decode method_2_code 15 = .ok (.if_icmp .ne 6, 3) := by decide +kernel
theorem d1_18 : decode method_2_code 18 = .ok (.bipush 6, 2) := by decide +kernel
theorem d1_20 : decode method_2_code 20 = .ok (.ireturn, 1) := by decide +kernel
theorem d1_21 : decode method_2_code 21 = .ok (.iload_n 0, 1) := by decide +kernel
theorem d1_22 : decode method_2_code 22 = .ok (.bipush 7, 2) := by decide +kernel
theorem d1_24 : decode method_2_code 24 = .ok (.if_icmp .gt 5, 3) := by decide +kernel
theorem d1_27 : decode method_2_code 27 = .ok (.iconst 0, 1) := by decide +kernel
theorem d1_28 : decode method_2_code 28 = .ok (.ireturn, 1) := by decide +kernel
theorem d1_29 : decode method_2_code 29 = .ok (.iload_n 0, 1) := by decide +kernel
theorem d1_30 : decode method_2_code 30 = .ok (.bipush 13, 2) := by decide +kernel
theorem d1_32 : decode method_2_code 32 = .ok (.if_icmp .gt 5, 3) := by decide +kernel
theorem d1_35 : decode method_2_code 35 = .ok (.iconst 1, 1) := by decide +kernel
theorem d1_36 : decode method_2_code 36 = .ok (.ireturn, 1) := by decide +kernel
theorem d1_37 : decode method_2_code 37 = .ok (.iload_n 0, 1) := by decide +kernel
theorem d1_38 : decode method_2_code 38 = .ok (.bipush 14, 2) := by decide +kernel
theorem d1_40 : decode method_2_code 40 = .ok (.if_icmp .ne 5, 3) := by decide +kernel
theorem d1_43 : decode method_2_code 43 = .ok (.iconst 3, 1) := by decide +kernel
theorem d1_44 : decode method_2_code 44 = .ok (.ireturn, 1) := by decide +kernel
theorem d1_45 : decode method_2_code 45 = .ok (.iload_n 0, 1) := by decide +kernel
theorem d1_46 : decode method_2_code 46 = .ok (.bipush 15, 2) := by decide +kernel
theorem d1_48 : decode method_2_code 48 = .ok (.if_icmp .ne 5, 3) := by decide +kernel
theorem d1_51 : decode method_2_code 51 = .ok (.iconst 4, 1) := by decide +kernel
theorem d1_52 : decode method_2_code 52 = .ok (.ireturn, 1) := by decide +kernel
theorem d1_53 : decode method_2_code 53 = .ok (.iload_n 0, 1) := by decide +kernel
theorem d1_54 : decode method_2_code 54 = .ok (.bipush 16, 2) := by decide +kernel
theorem d1_56 : decode method_2_code 56 = .ok (.if_icmp .ne 5, 3) := by decide +kernel
theorem d1_59 : decode method_2_code 59 = .ok (.iconst 5, 1) := by decide +kernel
theorem d1_60 : decode method_2_code 60 = .ok (.ireturn, 1) := by decide +kernel
theorem d1_61 : decode method_2_code 61 = .ok (.iconst 2, 1) := by decide +kernel
theorem d1_62 : decode method_2_code 62 = .ok (.ireturn, 1) := by decide +kernel
theorem pn0 : plainName "com/example/quarry/quarry/rdf/DatatypeIsDisjointFromPinLaw" = true := by first | (simp [plainName, overriddenIn]; done) | decide +kernel
theorem ef_fam (m : MethodId) (i : Int32) : entryFrame m #[(.int i)] 1 = mkF m 0 #[.val (.int i)] [] := by first | (simp [entryFrame, mkF, argsToLocals, Value.category]; done) | rfl
def Q_fam (Z : State) (i : Int32) (h0 : Heap) (n0 : Nat) (vz : Option Value) (hz : Heap) (Lz : List Loc) : Prop := vz = some (.int (famF i)) ∧ Fr n0 Lz ∧ hz = h0
set_option maxRecDepth 65536 in
set_option maxHeartbeats 40000000 in
theorem rm_fam (l : Launch) (Z : State) (a0 : Array Value) (hw : ∀ d ∈ tables_1, d.before a0 Z = true) (ws : List Jvm.Cond) (i : Int32) (h0 : Heap) (n0 : Nat) (Z0 : n0 ≤ h0.size)  :
    MetFree l (⟨"com/example/quarry/quarry/rdf/DatatypeIsDisjointFromPinLaw", "fam", "(I)I"⟩ : MethodName) (head1 (Jvm.Cond.code (⟨"com/example/quarry/quarry/rdf/DatatypeIsDisjointFromPinLaw", "fam", "(I)I"⟩ : MethodName) method_2_code 1 (some .int) :: ws) ({ frames := 0, cells := 0, slots := 0, locals := 0 } : Room)) (fun az Uz => az = #[(.int i)] ∧ Z.Warmed39 Uz.vm ∧ Uz.heap = h0) (fun _ _ _ _ _ => True) (fun _ Uz oz Ut => ∃ vz Lz, oz = .returned vz ∧ Q_fam Z i h0 n0 vz Ut.heap Lz ∧ FrameEnd Uz oz Ut Lz (({ frames := 0, cells := 0, slots := 0, locals := 0 } : Room)).cells (({ frames := 0, cells := 0, slots := 0, locals := 0 } : Room)).slots) := by
  refine MetFree.of_bodySF (plainFor_of_name pn0) hisR ?_
  intro p e s m args below meth c s₁ Bd hml0 hP hK
  obtain ⟨rfl, hZ, hh⟩ := hP
  have hx := Bd.exec
  have hby := Bd.bytes
  have hml : c.maxLocals = 1 := hml0
  have hown : s.vm.findClass "com/example/quarry/quarry/rdf/DatatypeIsDisjointFromPinLaw" = some m.cls := findClass_of_methodNamed Bd.named
  have hnm := (name_of_methodNamed Bd.named Bd.method).1
  have hlk : meth.locks = false := Bd.notSynchronized
  have X0 : Stand p l e ({ frames := 0, cells := 0, slots := 0, locals := 0 } : Room) s m #[(.int i)] below meth c s₁ [] 0 0 := Stand.of_body Bd
  have e0 : s₁.heap = h0 := by rw [← hh, Bd.state]; rfl
  have N0 := Fr.nil n0
  show EndsK p e below (OQ s (Q_fam Z i h0 n0) (({ frames := 0, cells := 0, slots := 0, locals := 0 } : Room)).cells (({ frames := 0, cells := 0, slots := 0, locals := 0 } : Room)).slots) (s₁.setTop (entryFrame m #[(.int i)] 1))
  refine EndsK.start (ef_fam m i) ?_
  show EndsK p e below _ (s₁.setTop (mkF m 0 #[.val (.int i)] []))
  refine EndsK.go (fun _ kz => XS.iloadN X0.here hx rfl (hb hby d1_0) rfl kz) ?_
  show EndsK p e below _ (s₁.setTop (mkF m 1 #[.val (.int i)] [(.int i)]))
  by_cases H1_1 : i = (0 : Int32)
  · refine EndsK.go (fun _ kz => XS.ifNo X0.here hx rfl (hb hby d1_1) rfl ((if0 _ _).trans (teq H1_1).2) kz) ?_
    show EndsK p e below _ (s₁.setTop (mkF m 4 #[.val (.int i)] []))
    refine EndsK.go (fun _ kz => XS.iconst X0.here hx rfl (hb hby d1_4) kz) ?_
    show EndsK p e below _ (s₁.setTop (mkF m 5 #[.val (.int i)] [(.int (-1 : Int32))]))
    exact endI X0 hx Bd.returns (hb hby d1_5) hlk ⟨(congrArg (fun z => some (Value.int z)) (by simp [famF, H1_1] : famF i = (-1 : Int32))).symm, N0, e0⟩ (by decide) (by decide)
  · refine EndsK.go (fun _ kz => XS.ifYes X0.here hx rfl (pc0 := 1) (pc' := 6) rfl (hb hby d1_1) rfl ((if0 _ _).trans (feq H1_1).2) (by decide) (by decide) kz) ?_
    show EndsK p e below _ (s₁.setTop (mkF m 6 #[.val (.int i)] []))
    refine EndsK.go (fun _ kz => XS.iloadN X0.here hx rfl (hb hby d1_6) rfl kz) ?_
    show EndsK p e below _ (s₁.setTop (mkF m 7 #[.val (.int i)] [(.int i)]))
    refine EndsK.go (fun _ kz => XS.iconst X0.here hx rfl (hb hby d1_7) kz) ?_
    show EndsK p e below _ (s₁.setTop (mkF m 8 #[.val (.int i)] [(.int (1 : Int32)), (.int i)]))
    by_cases H8_2 : i = (1 : Int32)
    · refine EndsK.go (fun _ kz => XS.icmpNo X0.here hx rfl (hb hby d1_8) rfl (teq H8_2).2 kz) ?_
      show EndsK p e below _ (s₁.setTop (mkF m 11 #[.val (.int i)] []))
      refine EndsK.go (fun _ kz => XS.iconst X0.here hx rfl (hb hby d1_11) kz) ?_
      show EndsK p e below _ (s₁.setTop (mkF m 12 #[.val (.int i)] [(.int (1 : Int32))]))
      exact endI X0 hx Bd.returns (hb hby d1_12) hlk ⟨(congrArg (fun z => some (Value.int z)) (by simp [famF, H1_1, H8_2] : famF i = (1 : Int32))).symm, N0, e0⟩ (by decide) (by decide)
    · refine EndsK.go (fun _ kz => XS.icmpYes X0.here hx rfl (pc0 := 8) (pc' := 13) rfl (hb hby d1_8) rfl (feq H8_2).2 (by decide) (by decide) kz) ?_
      show EndsK p e below _ (s₁.setTop (mkF m 13 #[.val (.int i)] []))
      refine EndsK.go (fun _ kz => XS.iloadN X0.here hx rfl (hb hby d1_13) rfl kz) ?_
      show EndsK p e below _ (s₁.setTop (mkF m 14 #[.val (.int i)] [(.int i)]))
      refine EndsK.go (fun _ kz => XS.iconst X0.here hx rfl (hb hby d1_14) kz) ?_
      show EndsK p e below _ (s₁.setTop (mkF m 15 #[.val (.int i)] [(.int (2 : Int32)), (.int i)]))
      by_cases H15_3 : i = (2 : Int32)
      · refine EndsK.go (fun _ kz => XS.icmpNo X0.here hx rfl (hb hby d1_15) rfl (teq H15_3).2 kz) ?_
        show EndsK p e below _ (s₁.setTop (mkF m 18 #[.val (.int i)] []))
        refine EndsK.go (fun _ kz => XS.bipush X0.here hx rfl (hb hby d1_18) kz) ?_
        show EndsK p e below _ (s₁.setTop (mkF m 20 #[.val (.int i)] [(.int (6 : Int32))]))
        exact endI X0 hx Bd.returns (hb hby d1_20) hlk ⟨(congrArg (fun z => some (Value.int z)) (by simp [famF, H1_1, H8_2, H15_3] : famF i = (6 : Int32))).symm, N0, e0⟩ (by decide) (by decide)
      · refine EndsK.go (fun _ kz => XS.icmpYes X0.here hx rfl (pc0 := 15) (pc' := 21) rfl (hb hby d1_15) rfl (feq H15_3).2 (by decide) (by decide) kz) ?_
        show EndsK p e below _ (s₁.setTop (mkF m 21 #[.val (.int i)] []))
        refine EndsK.go (fun _ kz => XS.iloadN X0.here hx rfl (hb hby d1_21) rfl kz) ?_
        show EndsK p e below _ (s₁.setTop (mkF m 22 #[.val (.int i)] [(.int i)]))
        refine EndsK.go (fun _ kz => XS.bipush X0.here hx rfl (hb hby d1_22) kz) ?_
        show EndsK p e below _ (s₁.setTop (mkF m 24 #[.val (.int i)] [(.int (7 : Int32)), (.int i)]))
        by_cases H24_4 : (7 : Int32) < i
        · refine EndsK.go (fun _ kz => XS.icmpYes X0.here hx rfl (pc0 := 24) (pc' := 29) rfl (hb hby d1_24) rfl (tlt H24_4).2.2.1 (by decide) (by decide) kz) ?_
          show EndsK p e below _ (s₁.setTop (mkF m 29 #[.val (.int i)] []))
          refine EndsK.go (fun _ kz => XS.iloadN X0.here hx rfl (hb hby d1_29) rfl kz) ?_
          show EndsK p e below _ (s₁.setTop (mkF m 30 #[.val (.int i)] [(.int i)]))
          refine EndsK.go (fun _ kz => XS.bipush X0.here hx rfl (hb hby d1_30) kz) ?_
          show EndsK p e below _ (s₁.setTop (mkF m 32 #[.val (.int i)] [(.int (13 : Int32)), (.int i)]))
          by_cases H32_5 : (13 : Int32) < i
          · refine EndsK.go (fun _ kz => XS.icmpYes X0.here hx rfl (pc0 := 32) (pc' := 37) rfl (hb hby d1_32) rfl (tlt H32_5).2.2.1 (by decide) (by decide) kz) ?_
            show EndsK p e below _ (s₁.setTop (mkF m 37 #[.val (.int i)] []))
            refine EndsK.go (fun _ kz => XS.iloadN X0.here hx rfl (hb hby d1_37) rfl kz) ?_
            show EndsK p e below _ (s₁.setTop (mkF m 38 #[.val (.int i)] [(.int i)]))
            refine EndsK.go (fun _ kz => XS.bipush X0.here hx rfl (hb hby d1_38) kz) ?_
            show EndsK p e below _ (s₁.setTop (mkF m 40 #[.val (.int i)] [(.int (14 : Int32)), (.int i)]))
            by_cases H40_6 : i = (14 : Int32)
            · refine EndsK.go (fun _ kz => XS.icmpNo X0.here hx rfl (hb hby d1_40) rfl (teq H40_6).2 kz) ?_
              show EndsK p e below _ (s₁.setTop (mkF m 43 #[.val (.int i)] []))
              refine EndsK.go (fun _ kz => XS.iconst X0.here hx rfl (hb hby d1_43) kz) ?_
              show EndsK p e below _ (s₁.setTop (mkF m 44 #[.val (.int i)] [(.int (3 : Int32))]))
              exact endI X0 hx Bd.returns (hb hby d1_44) hlk ⟨(congrArg (fun z => some (Value.int z)) (by simp [famF, H1_1, H8_2, H15_3, H24_4, H32_5, H40_6] : famF i = (3 : Int32))).symm, N0, e0⟩ (by decide) (by decide)
            · refine EndsK.go (fun _ kz => XS.icmpYes X0.here hx rfl (pc0 := 40) (pc' := 45) rfl (hb hby d1_40) rfl (feq H40_6).2 (by decide) (by decide) kz) ?_
              show EndsK p e below _ (s₁.setTop (mkF m 45 #[.val (.int i)] []))
              refine EndsK.go (fun _ kz => XS.iloadN X0.here hx rfl (hb hby d1_45) rfl kz) ?_
              show EndsK p e below _ (s₁.setTop (mkF m 46 #[.val (.int i)] [(.int i)]))
              refine EndsK.go (fun _ kz => XS.bipush X0.here hx rfl (hb hby d1_46) kz) ?_
              show EndsK p e below _ (s₁.setTop (mkF m 48 #[.val (.int i)] [(.int (15 : Int32)), (.int i)]))
              by_cases H48_7 : i = (15 : Int32)
              · refine EndsK.go (fun _ kz => XS.icmpNo X0.here hx rfl (hb hby d1_48) rfl (teq H48_7).2 kz) ?_
                show EndsK p e below _ (s₁.setTop (mkF m 51 #[.val (.int i)] []))
                refine EndsK.go (fun _ kz => XS.iconst X0.here hx rfl (hb hby d1_51) kz) ?_
                show EndsK p e below _ (s₁.setTop (mkF m 52 #[.val (.int i)] [(.int (4 : Int32))]))
                exact endI X0 hx Bd.returns (hb hby d1_52) hlk ⟨(congrArg (fun z => some (Value.int z)) (by simp [famF, H1_1, H8_2, H15_3, H24_4, H32_5, H40_6, H48_7] : famF i = (4 : Int32))).symm, N0, e0⟩ (by decide) (by decide)
              · refine EndsK.go (fun _ kz => XS.icmpYes X0.here hx rfl (pc0 := 48) (pc' := 53) rfl (hb hby d1_48) rfl (feq H48_7).2 (by decide) (by decide) kz) ?_
                show EndsK p e below _ (s₁.setTop (mkF m 53 #[.val (.int i)] []))
                refine EndsK.go (fun _ kz => XS.iloadN X0.here hx rfl (hb hby d1_53) rfl kz) ?_
                show EndsK p e below _ (s₁.setTop (mkF m 54 #[.val (.int i)] [(.int i)]))
                refine EndsK.go (fun _ kz => XS.bipush X0.here hx rfl (hb hby d1_54) kz) ?_
                show EndsK p e below _ (s₁.setTop (mkF m 56 #[.val (.int i)] [(.int (16 : Int32)), (.int i)]))
                by_cases H56_8 : i = (16 : Int32)
                · refine EndsK.go (fun _ kz => XS.icmpNo X0.here hx rfl (hb hby d1_56) rfl (teq H56_8).2 kz) ?_
                  show EndsK p e below _ (s₁.setTop (mkF m 59 #[.val (.int i)] []))
                  refine EndsK.go (fun _ kz => XS.iconst X0.here hx rfl (hb hby d1_59) kz) ?_
                  show EndsK p e below _ (s₁.setTop (mkF m 60 #[.val (.int i)] [(.int (5 : Int32))]))
                  exact endI X0 hx Bd.returns (hb hby d1_60) hlk ⟨(congrArg (fun z => some (Value.int z)) (by simp [famF, H1_1, H8_2, H15_3, H24_4, H32_5, H40_6, H48_7, H56_8] : famF i = (5 : Int32))).symm, N0, e0⟩ (by decide) (by decide)
                · refine EndsK.go (fun _ kz => XS.icmpYes X0.here hx rfl (pc0 := 56) (pc' := 61) rfl (hb hby d1_56) rfl (feq H56_8).2 (by decide) (by decide) kz) ?_
                  show EndsK p e below _ (s₁.setTop (mkF m 61 #[.val (.int i)] []))
                  refine EndsK.go (fun _ kz => XS.iconst X0.here hx rfl (hb hby d1_61) kz) ?_
                  show EndsK p e below _ (s₁.setTop (mkF m 62 #[.val (.int i)] [(.int (2 : Int32))]))
                  exact endI X0 hx Bd.returns (hb hby d1_62) hlk ⟨(congrArg (fun z => some (Value.int z)) (by simp [famF, H1_1, H8_2, H15_3, H24_4, H32_5, H40_6, H48_7, H56_8] : famF i = (2 : Int32))).symm, N0, e0⟩ (by decide) (by decide)
          · refine EndsK.go (fun _ kz => XS.icmpNo X0.here hx rfl (hb hby d1_32) rfl (flt H32_5).2.2.1 kz) ?_
            show EndsK p e below _ (s₁.setTop (mkF m 35 #[.val (.int i)] []))
            refine EndsK.go (fun _ kz => XS.iconst X0.here hx rfl (hb hby d1_35) kz) ?_
            show EndsK p e below _ (s₁.setTop (mkF m 36 #[.val (.int i)] [(.int (1 : Int32))]))
            exact endI X0 hx Bd.returns (hb hby d1_36) hlk ⟨(congrArg (fun z => some (Value.int z)) (by simp [famF, H1_1, H8_2, H15_3, H24_4, H32_5] : famF i = (1 : Int32))).symm, N0, e0⟩ (by decide) (by decide)
        · refine EndsK.go (fun _ kz => XS.icmpNo X0.here hx rfl (hb hby d1_24) rfl (flt H24_4).2.2.1 kz) ?_
          show EndsK p e below _ (s₁.setTop (mkF m 27 #[.val (.int i)] []))
          refine EndsK.go (fun _ kz => XS.iconst X0.here hx rfl (hb hby d1_27) kz) ?_
          show EndsK p e below _ (s₁.setTop (mkF m 28 #[.val (.int i)] [(.int (0 : Int32))]))
          exact endI X0 hx Bd.returns (hb hby d1_28) hlk ⟨(congrArg (fun z => some (Value.int z)) (by simp [famF, H1_1, H8_2, H15_3, H24_4] : famF i = (0 : Int32))).symm, N0, e0⟩ (by decide) (by decide)
theorem d2_0 : decode prog_31_method_6_code 0 = .ok (.aload_n 0, 1) := by decide +kernel
theorem d2_1 : decode prog_31_method_6_code 1 = .ok (.getfield 90, 3) := by decide +kernel
theorem d2_4 : decode prog_31_method_6_code 4 = .ok (.ifnull 25, 3) := by decide +kernel
theorem d2_7 : decode prog_31_method_6_code 7 = .ok (.aload_n 1, 1) := by decide +kernel
theorem d2_8 : decode prog_31_method_6_code 8 = .ok (.getfield 90, 3) := by decide +kernel
theorem d2_11 : decode prog_31_method_6_code 11 = .ok (.ifnull 18, 3) := by decide +kernel
theorem d2_14 : decode prog_31_method_6_code 14 = .ok (.aload_n 0, 1) := by decide +kernel
theorem d2_15 : decode prog_31_method_6_code 15 = .ok (.getfield 90, 3) := by decide +kernel
theorem d2_18 : decode prog_31_method_6_code 18 = .ok (.aload_n 1, 1) := by decide +kernel
theorem d2_19 : decode prog_31_method_6_code 19 = .ok (.getfield 90, 3) := by decide +kernel
theorem d2_22 : decode prog_31_method_6_code 22 = .ok (.if_acmp .eq 7, 3) := by decide +kernel
theorem d2_25 : decode prog_31_method_6_code 25 = .ok (.iconst 1, 1) := by decide +kernel
theorem d2_26 : decode prog_31_method_6_code 26 = .ok (.goto 4, 3) := by decide +kernel
theorem d2_29 : decode prog_31_method_6_code 29 = .ok (.iconst 0, 1) := by decide +kernel
theorem d2_30 : decode prog_31_method_6_code 30 = .ok (.ireturn, 1) := by decide +kernel
theorem pn1 : plainName "com/example/quarry/quarry/rdf/Datatype" = true := by first | (simp [plainName, overriddenIn]; done) | decide +kernel
theorem ef_dis (m : MethodId) (d : Addr) (d' : Addr) (f : Value) (f' : Value) : entryFrame m #[(.ref d), (.ref d')] 2 = mkF m 0 #[.val (.ref d), .val (.ref d')] [] := by first | (simp [entryFrame, mkF, argsToLocals, Value.category]; done) | rfl
def Q_dis (Z : State) (d : Addr) (d' : Addr) (f : Value) (f' : Value) (h0 : Heap) (n0 : Nat) (vz : Option Value) (hz : Heap) (Lz : List Loc) : Prop := vz = some (.int (disF f f')) ∧ Fr n0 Lz ∧ hz = h0
set_option maxRecDepth 65536 in
set_option maxHeartbeats 40000000 in
theorem rm_dis (l : Launch) (Z : State) (a0 : Array Value) (hw : ∀ d ∈ tables_1, d.before a0 Z = true) (ws : List Jvm.Cond) (d : Addr) (d' : Addr) (f : Value) (f' : Value) (h0 : Heap) (n0 : Nat) (Z0 : n0 ≤ h0.size) (hf : f.isRef = true) (hf' : f'.isRef = true) (Fd : Fld Z h0 d "com/example/quarry/quarry/rdf/Datatype" "family" "Lcom/example/quarry/quarry/rdf/Datatype$Family;" f) (Fd' : Fld Z h0 d' "com/example/quarry/quarry/rdf/Datatype" "family" "Lcom/example/quarry/quarry/rdf/Datatype$Family;" f') :
    MetFree l (⟨"com/example/quarry/quarry/rdf/Datatype", "isDisjointFrom", "(Lcom/example/quarry/quarry/rdf/Datatype;)Z"⟩ : MethodName) (head1 (Jvm.Cond.code (⟨"com/example/quarry/quarry/rdf/Datatype", "isDisjointFrom", "(Lcom/example/quarry/quarry/rdf/Datatype;)Z"⟩ : MethodName) prog_31_method_6_code 2 (some .boolean) :: ws) ({ frames := 0, cells := 0, slots := 0, locals := 0 } : Room)) (fun az Uz => az = #[(.ref d), (.ref d')] ∧ Z.Warmed39 Uz.vm ∧ Uz.heap = h0) (fun _ _ _ _ _ => True) (fun _ Uz oz Ut => ∃ vz Lz, oz = .returned vz ∧ Q_dis Z d d' f f' h0 n0 vz Ut.heap Lz ∧ FrameEnd Uz oz Ut Lz (({ frames := 0, cells := 0, slots := 0, locals := 0 } : Room)).cells (({ frames := 0, cells := 0, slots := 0, locals := 0 } : Room)).slots) := by
  refine MetFree.of_bodySF (plainFor_of_name pn1) hisR ?_
  intro p e s m args below meth c s₁ Bd hml0 hP hK
  obtain ⟨rfl, hZ, hh⟩ := hP
  have hx := Bd.exec
  have hby := Bd.bytes
  have hml : c.maxLocals = 2 := hml0
  have hown : s.vm.findClass "com/example/quarry/quarry/rdf/Datatype" = some m.cls := findClass_of_methodNamed Bd.named
  have hnm := (name_of_methodNamed Bd.named Bd.method).1
  have hlk : meth.locks = false := Bd.notSynchronized
  have X0 : Stand p l e ({ frames := 0, cells := 0, slots := 0, locals := 0 } : Room) s m #[(.ref d), (.ref d')] below meth c s₁ [] 0 0 := Stand.of_body Bd
  have e0 : s₁.heap = h0 := by rw [← hh, Bd.state]; rfl
  have N0 := Fr.nil n0
  show EndsK p e below (OQ s (Q_dis Z d d' f f' h0 n0) (({ frames := 0, cells := 0, slots := 0, locals := 0 } : Room)).cells (({ frames := 0, cells := 0, slots := 0, locals := 0 } : Room)).slots) (s₁.setTop (entryFrame m #[(.ref d), (.ref d')] 2))
  refine EndsK.start (ef_dis m d d' f f') ?_
  rcases ref_cases hf with rfl | ⟨y, rfl⟩
  · show EndsK p e below _ (s₁.setTop (mkF m 0 #[.val (.ref d), .val (.ref d')] []))
    refine EndsK.go (fun _ kz => XS.aloadN X0.here hx rfl (hb hby d2_0) rfl rfl kz) ?_
    show EndsK p e below _ (s₁.setTop (mkF m 1 #[.val (.ref d), .val (.ref d')] [(.ref d)]))
    obtain ⟨T1, X1, e1, st1⟩ := getF X0 hx hZ hown (host := "") (Or.inl (hw _ (List.mem_of_getElem? (i := 52) rfl))) Via.refl e0 Fd (g := (mkF m 1 #[.val (.ref d), .val (.ref d')] [(.ref d)])) rfl rfl (hb hby d2_1)
    refine EndsK.go st1 ?_
    show EndsK p e below _ (T1.setTop (mkF m 4 #[.val (.ref d), .val (.ref d')] [.null]))
    refine EndsK.go (fun _ kz => XS.ifnullYes X1.here hx rfl (pc0 := 4) (pc' := 29) rfl (hb hby d2_4) rfl (by decide) (by decide) kz) ?_
    show EndsK p e below _ (T1.setTop (mkF m 29 #[.val (.ref d), .val (.ref d')] []))
    refine EndsK.go (fun _ kz => XS.iconst X1.here hx rfl (hb hby d2_29) kz) ?_
    show EndsK p e below _ (T1.setTop (mkF m 30 #[.val (.ref d), .val (.ref d')] [(.int (0 : Int32))]))
    exact endN X1 hx (t := .boolean) Bd.returns (by simp) (hb hby d2_30) hlk ⟨(congrArg (fun z => some (Value.int z)) (by simp only [disF]; simp [] : disF .null f' = (0 : Int32))).symm, N0, e1⟩ (by decide) (by decide)
  · rcases ref_cases hf' with rfl | ⟨y', rfl⟩
    · show EndsK p e below _ (s₁.setTop (mkF m 0 #[.val (.ref d), .val (.ref d')] []))
      refine EndsK.go (fun _ kz => XS.aloadN X0.here hx rfl (hb hby d2_0) rfl rfl kz) ?_
      show EndsK p e below _ (s₁.setTop (mkF m 1 #[.val (.ref d), .val (.ref d')] [(.ref d)]))
      obtain ⟨T1, X1, e1, st1⟩ := getF X0 hx hZ hown (host := "") (Or.inl (hw _ (List.mem_of_getElem? (i := 52) rfl))) Via.refl e0 Fd (g := (mkF m 1 #[.val (.ref d), .val (.ref d')] [(.ref d)])) rfl rfl (hb hby d2_1)
      refine EndsK.go st1 ?_
      show EndsK p e below _ (T1.setTop (mkF m 4 #[.val (.ref d), .val (.ref d')] [(.ref y)]))
      refine EndsK.go (fun _ kz => XS.ifnullNo X1.here hx rfl (hb hby d2_4) rfl kz) ?_
      show EndsK p e below _ (T1.setTop (mkF m 7 #[.val (.ref d), .val (.ref d')] []))
      refine EndsK.go (fun _ kz => XS.aloadN X1.here hx rfl (hb hby d2_7) rfl rfl kz) ?_
      show EndsK p e below _ (T1.setTop (mkF m 8 #[.val (.ref d), .val (.ref d')] [(.ref d')]))
      obtain ⟨T2, X2, e2, st2⟩ := getF X1 hx hZ hown (host := "") (Or.inl (hw _ (List.mem_of_getElem? (i := 52) rfl))) Via.refl e1 Fd' (g := (mkF m 8 #[.val (.ref d), .val (.ref d')] [(.ref d')])) rfl rfl (hb hby d2_8)
      refine EndsK.go st2 ?_
      show EndsK p e below _ (T2.setTop (mkF m 11 #[.val (.ref d), .val (.ref d')] [.null]))
      refine EndsK.go (fun _ kz => XS.ifnullYes X2.here hx rfl (pc0 := 11) (pc' := 29) rfl (hb hby d2_11) rfl (by decide) (by decide) kz) ?_
      show EndsK p e below _ (T2.setTop (mkF m 29 #[.val (.ref d), .val (.ref d')] []))
      refine EndsK.go (fun _ kz => XS.iconst X2.here hx rfl (hb hby d2_29) kz) ?_
      show EndsK p e below _ (T2.setTop (mkF m 30 #[.val (.ref d), .val (.ref d')] [(.int (0 : Int32))]))
      exact endN X2 hx (t := .boolean) Bd.returns (by simp) (hb hby d2_30) hlk ⟨(congrArg (fun z => some (Value.int z)) (by simp only [disF]; simp [] : disF (.ref y) .null = (0 : Int32))).symm, N0, e2⟩ (by decide) (by decide)
    · show EndsK p e below _ (s₁.setTop (mkF m 0 #[.val (.ref d), .val (.ref d')] []))
      refine EndsK.go (fun _ kz => XS.aloadN X0.here hx rfl (hb hby d2_0) rfl rfl kz) ?_
      show EndsK p e below _ (s₁.setTop (mkF m 1 #[.val (.ref d), .val (.ref d')] [(.ref d)]))
      obtain ⟨T1, X1, e1, st1⟩ := getF X0 hx hZ hown (host := "") (Or.inl (hw _ (List.mem_of_getElem? (i := 52) rfl))) Via.refl e0 Fd (g := (mkF m 1 #[.val (.ref d), .val (.ref d')] [(.ref d)])) rfl rfl (hb hby d2_1)
      refine EndsK.go st1 ?_
      show EndsK p e below _ (T1.setTop (mkF m 4 #[.val (.ref d), .val (.ref d')] [(.ref y)]))
      refine EndsK.go (fun _ kz => XS.ifnullNo X1.here hx rfl (hb hby d2_4) rfl kz) ?_
      show EndsK p e below _ (T1.setTop (mkF m 7 #[.val (.ref d), .val (.ref d')] []))
      refine EndsK.go (fun _ kz => XS.aloadN X1.here hx rfl (hb hby d2_7) rfl rfl kz) ?_
      show EndsK p e below _ (T1.setTop (mkF m 8 #[.val (.ref d), .val (.ref d')] [(.ref d')]))
      obtain ⟨T2, X2, e2, st2⟩ := getF X1 hx hZ hown (host := "") (Or.inl (hw _ (List.mem_of_getElem? (i := 52) rfl))) Via.refl e1 Fd' (g := (mkF m 8 #[.val (.ref d), .val (.ref d')] [(.ref d')])) rfl rfl (hb hby d2_8)
      refine EndsK.go st2 ?_
      show EndsK p e below _ (T2.setTop (mkF m 11 #[.val (.ref d), .val (.ref d')] [(.ref y')]))
      refine EndsK.go (fun _ kz => XS.ifnullNo X2.here hx rfl (hb hby d2_11) rfl kz) ?_
      show EndsK p e below _ (T2.setTop (mkF m 14 #[.val (.ref d), .val (.ref d')] []))
      refine EndsK.go (fun _ kz => XS.aloadN X2.here hx rfl (hb hby d2_14) rfl rfl kz) ?_
      show EndsK p e below _ (T2.setTop (mkF m 15 #[.val (.ref d), .val (.ref d')] [(.ref d)]))
      obtain ⟨T3, X3, e3, st3⟩ := getF X2 hx hZ hown (host := "") (Or.inl (hw _ (List.mem_of_getElem? (i := 52) rfl))) Via.refl e2 Fd (g := (mkF m 15 #[.val (.ref d), .val (.ref d')] [(.ref d)])) rfl rfl (hb hby d2_15)
      refine EndsK.go st3 ?_
      show EndsK p e below _ (T3.setTop (mkF m 18 #[.val (.ref d), .val (.ref d')] [(.ref y)]))
      refine EndsK.go (fun _ kz => XS.aloadN X3.here hx rfl (hb hby d2_18) rfl rfl kz) ?_
      show EndsK p e below _ (T3.setTop (mkF m 19 #[.val (.ref d), .val (.ref d')] [(.ref d'), (.ref y)]))
      obtain ⟨T4, X4, e4, st4⟩ := getF X3 hx hZ hown (host := "") (Or.inl (hw _ (List.mem_of_getElem? (i := 52) rfl))) Via.refl e3 Fd' (g := (mkF m 19 #[.val (.ref d), .val (.ref d')] [(.ref d'), (.ref y)])) rfl rfl (hb hby d2_19)
      refine EndsK.go st4 ?_
      show EndsK p e below _ (T4.setTop (mkF m 22 #[.val (.ref d), .val (.ref d')] [(.ref y'), (.ref y)]))
      by_cases H22_5 : ((.ref y) : Value) = (.ref y')
      · refine EndsK.go (fun _ kz => Jvm.RoadKit.acmp (g := (mkF m 22 #[.val (.ref d), .val (.ref d')] [(.ref y'), (.ref y)])) X4 hx rfl rfl rfl (pc0 := 22) (pc' := 29) (same := true) rfl (hb hby d2_22) rfl (decide_eq_true H22_5) (by decide) (by decide) kz) ?_
        show EndsK p e below _ (T4.setTop (mkF m 29 #[.val (.ref d), .val (.ref d')] []))
        refine EndsK.go (fun _ kz => XS.iconst X4.here hx rfl (hb hby d2_29) kz) ?_
        show EndsK p e below _ (T4.setTop (mkF m 30 #[.val (.ref d), .val (.ref d')] [(.int (0 : Int32))]))
        exact endN X4 hx (t := .boolean) Bd.returns (by simp) (hb hby d2_30) hlk ⟨(congrArg (fun z => some (Value.int z)) (by simp only [disF]; simp [H22_5] : disF (.ref y) (.ref y') = (0 : Int32))).symm, N0, e4⟩ (by decide) (by decide)
      · refine EndsK.go (fun _ kz => Jvm.RoadKit.acmp (g := (mkF m 22 #[.val (.ref d), .val (.ref d')] [(.ref y'), (.ref y)])) X4 hx rfl rfl rfl (pc0 := 22) (pc' := 25) (same := false) rfl (hb hby d2_22) rfl (decide_eq_false H22_5) (by decide) (by decide) kz) ?_
        show EndsK p e below _ (T4.setTop (mkF m 25 #[.val (.ref d), .val (.ref d')] []))
        refine EndsK.go (fun _ kz => XS.iconst X4.here hx rfl (hb hby d2_25) kz) ?_
        show EndsK p e below _ (T4.setTop (mkF m 26 #[.val (.ref d), .val (.ref d')] [(.int (1 : Int32))]))
        refine EndsK.go (fun _ kz => XS.goto X4.here hx rfl (pc0 := 26) (pc' := 30) rfl (hb hby d2_26) (by decide) (by decide) kz) ?_
        show EndsK p e below _ (T4.setTop (mkF m 30 #[.val (.ref d), .val (.ref d')] [(.int (1 : Int32))]))
        exact endN X4 hx (t := .boolean) Bd.returns (by simp) (hb hby d2_30) hlk ⟨(congrArg (fun z => some (Value.int z)) (by simp only [disF]; simp [H22_5] : disF (.ref y) (.ref y') = (1 : Int32))).symm, N0, e4⟩ (by decide) (by decide)
theorem ef_law (m : MethodId) (i0 : Int32) (i1 : Int32) (d0 : Addr) (d1 : Addr) (d2 : Addr) (d3 : Addr) (d4 : Addr) (d5 : Addr) (d6 : Addr) (d7 : Addr) (d8 : Addr) (d9 : Addr) (d10 : Addr) (d11 : Addr) (d12 : Addr) (d13 : Addr) (d14 : Addr) (d15 : Addr) (d16 : Addr) (d17 : Addr) (d18 : Addr) (y0 : Addr) (y1 : Addr) (y2 : Addr) (y3 : Addr) (y4 : Addr) (y5 : Addr) (y6 : Addr) : entryFrame m #[(.int i0), (.int i1)] maxLocals = mkF m 0 #[.val (.int i0), .val (.int i1), .unset, .unset, .unset, .unset, .unset, .unset] [] := by first | (simp [entryFrame, mkF, argsToLocals, Value.category, maxLocals]; done) | rfl
def Q_law (Z : State) (i0 : Int32) (i1 : Int32) (d0 : Addr) (d1 : Addr) (d2 : Addr) (d3 : Addr) (d4 : Addr) (d5 : Addr) (d6 : Addr) (d7 : Addr) (d8 : Addr) (d9 : Addr) (d10 : Addr) (d11 : Addr) (d12 : Addr) (d13 : Addr) (d14 : Addr) (d15 : Addr) (d16 : Addr) (d17 : Addr) (d18 : Addr) (y0 : Addr) (y1 : Addr) (y2 : Addr) (y3 : Addr) (y4 : Addr) (y5 : Addr) (y6 : Addr) (h0 : Heap) (n0 : Nat) (vz : Option Value) (hz : Heap) (Lz : List Loc) : Prop := vz = some (.int 1) ∧ Fr n0 Lz
theorem pd0 : parseMethodDescriptor "(I)I" = some ⟨[.int], some .int⟩ := by decide +kernel
theorem pd1 : parseMethodDescriptor "(Lcom/example/quarry/quarry/rdf/Datatype;)Z" = some ⟨[(.object "com/example/quarry/quarry/rdf/Datatype")], some .boolean⟩ := by decide +kernel
set_option maxRecDepth 65536 in
set_option maxHeartbeats 40000000 in
theorem rm_law (l : Launch) (Z : State) (a0 : Array Value) (hw : ∀ d ∈ tables_1, d.before a0 Z = true) (ws : List Jvm.Cond) (i0 : Int32) (i1 : Int32) (d0 : Addr) (d1 : Addr) (d2 : Addr) (d3 : Addr) (d4 : Addr) (d5 : Addr) (d6 : Addr) (d7 : Addr) (d8 : Addr) (d9 : Addr) (d10 : Addr) (d11 : Addr) (d12 : Addr) (d13 : Addr) (d14 : Addr) (d15 : Addr) (d16 : Addr) (d17 : Addr) (d18 : Addr) (y0 : Addr) (y1 : Addr) (y2 : Addr) (y3 : Addr) (y4 : Addr) (y5 : Addr) (y6 : Addr) (h0 : Heap) (n0 : Nat) (Z0 : n0 ≤ h0.size) (SS0 : Sta Z h0 "com/example/quarry/quarry/rdf/Datatype" "LITERAL" "Lcom/example/quarry/quarry/rdf/Datatype;" (.ref d0)) (SS1 : Sta Z h0 "com/example/quarry/quarry/rdf/Datatype" "PLAIN_LITERAL" "Lcom/example/quarry/quarry/rdf/Datatype;" (.ref d1)) (SS2 : Sta Z h0 "com/example/quarry/quarry/rdf/Datatype" "XML_LITERAL" "Lcom/example/quarry/quarry/rdf/Datatype;" (.ref d2)) (SS3 : Sta Z h0 "com/example/quarry/quarry/rdf/Datatype" "REAL" "Lcom/example/quarry/quarry/rdf/Datatype;" (.ref d3)) (SS4 : Sta Z h0 "com/example/quarry/quarry/rdf/Datatype" "RATIONAL" "Lcom/example/quarry/quarry/rdf/Datatype;" (.ref d4)) (SS5 : Sta Z h0 "com/example/quarry/quarry/rdf/Datatype" "DECIMAL" "Lcom/example/quarry/quarry/rdf/Datatype;" (.ref d5)) (SS6 : Sta Z h0 "com/example/quarry/quarry/rdf/Datatype" "INTEGER" "Lcom/example/quarry/quarry/rdf/Datatype;" (.ref d6)) (SS7 : Sta Z h0 "com/example/quarry/quarry/rdf/Datatype" "NON_NEGATIVE_INTEGER" "Lcom/example/quarry/quarry/rdf/Datatype;" (.ref d7)) (SS8 : Sta Z h0 "com/example/quarry/quarry/rdf/Datatype" "STRING" "Lcom/example/quarry/quarry/rdf/Datatype;" (.ref d8)) (SS9 : Sta Z h0 "com/example/quarry/quarry/rdf/Datatype" "NORMALIZED_STRING" "Lcom/example/quarry/quarry/rdf/Datatype;" (.ref d9)) (SS10 : Sta Z h0 "com/example/quarry/quarry/rdf/Datatype" "TOKEN" "Lcom/example/quarry/quarry/rdf/Datatype;" (.ref d10)) (SS11 : Sta Z h0 "com/example/quarry/quarry/rdf/Datatype" "NMTOKEN" "Lcom/example/quarry/quarry/rdf/Datatype;" (.ref d11)) (SS12 : Sta Z h0 "com/example/quarry/quarry/rdf/Datatype" "NAME" "Lcom/example/quarry/quarry/rdf/Datatype;" (.ref d12)) (SS13 : Sta Z h0 "com/example/quarry/quarry/rdf/Datatype" "NC_NAME" "Lcom/example/quarry/quarry/rdf/Datatype;" (.ref d13)) (SS14 : Sta Z h0 "com/example/quarry/quarry/rdf/Datatype" "HEX_BINARY" "Lcom/example/quarry/quarry/rdf/Datatype;" (.ref d14)) (SS15 : Sta Z h0 "com/example/quarry/quarry/rdf/Datatype" "BASE64_BINARY" "Lcom/example/quarry/quarry/rdf/Datatype;" (.ref d15)) (SS16 : Sta Z h0 "com/example/quarry/quarry/rdf/Datatype" "ANY_URI" "Lcom/example/quarry/quarry/rdf/Datatype;" (.ref d16)) (SS17 : Sta Z h0 "com/example/quarry/quarry/rdf/Datatype" "DATE_TIME" "Lcom/example/quarry/quarry/rdf/Datatype;" (.ref d17)) (SS18 : Sta Z h0 "com/example/quarry/quarry/rdf/Datatype" "DATE_TIME_STAMP" "Lcom/example/quarry/quarry/rdf/Datatype;" (.ref d18)) (Ex0 : Exa Z h0 d0 "com/example/quarry/quarry/rdf/Datatype") (Ex1 : Exa Z h0 d1 "com/example/quarry/quarry/rdf/Datatype") (Ex2 : Exa Z h0 d2 "com/example/quarry/quarry/rdf/Datatype") (Ex3 : Exa Z h0 d3 "com/example/quarry/quarry/rdf/Datatype") (Ex4 : Exa Z h0 d4 "com/example/quarry/quarry/rdf/Datatype") (Ex5 : Exa Z h0 d5 "com/example/quarry/quarry/rdf/Datatype") (Ex6 : Exa Z h0 d6 "com/example/quarry/quarry/rdf/Datatype") (Ex7 : Exa Z h0 d7 "com/example/quarry/quarry/rdf/Datatype") (Ex8 : Exa Z h0 d8 "com/example/quarry/quarry/rdf/Datatype") (Ex9 : Exa Z h0 d9 "com/example/quarry/quarry/rdf/Datatype") (Ex10 : Exa Z h0 d10 "com/example/quarry/quarry/rdf/Datatype") (Ex11 : Exa Z h0 d11 "com/example/quarry/quarry/rdf/Datatype") (Ex12 : Exa Z h0 d12 "com/example/quarry/quarry/rdf/Datatype") (Ex13 : Exa Z h0 d13 "com/example/quarry/quarry/rdf/Datatype") (Ex14 : Exa Z h0 d14 "com/example/quarry/quarry/rdf/Datatype") (Ex15 : Exa Z h0 d15 "com/example/quarry/quarry/rdf/Datatype") (Ex16 : Exa Z h0 d16 "com/example/quarry/quarry/rdf/Datatype") (Ex17 : Exa Z h0 d17 "com/example/quarry/quarry/rdf/Datatype") (Ex18 : Exa Z h0 d18 "com/example/quarry/quarry/rdf/Datatype") (FF0 : Fld Z h0 d0 "com/example/quarry/quarry/rdf/Datatype" "family" "Lcom/example/quarry/quarry/rdf/Datatype$Family;" .null) (FF1 : Fld Z h0 d1 "com/example/quarry/quarry/rdf/Datatype" "family" "Lcom/example/quarry/quarry/rdf/Datatype$Family;" (.ref y1)) (FF2 : Fld Z h0 d2 "com/example/quarry/quarry/rdf/Datatype" "family" "Lcom/example/quarry/quarry/rdf/Datatype$Family;" (.ref y6)) (FF3 : Fld Z h0 d3 "com/example/quarry/quarry/rdf/Datatype" "family" "Lcom/example/quarry/quarry/rdf/Datatype$Family;" (.ref y0)) (FF4 : Fld Z h0 d4 "com/example/quarry/quarry/rdf/Datatype" "family" "Lcom/example/quarry/quarry/rdf/Datatype$Family;" (.ref y0)) (FF5 : Fld Z h0 d5 "com/example/quarry/quarry/rdf/Datatype" "family" "Lcom/example/quarry/quarry/rdf/Datatype$Family;" (.ref y0)) (FF6 : Fld Z h0 d6 "com/example/quarry/quarry/rdf/Datatype" "family" "Lcom/example/quarry/quarry/rdf/Datatype$Family;" (.ref y0)) (FF7 : Fld Z h0 d7 "com/example/quarry/quarry/rdf/Datatype" "family" "Lcom/example/quarry/quarry/rdf/Datatype$Family;" (.ref y0)) (FF8 : Fld Z h0 d8 "com/example/quarry/quarry/rdf/Datatype" "family" "Lcom/example/quarry/quarry/rdf/Datatype$Family;" (.ref y1)) (FF9 : Fld Z h0 d9 "com/example/quarry/quarry/rdf/Datatype" "family" "Lcom/example/quarry/quarry/rdf/Datatype$Family;" (.ref y1)) (FF10 : Fld Z h0 d10 "com/example/quarry/quarry/rdf/Datatype" "family" "Lcom/example/quarry/quarry/rdf/Datatype$Family;" (.ref y1)) (FF11 : Fld Z h0 d11 "com/example/quarry/quarry/rdf/Datatype" "family" "Lcom/example/quarry/quarry/rdf/Datatype$Family;" (.ref y1)) (FF12 : Fld Z h0 d12 "com/example/quarry/quarry/rdf/Datatype" "family" "Lcom/example/quarry/quarry/rdf/Datatype$Family;" (.ref y1)) (FF13 : Fld Z h0 d13 "com/example/quarry/quarry/rdf/Datatype" "family" "Lcom/example/quarry/quarry/rdf/Datatype$Family;" (.ref y1)) (FF14 : Fld Z h0 d14 "com/example/quarry/quarry/rdf/Datatype" "family" "Lcom/example/quarry/quarry/rdf/Datatype$Family;" (.ref y3)) (FF15 : Fld Z h0 d15 "com/example/quarry/quarry/rdf/Datatype" "family" "Lcom/example/quarry/quarry/rdf/Datatype$Family;" (.ref y4)) (FF16 : Fld Z h0 d16 "com/example/quarry/quarry/rdf/Datatype" "family" "Lcom/example/quarry/quarry/rdf/Datatype$Family;" (.ref y5)) (FF17 : Fld Z h0 d17 "com/example/quarry/quarry/rdf/Datatype" "family" "Lcom/example/quarry/quarry/rdf/Datatype$Family;" (.ref y2)) (FF18 : Fld Z h0 d18 "com/example/quarry/quarry/rdf/Datatype" "family" "Lcom/example/quarry/quarry/rdf/Datatype$Family;" (.ref y2)) (GG0 : Fld Z h0 y0 "java/lang/Enum" "ordinal" "I" (.int 0)) (GG1 : Fld Z h0 y1 "java/lang/Enum" "ordinal" "I" (.int 1)) (GG2 : Fld Z h0 y2 "java/lang/Enum" "ordinal" "I" (.int 2)) (GG3 : Fld Z h0 y3 "java/lang/Enum" "ordinal" "I" (.int 3)) (GG4 : Fld Z h0 y4 "java/lang/Enum" "ordinal" "I" (.int 4)) (GG5 : Fld Z h0 y5 "java/lang/Enum" "ordinal" "I" (.int 5)) (GG6 : Fld Z h0 y6 "java/lang/Enum" "ordinal" "I" (.int 6)) :
    MetFree l x (head1 (Jvm.Cond.code x code maxLocals ret :: ws) room_1) (fun az Uz => az = #[(.int i0), (.int i1)] ∧ Z.Warmed39 Uz.vm ∧ Uz.heap = h0) (fun _ _ _ _ _ => True) (fun _ Uz oz Ut => ∃ vz Lz, oz = .returned vz ∧ Q_law Z i0 i1 d0 d1 d2 d3 d4 d5 d6 d7 d8 d9 d10 d11 d12 d13 d14 d15 d16 d17 d18 y0 y1 y2 y3 y4 y5 y6 h0 n0 vz Ut.heap Lz ∧ FrameEnd Uz oz Ut Lz (room_1).cells (room_1).slots) := by
  refine MetFree.of_bodySF (plainFor_of_name pn0) hisR ?_
  intro p e s m args below meth c s₁ Bd hml0 hP hK
  obtain ⟨rfl, hZ, hh⟩ := hP
  have hx := Bd.exec
  have hby := Bd.bytes
  have hml : c.maxLocals = 8 := hml0
  have hown : s.vm.findClass "com/example/quarry/quarry/rdf/DatatypeIsDisjointFromPinLaw" = some m.cls := findClass_of_methodNamed Bd.named
  have hnm := (name_of_methodNamed Bd.named Bd.method).1
  have hlk : meth.locks = false := Bd.notSynchronized
  have X0 : Stand p l e room_1 s m #[(.int i0), (.int i1)] below meth c s₁ [] 0 0 := Stand.of_body Bd
  have e0 : s₁.heap = h0 := by rw [← hh, Bd.state]; rfl
  have N0 := Fr.nil n0
  show EndsK p e below (OQ s (Q_law Z i0 i1 d0 d1 d2 d3 d4 d5 d6 d7 d8 d9 d10 d11 d12 d13 d14 d15 d16 d17 d18 y0 y1 y2 y3 y4 y5 y6 h0 n0) (room_1).cells (room_1).slots) (s₁.setTop (entryFrame m #[(.int i0), (.int i1)] maxLocals))
  refine EndsK.start (ef_law m i0 i1 d0 d1 d2 d3 d4 d5 d6 d7 d8 d9 d10 d11 d12 d13 d14 d15 d16 d17 d18 y0 y1 y2 y3 y4 y5 y6) ?_
  show EndsK p e below _ (s₁.setTop (mkF m 0 #[.val (.int i0), .val (.int i1), .unset, .unset, .unset, .unset, .unset, .unset] []))
  refine EndsK.go (fun _ kz => XS.bipush X0.here hx rfl (hb hby at_0) kz) ?_
  show EndsK p e below _ (s₁.setTop (mkF m 2 #[.val (.int i0), .val (.int i1), .unset, .unset, .unset, .unset, .unset, .unset] [(.int (19 : Int32))]))
  obtain ⟨T1, h1, k1, X1, e1, E1, A1, O1, st1⟩ := newR X0 hx hZ hown (hw _ (List.mem_of_getElem? (i := 0) rfl)) (hw _ (List.mem_of_getElem? (i := 1) rfl)) e0 (g := (mkF m 2 #[.val (.int i0), .val (.int i1), .unset, .unset, .unset, .unset, .unset, .unset] [(.int (19 : Int32))])) rfl (hb hby at_2) rfl (by decide) (cap := 19) (by decide) (by decide) (by decide) (by decide)
  obtain ⟨a, ga⟩ : ∃ z, z = h0.size := ⟨_, rfl⟩
  rw [← ga] at A1 st1
  refine EndsK.go st1 ?_
  have na : n0 ≤ a := by rw [ga]; exact Z0
  have sa : h0.size ≤ a := Nat.le_of_eq ga.symm
  have V1 : Arv Z h1 a k1 (.object "com/example/quarry/quarry/rdf/Datatype") 19 [.null, .null, .null, .null, .null, .null, .null, .null, .null, .null, .null, .null, .null, .null, .null, .null, .null, .null, .null] .null := (Arv.new A1 (by decide)).pad (pad_rep [] .null 19)
  have S1_0 := SS0.ext E1
  have S1_1 := SS1.ext E1
  have S1_2 := SS2.ext E1
  have S1_3 := SS3.ext E1
  have S1_4 := SS4.ext E1
  have S1_5 := SS5.ext E1
  have S1_6 := SS6.ext E1
  have S1_7 := SS7.ext E1
  have S1_8 := SS8.ext E1
  have S1_9 := SS9.ext E1
  have S1_10 := SS10.ext E1
  have S1_11 := SS11.ext E1
  have S1_12 := SS12.ext E1
  have S1_13 := SS13.ext E1
  have S1_14 := SS14.ext E1
  have S1_15 := SS15.ext E1
  have S1_16 := SS16.ext E1
  have S1_17 := SS17.ext E1
  have S1_18 := SS18.ext E1
  show EndsK p e below _ (T1.setTop (mkF m 5 #[.val (.int i0), .val (.int i1), .unset, .unset, .unset, .unset, .unset, .unset] [(.ref a)]))
  refine EndsK.go (fun _ kz => XS.dup X1.here hx rfl (hb hby at_5) rfl rfl kz) ?_
  show EndsK p e below _ (T1.setTop (mkF m 6 #[.val (.int i0), .val (.int i1), .unset, .unset, .unset, .unset, .unset, .unset] [(.ref a), (.ref a)]))
  refine EndsK.go (fun _ kz => XS.iconst X1.here hx rfl (hb hby at_6) kz) ?_
  show EndsK p e below _ (T1.setTop (mkF m 7 #[.val (.int i0), .val (.int i1), .unset, .unset, .unset, .unset, .unset, .unset] [(.int (0 : Int32)), (.ref a), (.ref a)]))
  obtain ⟨T2, X2, e2, st2⟩ := getS2 X1 hx hZ hown (host := "") (Or.inl (hw _ (List.mem_of_getElem? (i := 2) rfl))) Via.refl e1 S1_0 (g := (mkF m 7 #[.val (.int i0), .val (.int i1), .unset, .unset, .unset, .unset, .unset, .unset] [(.int (0 : Int32)), (.ref a), (.ref a)])) rfl (hb hby at_7)
  refine EndsK.go st2 ?_
  show EndsK p e below _ (T2.setTop (mkF m 10 #[.val (.int i0), .val (.int i1), .unset, .unset, .unset, .unset, .unset, .unset] [(.ref d0), (.int (0 : Int32)), (.ref a), (.ref a)]))
  obtain ⟨c3, B3, q13, Sz3, q33, Hh3, G3⟩ := V1
  obtain ⟨T3, h3, X3, e3, W3, st3⟩ := stR X2 hx hZ e2 B3 (inb_of Sz3 ⟨by decide, by decide⟩) rfl (Sto.ofV B3 q13 O1 (Ins.self (Ex0.ext E1))) (g := (mkF m 10 #[.val (.int i0), .val (.int i1), .unset, .unset, .unset, .unset, .unset, .unset] [(.ref d0), (.int (0 : Int32)), (.ref a), (.ref a)])) rfl rfl (hb hby at_10)
  have V3 : Arv Z h3 a k1 (.object "com/example/quarry/quarry/rdf/Datatype") 19 [(.ref d0), .null, .null, .null, .null, .null, .null, .null, .null, .null, .null, .null, .null, .null, .null, .null, .null, .null, .null] .null := Arv.set B3 q13 Sz3 q33 Hh3 G3 rfl W3 0 rfl (Nat.le_of_ble_eq_true rfl)
  have E3 := ext_wr E1 W3 sa
  have Y3 : Stand p l e room_1 s m #[.int i0, .int i1] below meth c T3 [] (0 + 1) (0 + 19) := X3.dropFresh (fun xz hxz => by cases List.mem_singleton.mp hxz; rw [hh]; exact sa)
  refine EndsK.go st3 ?_
  have S3_1 := SS1.ext E3
  show EndsK p e below _ (T3.setTop (mkF m 11 #[.val (.int i0), .val (.int i1), .unset, .unset, .unset, .unset, .unset, .unset] [(.ref a)]))
  refine EndsK.go (fun _ kz => XS.dup Y3.here hx rfl (hb hby at_11) rfl rfl kz) ?_
  show EndsK p e below _ (T3.setTop (mkF m 12 #[.val (.int i0), .val (.int i1), .unset, .unset, .unset, .unset, .unset, .unset] [(.ref a), (.ref a)]))
  refine EndsK.go (fun _ kz => XS.iconst Y3.here hx rfl (hb hby at_12) kz) ?_
  show EndsK p e below _ (T3.setTop (mkF m 13 #[.val (.int i0), .val (.int i1), .unset, .unset, .unset, .unset, .unset, .unset] [(.int (1 : Int32)), (.ref a), (.ref a)]))
  obtain ⟨T4, X4, e4, st4⟩ := getS2 Y3 hx hZ hown (host := "") (Or.inl (hw _ (List.mem_of_getElem? (i := 6) rfl))) Via.refl e3 S3_1 (g := (mkF m 13 #[.val (.int i0), .val (.int i1), .unset, .unset, .unset, .unset, .unset, .unset] [(.int (1 : Int32)), (.ref a), (.ref a)])) rfl (hb hby at_13)
  refine EndsK.go st4 ?_
  show EndsK p e below _ (T4.setTop (mkF m 16 #[.val (.int i0), .val (.int i1), .unset, .unset, .unset, .unset, .unset, .unset] [(.ref d1), (.int (1 : Int32)), (.ref a), (.ref a)]))
  obtain ⟨c5, B5, q15, Sz5, q35, Hh5, G5⟩ := V3
  obtain ⟨T5, h5, X5, e5, W5, st5⟩ := stR X4 hx hZ e4 B5 (inb_of Sz5 ⟨by decide, by decide⟩) rfl (Sto.ofV B5 q15 O1 (Ins.self (Ex1.ext E3))) (g := (mkF m 16 #[.val (.int i0), .val (.int i1), .unset, .unset, .unset, .unset, .unset, .unset] [(.ref d1), (.int (1 : Int32)), (.ref a), (.ref a)])) rfl rfl (hb hby at_16)
  have V5 : Arv Z h5 a k1 (.object "com/example/quarry/quarry/rdf/Datatype") 19 [(.ref d0), (.ref d1), .null, .null, .null, .null, .null, .null, .null, .null, .null, .null, .null, .null, .null, .null, .null, .null, .null] .null := Arv.set B5 q15 Sz5 q35 Hh5 G5 rfl W5 1 rfl (Nat.le_of_ble_eq_true rfl)
  have E5 := ext_wr E3 W5 sa
  have Y5 : Stand p l e room_1 s m #[.int i0, .int i1] below meth c T5 [] (0 + 1) (0 + 19) := X5.dropFresh (fun xz hxz => by cases List.mem_singleton.mp hxz; rw [hh]; exact sa)
  refine EndsK.go st5 ?_
  have S5_2 := SS2.ext E5
  show EndsK p e below _ (T5.setTop (mkF m 17 #[.val (.int i0), .val (.int i1), .unset, .unset, .unset, .unset, .unset, .unset] [(.ref a)]))
  refine EndsK.go (fun _ kz => XS.dup Y5.here hx rfl (hb hby at_17) rfl rfl kz) ?_
  show EndsK p e below _ (T5.setTop (mkF m 18 #[.val (.int i0), .val (.int i1), .unset, .unset, .unset, .unset, .unset, .unset] [(.ref a), (.ref a)]))
  refine EndsK.go (fun _ kz => XS.iconst Y5.here hx rfl (hb hby at_18) kz) ?_
  show EndsK p e below _ (T5.setTop (mkF m 19 #[.val (.int i0), .val (.int i1), .unset, .unset, .unset, .unset, .unset, .unset] [(.int (2 : Int32)), (.ref a), (.ref a)]))
  obtain ⟨T6, X6, e6, st6⟩ := getS2 Y5 hx hZ hown (host := "") (Or.inl (hw _ (List.mem_of_getElem? (i := 8) rfl))) Via.refl e5 S5_2 (g := (mkF m 19 #[.val (.int i0), .val (.int i1), .unset, .unset, .unset, .unset, .unset, .unset] [(.int (2 : Int32)), (.ref a), (.ref a)])) rfl (hb hby at_19)
  refine EndsK.go st6 ?_
  show EndsK p e below _ (T6.setTop (mkF m 22 #[.val (.int i0), .val (.int i1), .unset, .unset, .unset, .unset, .unset, .unset] [(.ref d2), (.int (2 : Int32)), (.ref a), (.ref a)]))
  obtain ⟨c7, B7, q17, Sz7, q37, Hh7, G7⟩ := V5
  obtain ⟨T7, h7, X7, e7, W7, st7⟩ := stR X6 hx hZ e6 B7 (inb_of Sz7 ⟨by decide, by decide⟩) rfl (Sto.ofV B7 q17 O1 (Ins.self (Ex2.ext E5))) (g := (mkF m 22 #[.val (.int i0), .val (.int i1), .unset, .unset, .unset, .unset, .unset, .unset] [(.ref d2), (.int (2 : Int32)), (.ref a), (.ref a)])) rfl rfl (hb hby at_22)
  have V7 : Arv Z h7 a k1 (.object "com/example/quarry/quarry/rdf/Datatype") 19 [(.ref d0), (.ref d1), (.ref d2), .null, .null, .null, .null, .null, .null, .null, .null, .null, .null, .null, .null, .null, .null, .null, .null] .null := Arv.set B7 q17 Sz7 q37 Hh7 G7 rfl W7 2 rfl (Nat.le_of_ble_eq_true rfl)
  have E7 := ext_wr E5 W7 sa
  have Y7 : Stand p l e room_1 s m #[.int i0, .int i1] below meth c T7 [] (0 + 1) (0 + 19) := X7.dropFresh (fun xz hxz => by cases List.mem_singleton.mp hxz; rw [hh]; exact sa)
  refine EndsK.go st7 ?_
  have S7_3 := SS3.ext E7
  show EndsK p e below _ (T7.setTop (mkF m 23 #[.val (.int i0), .val (.int i1), .unset, .unset, .unset, .unset, .unset, .unset] [(.ref a)]))
  refine EndsK.go (fun _ kz => XS.dup Y7.here hx rfl (hb hby at_23) rfl rfl kz) ?_
  show EndsK p e below _ (T7.setTop (mkF m 24 #[.val (.int i0), .val (.int i1), .unset, .unset, .unset, .unset, .unset, .unset] [(.ref a), (.ref a)]))
  refine EndsK.go (fun _ kz => XS.iconst Y7.here hx rfl (hb hby at_24) kz) ?_
  show EndsK p e below _ (T7.setTop (mkF m 25 #[.val (.int i0), .val (.int i1), .unset, .unset, .unset, .unset, .unset, .unset] [(.int (3 : Int32)), (.ref a), (.ref a)]))
  obtain ⟨T8, X8, e8, st8⟩ := getS2 Y7 hx hZ hown (host := "") (Or.inl (hw _ (List.mem_of_getElem? (i := 10) rfl))) Via.refl e7 S7_3 (g := (mkF m 25 #[.val (.int i0), .val (.int i1), .unset, .unset, .unset, .unset, .unset, .unset] [(.int (3 : Int32)), (.ref a), (.ref a)])) rfl (hb hby at_25)
  refine EndsK.go st8 ?_
  show EndsK p e below _ (T8.setTop (mkF m 28 #[.val (.int i0), .val (.int i1), .unset, .unset, .unset, .unset, .unset, .unset] [(.ref d3), (.int (3 : Int32)), (.ref a), (.ref a)]))
  obtain ⟨c9, B9, q19, Sz9, q39, Hh9, G9⟩ := V7
  obtain ⟨T9, h9, X9, e9, W9, st9⟩ := stR X8 hx hZ e8 B9 (inb_of Sz9 ⟨by decide, by decide⟩) rfl (Sto.ofV B9 q19 O1 (Ins.self (Ex3.ext E7))) (g := (mkF m 28 #[.val (.int i0), .val (.int i1), .unset, .unset, .unset, .unset, .unset, .unset] [(.ref d3), (.int (3 : Int32)), (.ref a), (.ref a)])) rfl rfl (hb hby at_28)
  have V9 : Arv Z h9 a k1 (.object "com/example/quarry/quarry/rdf/Datatype") 19 [(.ref d0), (.ref d1), (.ref d2), (.ref d3), .null, .null, .null, .null, .null, .null, .null, .null, .null, .null, .null, .null, .null, .null, .null] .null := Arv.set B9 q19 Sz9 q39 Hh9 G9 rfl W9 3 rfl (Nat.le_of_ble_eq_true rfl)
  have E9 := ext_wr E7 W9 sa
  have Y9 : Stand p l e room_1 s m #[.int i0, .int i1] below meth c T9 [] (0 + 1) (0 + 19) := X9.dropFresh (fun xz hxz => by cases List.mem_singleton.mp hxz; rw [hh]; exact sa)
  refine EndsK.go st9 ?_
  have S9_4 := SS4.ext E9
  show EndsK p e below _ (T9.setTop (mkF m 29 #[.val (.int i0), .val (.int i1), .unset, .unset, .unset, .unset, .unset, .unset] [(.ref a)]))
  refine EndsK.go (fun _ kz => XS.dup Y9.here hx rfl (hb hby at_29) rfl rfl kz) ?_
  show EndsK p e below _ (T9.setTop (mkF m 30 #[.val (.int i0), .val (.int i1), .unset, .unset, .unset, .unset, .unset, .unset] [(.ref a), (.ref a)]))
  refine EndsK.go (fun _ kz => XS.iconst Y9.here hx rfl (hb hby at_30) kz) ?_
  show EndsK p e below _ (T9.setTop (mkF m 31 #[.val (.int i0), .val (.int i1), .unset, .unset, .unset, .unset, .unset, .unset] [(.int (4 : Int32)), (.ref a), (.ref a)]))
  obtain ⟨T10, X10, e10, st10⟩ := getS2 Y9 hx hZ hown (host := "") (Or.inl (hw _ (List.mem_of_getElem? (i := 12) rfl))) Via.refl e9 S9_4 (g := (mkF m 31 #[.val (.int i0), .val (.int i1), .unset, .unset, .unset, .unset, .unset, .unset] [(.int (4 : Int32)), (.ref a), (.ref a)])) rfl (hb hby at_31)
  refine EndsK.go st10 ?_
  show EndsK p e below _ (T10.setTop (mkF m 34 #[.val (.int i0), .val (.int i1), .unset, .unset, .unset, .unset, .unset, .unset] [(.ref d4), (.int (4 : Int32)), (.ref a), (.ref a)]))
  obtain ⟨c11, B11, q111, Sz11, q311, Hh11, G11⟩ := V9
  obtain ⟨T11, h11, X11, e11, W11, st11⟩ := stR X10 hx hZ e10 B11 (inb_of Sz11 ⟨by decide, by decide⟩) rfl (Sto.ofV B11 q111 O1 (Ins.self (Ex4.ext E9))) (g := (mkF m 34 #[.val (.int i0), .val (.int i1), .unset, .unset, .unset, .unset, .unset, .unset] [(.ref d4), (.int (4 : Int32)), (.ref a), (.ref a)])) rfl rfl (hb hby at_34)
  have V11 : Arv Z h11 a k1 (.object "com/example/quarry/quarry/rdf/Datatype") 19 [(.ref d0), (.ref d1), (.ref d2), (.ref d3), (.ref d4), .null, .null, .null, .null, .null, .null, .null, .null, .null, .null, .null, .null, .null, .null] .null := Arv.set B11 q111 Sz11 q311 Hh11 G11 rfl W11 4 rfl (Nat.le_of_ble_eq_true rfl)
  have E11 := ext_wr E9 W11 sa
  have Y11 : Stand p l e room_1 s m #[.int i0, .int i1] below meth c T11 [] (0 + 1) (0 + 19) := X11.dropFresh (fun xz hxz => by cases List.mem_singleton.mp hxz; rw [hh]; exact sa)
  refine EndsK.go st11 ?_
  have S11_5 := SS5.ext E11
  show EndsK p e below _ (T11.setTop (mkF m 35 #[.val (.int i0), .val (.int i1), .unset, .unset, .unset, .unset, .unset, .unset] [(.ref a)]))
  refine EndsK.go (fun _ kz => XS.dup Y11.here hx rfl (hb hby at_35) rfl rfl kz) ?_
  show EndsK p e below _ (T11.setTop (mkF m 36 #[.val (.int i0), .val (.int i1), .unset, .unset, .unset, .unset, .unset, .unset] [(.ref a), (.ref a)]))
  refine EndsK.go (fun _ kz => XS.iconst Y11.here hx rfl (hb hby at_36) kz) ?_
  show EndsK p e below _ (T11.setTop (mkF m 37 #[.val (.int i0), .val (.int i1), .unset, .unset, .unset, .unset, .unset, .unset] [(.int (5 : Int32)), (.ref a), (.ref a)]))
  obtain ⟨T12, X12, e12, st12⟩ := getS2 Y11 hx hZ hown (host := "") (Or.inl (hw _ (List.mem_of_getElem? (i := 14) rfl))) Via.refl e11 S11_5 (g := (mkF m 37 #[.val (.int i0), .val (.int i1), .unset, .unset, .unset, .unset, .unset, .unset] [(.int (5 : Int32)), (.ref a), (.ref a)])) rfl (hb hby at_37)
  refine EndsK.go st12 ?_
  show EndsK p e below _ (T12.setTop (mkF m 40 #[.val (.int i0), .val (.int i1), .unset, .unset, .unset, .unset, .unset, .unset] [(.ref d5), (.int (5 : Int32)), (.ref a), (.ref a)]))
  obtain ⟨c13, B13, q113, Sz13, q313, Hh13, G13⟩ := V11
  obtain ⟨T13, h13, X13, e13, W13, st13⟩ := stR X12 hx hZ e12 B13 (inb_of Sz13 ⟨by decide, by decide⟩) rfl (Sto.ofV B13 q113 O1 (Ins.self (Ex5.ext E11))) (g := (mkF m 40 #[.val (.int i0), .val (.int i1), .unset, .unset, .unset, .unset, .unset, .unset] [(.ref d5), (.int (5 : Int32)), (.ref a), (.ref a)])) rfl rfl (hb hby at_40)
  have V13 : Arv Z h13 a k1 (.object "com/example/quarry/quarry/rdf/Datatype") 19 [(.ref d0), (.ref d1), (.ref d2), (.ref d3), (.ref d4), (.ref d5), .null, .null, .null, .null, .null, .null, .null, .null, .null, .null, .null, .null, .null] .null := Arv.set B13 q113 Sz13 q313 Hh13 G13 rfl W13 5 rfl (Nat.le_of_ble_eq_true rfl)
  have E13 := ext_wr E11 W13 sa
  have Y13 : Stand p l e room_1 s m #[.int i0, .int i1] below meth c T13 [] (0 + 1) (0 + 19) := X13.dropFresh (fun xz hxz => by cases List.mem_singleton.mp hxz; rw [hh]; exact sa)
  refine EndsK.go st13 ?_
  have S13_6 := SS6.ext E13
  show EndsK p e below _ (T13.setTop (mkF m 41 #[.val (.int i0), .val (.int i1), .unset, .unset, .unset, .unset, .unset, .unset] [(.ref a)]))
  refine EndsK.go (fun _ kz => XS.dup Y13.here hx rfl (hb hby at_41) rfl rfl kz) ?_
  show EndsK p e below _ (T13.setTop (mkF m 42 #[.val (.int i0), .val (.int i1), .unset, .unset, .unset, .unset, .unset, .unset] [(.ref a), (.ref a)]))
  refine EndsK.go (fun _ kz => XS.bipush Y13.here hx rfl (hb hby at_42) kz) ?_
  show EndsK p e below _ (T13.setTop (mkF m 44 #[.val (.int i0), .val (.int i1), .unset, .unset, .unset, .unset, .unset, .unset] [(.int (6 : Int32)), (.ref a), (.ref a)]))
  obtain ⟨T14, X14, e14, st14⟩ := getS2 Y13 hx hZ hown (host := "") (Or.inl (hw _ (List.mem_of_getElem? (i := 16) rfl))) Via.refl e13 S13_6 (g := (mkF m 44 #[.val (.int i0), .val (.int i1), .unset, .unset, .unset, .unset, .unset, .unset] [(.int (6 : Int32)), (.ref a), (.ref a)])) rfl (hb hby at_44)
  refine EndsK.go st14 ?_
  show EndsK p e below _ (T14.setTop (mkF m 47 #[.val (.int i0), .val (.int i1), .unset, .unset, .unset, .unset, .unset, .unset] [(.ref d6), (.int (6 : Int32)), (.ref a), (.ref a)]))
  obtain ⟨c15, B15, q115, Sz15, q315, Hh15, G15⟩ := V13
  obtain ⟨T15, h15, X15, e15, W15, st15⟩ := stR X14 hx hZ e14 B15 (inb_of Sz15 ⟨by decide, by decide⟩) rfl (Sto.ofV B15 q115 O1 (Ins.self (Ex6.ext E13))) (g := (mkF m 47 #[.val (.int i0), .val (.int i1), .unset, .unset, .unset, .unset, .unset, .unset] [(.ref d6), (.int (6 : Int32)), (.ref a), (.ref a)])) rfl rfl (hb hby at_47)
  have V15 : Arv Z h15 a k1 (.object "com/example/quarry/quarry/rdf/Datatype") 19 [(.ref d0), (.ref d1), (.ref d2), (.ref d3), (.ref d4), (.ref d5), (.ref d6), .null, .null, .null, .null, .null, .null, .null, .null, .null, .null, .null, .null] .null := Arv.set B15 q115 Sz15 q315 Hh15 G15 rfl W15 6 rfl (Nat.le_of_ble_eq_true rfl)
  have E15 := ext_wr E13 W15 sa
  have Y15 : Stand p l e room_1 s m #[.int i0, .int i1] below meth c T15 [] (0 + 1) (0 + 19) := X15.dropFresh (fun xz hxz => by cases List.mem_singleton.mp hxz; rw [hh]; exact sa)
  refine EndsK.go st15 ?_
  have S15_7 := SS7.ext E15
  show EndsK p e below _ (T15.setTop (mkF m 48 #[.val (.int i0), .val (.int i1), .unset, .unset, .unset, .unset, .unset, .unset] [(.ref a)]))
  refine EndsK.go (fun _ kz => XS.dup Y15.here hx rfl (hb hby at_48) rfl rfl kz) ?_
  show EndsK p e below _ (T15.setTop (mkF m 49 #[.val (.int i0), .val (.int i1), .unset, .unset, .unset, .unset, .unset, .unset] [(.ref a), (.ref a)]))
  refine EndsK.go (fun _ kz => XS.bipush Y15.here hx rfl (hb hby at_49) kz) ?_
  show EndsK p e below _ (T15.setTop (mkF m 51 #[.val (.int i0), .val (.int i1), .unset, .unset, .unset, .unset, .unset, .unset] [(.int (7 : Int32)), (.ref a), (.ref a)]))
  obtain ⟨T16, X16, e16, st16⟩ := getS2 Y15 hx hZ hown (host := "") (Or.inl (hw _ (List.mem_of_getElem? (i := 18) rfl))) Via.refl e15 S15_7 (g := (mkF m 51 #[.val (.int i0), .val (.int i1), .unset, .unset, .unset, .unset, .unset, .unset] [(.int (7 : Int32)), (.ref a), (.ref a)])) rfl (hb hby at_51)
  refine EndsK.go st16 ?_
  show EndsK p e below _ (T16.setTop (mkF m 54 #[.val (.int i0), .val (.int i1), .unset, .unset, .unset, .unset, .unset, .unset] [(.ref d7), (.int (7 : Int32)), (.ref a), (.ref a)]))
  obtain ⟨c17, B17, q117, Sz17, q317, Hh17, G17⟩ := V15
  obtain ⟨T17, h17, X17, e17, W17, st17⟩ := stR X16 hx hZ e16 B17 (inb_of Sz17 ⟨by decide, by decide⟩) rfl (Sto.ofV B17 q117 O1 (Ins.self (Ex7.ext E15))) (g := (mkF m 54 #[.val (.int i0), .val (.int i1), .unset, .unset, .unset, .unset, .unset, .unset] [(.ref d7), (.int (7 : Int32)), (.ref a), (.ref a)])) rfl rfl (hb hby at_54)
  have V17 : Arv Z h17 a k1 (.object "com/example/quarry/quarry/rdf/Datatype") 19 [(.ref d0), (.ref d1), (.ref d2), (.ref d3), (.ref d4), (.ref d5), (.ref d6), (.ref d7), .null, .null, .null, .null, .null, .null, .null, .null, .null, .null, .null] .null := Arv.set B17 q117 Sz17 q317 Hh17 G17 rfl W17 7 rfl (Nat.le_of_ble_eq_true rfl)
  have E17 := ext_wr E15 W17 sa
  have Y17 : Stand p l e room_1 s m #[.int i0, .int i1] below meth c T17 [] (0 + 1) (0 + 19) := X17.dropFresh (fun xz hxz => by cases List.mem_singleton.mp hxz; rw [hh]; exact sa)
  refine EndsK.go st17 ?_
  have S17_8 := SS8.ext E17
  show EndsK p e below _ (T17.setTop (mkF m 55 #[.val (.int i0), .val (.int i1), .unset, .unset, .unset, .unset, .unset, .unset] [(.ref a)]))
  refine EndsK.go (fun _ kz => XS.dup Y17.here hx rfl (hb hby at_55) rfl rfl kz) ?_
  show EndsK p e below _ (T17.setTop (mkF m 56 #[.val (.int i0), .val (.int i1), .unset, .unset, .unset, .unset, .unset, .unset] [(.ref a), (.ref a)]))
  refine EndsK.go (fun _ kz => XS.bipush Y17.here hx rfl (hb hby at_56) kz) ?_
  show EndsK p e below _ (T17.setTop (mkF m 58 #[.val (.int i0), .val (.int i1), .unset, .unset, .unset, .unset, .unset, .unset] [(.int (8 : Int32)), (.ref a), (.ref a)]))
  obtain ⟨T18, X18, e18, st18⟩ := getS2 Y17 hx hZ hown (host := "") (Or.inl (hw _ (List.mem_of_getElem? (i := 20) rfl))) Via.refl e17 S17_8 (g := (mkF m 58 #[.val (.int i0), .val (.int i1), .unset, .unset, .unset, .unset, .unset, .unset] [(.int (8 : Int32)), (.ref a), (.ref a)])) rfl (hb hby at_58)
  refine EndsK.go st18 ?_
  show EndsK p e below _ (T18.setTop (mkF m 61 #[.val (.int i0), .val (.int i1), .unset, .unset, .unset, .unset, .unset, .unset] [(.ref d8), (.int (8 : Int32)), (.ref a), (.ref a)]))
  obtain ⟨c19, B19, q119, Sz19, q319, Hh19, G19⟩ := V17
  obtain ⟨T19, h19, X19, e19, W19, st19⟩ := stR X18 hx hZ e18 B19 (inb_of Sz19 ⟨by decide, by decide⟩) rfl (Sto.ofV B19 q119 O1 (Ins.self (Ex8.ext E17))) (g := (mkF m 61 #[.val (.int i0), .val (.int i1), .unset, .unset, .unset, .unset, .unset, .unset] [(.ref d8), (.int (8 : Int32)), (.ref a), (.ref a)])) rfl rfl (hb hby at_61)
  have V19 : Arv Z h19 a k1 (.object "com/example/quarry/quarry/rdf/Datatype") 19 [(.ref d0), (.ref d1), (.ref d2), (.ref d3), (.ref d4), (.ref d5), (.ref d6), (.ref d7), (.ref d8), .null, .null, .null, .null, .null, .null, .null, .null, .null, .null] .null := Arv.set B19 q119 Sz19 q319 Hh19 G19 rfl W19 8 rfl (Nat.le_of_ble_eq_true rfl)
  have E19 := ext_wr E17 W19 sa
  have Y19 : Stand p l e room_1 s m #[.int i0, .int i1] below meth c T19 [] (0 + 1) (0 + 19) := X19.dropFresh (fun xz hxz => by cases List.mem_singleton.mp hxz; rw [hh]; exact sa)
  refine EndsK.go st19 ?_
  have S19_9 := SS9.ext E19
  show EndsK p e below _ (T19.setTop (mkF m 62 #[.val (.int i0), .val (.int i1), .unset, .unset, .unset, .unset, .unset, .unset] [(.ref a)]))
  refine EndsK.go (fun _ kz => XS.dup Y19.here hx rfl (hb hby at_62) rfl rfl kz) ?_
  show EndsK p e below _ (T19.setTop (mkF m 63 #[.val (.int i0), .val (.int i1), .unset, .unset, .unset, .unset, .unset, .unset] [(.ref a), (.ref a)]))
  refine EndsK.go (fun _ kz => XS.bipush Y19.here hx rfl (hb hby at_63) kz) ?_
  show EndsK p e below _ (T19.setTop (mkF m 65 #[.val (.int i0), .val (.int i1), .unset, .unset, .unset, .unset, .unset, .unset] [(.int (9 : Int32)), (.ref a), (.ref a)]))
  obtain ⟨T20, X20, e20, st20⟩ := getS2 Y19 hx hZ hown (host := "") (Or.inl (hw _ (List.mem_of_getElem? (i := 22) rfl))) Via.refl e19 S19_9 (g := (mkF m 65 #[.val (.int i0), .val (.int i1), .unset, .unset, .unset, .unset, .unset, .unset] [(.int (9 : Int32)), (.ref a), (.ref a)])) rfl (hb hby at_65)
  refine EndsK.go st20 ?_
  show EndsK p e below _ (T20.setTop (mkF m 68 #[.val (.int i0), .val (.int i1), .unset, .unset, .unset, .unset, .unset, .unset] [(.ref d9), (.int (9 : Int32)), (.ref a), (.ref a)]))
  obtain ⟨c21, B21, q121, Sz21, q321, Hh21, G21⟩ := V19
  obtain ⟨T21, h21, X21, e21, W21, st21⟩ := stR X20 hx hZ e20 B21 (inb_of Sz21 ⟨by decide, by decide⟩) rfl (Sto.ofV B21 q121 O1 (Ins.self (Ex9.ext E19))) (g := (mkF m 68 #[.val (.int i0), .val (.int i1), .unset, .unset, .unset, .unset, .unset, .unset] [(.ref d9), (.int (9 : Int32)), (.ref a), (.ref a)])) rfl rfl (hb hby at_68)
  have V21 : Arv Z h21 a k1 (.object "com/example/quarry/quarry/rdf/Datatype") 19 [(.ref d0), (.ref d1), (.ref d2), (.ref d3), (.ref d4), (.ref d5), (.ref d6), (.ref d7), (.ref d8), (.ref d9), .null, .null, .null, .null, .null, .null, .null, .null, .null] .null := Arv.set B21 q121 Sz21 q321 Hh21 G21 rfl W21 9 rfl (Nat.le_of_ble_eq_true rfl)
  have E21 := ext_wr E19 W21 sa
  have Y21 : Stand p l e room_1 s m #[.int i0, .int i1] below meth c T21 [] (0 + 1) (0 + 19) := X21.dropFresh (fun xz hxz => by cases List.mem_singleton.mp hxz; rw [hh]; exact sa)
  refine EndsK.go st21 ?_
  have S21_10 := SS10.ext E21
  show EndsK p e below _ (T21.setTop (mkF m 69 #[.val (.int i0), .val (.int i1), .unset, .unset, .unset, .unset, .unset, .unset] [(.ref a)]))
  refine EndsK.go (fun _ kz => XS.dup Y21.here hx rfl (hb hby at_69) rfl rfl kz) ?_
  show EndsK p e below _ (T21.setTop (mkF m 70 #[.val (.int i0), .val (.int i1), .unset, .unset, .unset, .unset, .unset, .unset] [(.ref a), (.ref a)]))
  refine EndsK.go (fun _ kz => XS.bipush Y21.here hx rfl (hb hby at_70) kz) ?_
  show EndsK p e below _ (T21.setTop (mkF m 72 #[.val (.int i0), .val (.int i1), .unset, .unset, .unset, .unset, .unset, .unset] [(.int (10 : Int32)), (.ref a), (.ref a)]))
  obtain ⟨T22, X22, e22, st22⟩ := getS2 Y21 hx hZ hown (host := "") (Or.inl (hw _ (List.mem_of_getElem? (i := 24) rfl))) Via.refl e21 S21_10 (g := (mkF m 72 #[.val (.int i0), .val (.int i1), .unset, .unset, .unset, .unset, .unset, .unset] [(.int (10 : Int32)), (.ref a), (.ref a)])) rfl (hb hby at_72)
  refine EndsK.go st22 ?_
  show EndsK p e below _ (T22.setTop (mkF m 75 #[.val (.int i0), .val (.int i1), .unset, .unset, .unset, .unset, .unset, .unset] [(.ref d10), (.int (10 : Int32)), (.ref a), (.ref a)]))
  obtain ⟨c23, B23, q123, Sz23, q323, Hh23, G23⟩ := V21
  obtain ⟨T23, h23, X23, e23, W23, st23⟩ := stR X22 hx hZ e22 B23 (inb_of Sz23 ⟨by decide, by decide⟩) rfl (Sto.ofV B23 q123 O1 (Ins.self (Ex10.ext E21))) (g := (mkF m 75 #[.val (.int i0), .val (.int i1), .unset, .unset, .unset, .unset, .unset, .unset] [(.ref d10), (.int (10 : Int32)), (.ref a), (.ref a)])) rfl rfl (hb hby at_75)
  have V23 : Arv Z h23 a k1 (.object "com/example/quarry/quarry/rdf/Datatype") 19 [(.ref d0), (.ref d1), (.ref d2), (.ref d3), (.ref d4), (.ref d5), (.ref d6), (.ref d7), (.ref d8), (.ref d9), (.ref d10), .null, .null, .null, .null, .null, .null, .null, .null] .null := Arv.set B23 q123 Sz23 q323 Hh23 G23 rfl W23 10 rfl (Nat.le_of_ble_eq_true rfl)
  have E23 := ext_wr E21 W23 sa
  have Y23 : Stand p l e room_1 s m #[.int i0, .int i1] below meth c T23 [] (0 + 1) (0 + 19) := X23.dropFresh (fun xz hxz => by cases List.mem_singleton.mp hxz; rw [hh]; exact sa)
  refine EndsK.go st23 ?_
  have S23_11 := SS11.ext E23
  show EndsK p e below _ (T23.setTop (mkF m 76 #[.val (.int i0), .val (.int i1), .unset, .unset, .unset, .unset, .unset, .unset] [(.ref a)]))
  refine EndsK.go (fun _ kz => XS.dup Y23.here hx rfl (hb hby at_76) rfl rfl kz) ?_
  show EndsK p e below _ (T23.setTop (mkF m 77 #[.val (.int i0), .val (.int i1), .unset, .unset, .unset, .unset, .unset, .unset] [(.ref a), (.ref a)]))
  refine EndsK.go (fun _ kz => XS.bipush Y23.here hx rfl (hb hby at_77) kz) ?_
  show EndsK p e below _ (T23.setTop (mkF m 79 #[.val (.int i0), .val (.int i1), .unset, .unset, .unset, .unset, .unset, .unset] [(.int (11 : Int32)), (.ref a), (.ref a)]))
  obtain ⟨T24, X24, e24, st24⟩ := getS2 Y23 hx hZ hown (host := "") (Or.inl (hw _ (List.mem_of_getElem? (i := 26) rfl))) Via.refl e23 S23_11 (g := (mkF m 79 #[.val (.int i0), .val (.int i1), .unset, .unset, .unset, .unset, .unset, .unset] [(.int (11 : Int32)), (.ref a), (.ref a)])) rfl (hb hby at_79)
  refine EndsK.go st24 ?_
  show EndsK p e below _ (T24.setTop (mkF m 82 #[.val (.int i0), .val (.int i1), .unset, .unset, .unset, .unset, .unset, .unset] [(.ref d11), (.int (11 : Int32)), (.ref a), (.ref a)]))
  obtain ⟨c25, B25, q125, Sz25, q325, Hh25, G25⟩ := V23
  obtain ⟨T25, h25, X25, e25, W25, st25⟩ := stR X24 hx hZ e24 B25 (inb_of Sz25 ⟨by decide, by decide⟩) rfl (Sto.ofV B25 q125 O1 (Ins.self (Ex11.ext E23))) (g := (mkF m 82 #[.val (.int i0), .val (.int i1), .unset, .unset, .unset, .unset, .unset, .unset] [(.ref d11), (.int (11 : Int32)), (.ref a), (.ref a)])) rfl rfl (hb hby at_82)
  have V25 : Arv Z h25 a k1 (.object "com/example/quarry/quarry/rdf/Datatype") 19 [(.ref d0), (.ref d1), (.ref d2), (.ref d3), (.ref d4), (.ref d5), (.ref d6), (.ref d7), (.ref d8), (.ref d9), (.ref d10), (.ref d11), .null, .null, .null, .null, .null, .null, .null] .null := Arv.set B25 q125 Sz25 q325 Hh25 G25 rfl W25 11 rfl (Nat.le_of_ble_eq_true rfl)
  have E25 := ext_wr E23 W25 sa
  have Y25 : Stand p l e room_1 s m #[.int i0, .int i1] below meth c T25 [] (0 + 1) (0 + 19) := X25.dropFresh (fun xz hxz => by cases List.mem_singleton.mp hxz; rw [hh]; exact sa)
  refine EndsK.go st25 ?_
  have S25_12 := SS12.ext E25
  show EndsK p e below _ (T25.setTop (mkF m 83 #[.val (.int i0), .val (.int i1), .unset, .unset, .unset, .unset, .unset, .unset] [(.ref a)]))
  refine EndsK.go (fun _ kz => XS.dup Y25.here hx rfl (hb hby at_83) rfl rfl kz) ?_
  show EndsK p e below _ (T25.setTop (mkF m 84 #[.val (.int i0), .val (.int i1), .unset, .unset, .unset, .unset, .unset, .unset] [(.ref a), (.ref a)]))
  refine EndsK.go (fun _ kz => XS.bipush Y25.here hx rfl (hb hby at_84) kz) ?_
  show EndsK p e below _ (T25.setTop (mkF m 86 #[.val (.int i0), .val (.int i1), .unset, .unset, .unset, .unset, .unset, .unset] [(.int (12 : Int32)), (.ref a), (.ref a)]))
  obtain ⟨T26, X26, e26, st26⟩ := getS2 Y25 hx hZ hown (host := "") (Or.inl (hw _ (List.mem_of_getElem? (i := 28) rfl))) Via.refl e25 S25_12 (g := (mkF m 86 #[.val (.int i0), .val (.int i1), .unset, .unset, .unset, .unset, .unset, .unset] [(.int (12 : Int32)), (.ref a), (.ref a)])) rfl (hb hby at_86)
  refine EndsK.go st26 ?_
  show EndsK p e below _ (T26.setTop (mkF m 89 #[.val (.int i0), .val (.int i1), .unset, .unset, .unset, .unset, .unset, .unset] [(.ref d12), (.int (12 : Int32)), (.ref a), (.ref a)]))
  obtain ⟨c27, B27, q127, Sz27, q327, Hh27, G27⟩ := V25
  obtain ⟨T27, h27, X27, e27, W27, st27⟩ := stR X26 hx hZ e26 B27 (inb_of Sz27 ⟨by decide, by decide⟩) rfl (Sto.ofV B27 q127 O1 (Ins.self (Ex12.ext E25))) (g := (mkF m 89 #[.val (.int i0), .val (.int i1), .unset, .unset, .unset, .unset, .unset, .unset] [(.ref d12), (.int (12 : Int32)), (.ref a), (.ref a)])) rfl rfl (hb hby at_89)
  have V27 : Arv Z h27 a k1 (.object "com/example/quarry/quarry/rdf/Datatype") 19 [(.ref d0), (.ref d1), (.ref d2), (.ref d3), (.ref d4), (.ref d5), (.ref d6), (.ref d7), (.ref d8), (.ref d9), (.ref d10), (.ref d11), (.ref d12), .null, .null, .null, .null, .null, .null] .null := Arv.set B27 q127 Sz27 q327 Hh27 G27 rfl W27 12 rfl (Nat.le_of_ble_eq_true rfl)
  have E27 := ext_wr E25 W27 sa
  have Y27 : Stand p l e room_1 s m #[.int i0, .int i1] below meth c T27 [] (0 + 1) (0 + 19) := X27.dropFresh (fun xz hxz => by cases List.mem_singleton.mp hxz; rw [hh]; exact sa)
  refine EndsK.go st27 ?_
  have S27_13 := SS13.ext E27
  show EndsK p e below _ (T27.setTop (mkF m 90 #[.val (.int i0), .val (.int i1), .unset, .unset, .unset, .unset, .unset, .unset] [(.ref a)]))
  refine EndsK.go (fun _ kz => XS.dup Y27.here hx rfl (hb hby at_90) rfl rfl kz) ?_
  show EndsK p e below _ (T27.setTop (mkF m 91 #[.val (.int i0), .val (.int i1), .unset, .unset, .unset, .unset, .unset, .unset] [(.ref a), (.ref a)]))
  refine EndsK.go (fun _ kz => XS.bipush Y27.here hx rfl (hb hby at_91) kz) ?_
  show EndsK p e below _ (T27.setTop (mkF m 93 #[.val (.int i0), .val (.int i1), .unset, .unset, .unset, .unset, .unset, .unset] [(.int (13 : Int32)), (.ref a), (.ref a)]))
  obtain ⟨T28, X28, e28, st28⟩ := getS2 Y27 hx hZ hown (host := "") (Or.inl (hw _ (List.mem_of_getElem? (i := 30) rfl))) Via.refl e27 S27_13 (g := (mkF m 93 #[.val (.int i0), .val (.int i1), .unset, .unset, .unset, .unset, .unset, .unset] [(.int (13 : Int32)), (.ref a), (.ref a)])) rfl (hb hby at_93)
  refine EndsK.go st28 ?_
  show EndsK p e below _ (T28.setTop (mkF m 96 #[.val (.int i0), .val (.int i1), .unset, .unset, .unset, .unset, .unset, .unset] [(.ref d13), (.int (13 : Int32)), (.ref a), (.ref a)]))
  obtain ⟨c29, B29, q129, Sz29, q329, Hh29, G29⟩ := V27
  obtain ⟨T29, h29, X29, e29, W29, st29⟩ := stR X28 hx hZ e28 B29 (inb_of Sz29 ⟨by decide, by decide⟩) rfl (Sto.ofV B29 q129 O1 (Ins.self (Ex13.ext E27))) (g := (mkF m 96 #[.val (.int i0), .val (.int i1), .unset, .unset, .unset, .unset, .unset, .unset] [(.ref d13), (.int (13 : Int32)), (.ref a), (.ref a)])) rfl rfl (hb hby at_96)
  have V29 : Arv Z h29 a k1 (.object "com/example/quarry/quarry/rdf/Datatype") 19 [(.ref d0), (.ref d1), (.ref d2), (.ref d3), (.ref d4), (.ref d5), (.ref d6), (.ref d7), (.ref d8), (.ref d9), (.ref d10), (.ref d11), (.ref d12), (.ref d13), .null, .null, .null, .null, .null] .null := Arv.set B29 q129 Sz29 q329 Hh29 G29 rfl W29 13 rfl (Nat.le_of_ble_eq_true rfl)
  have E29 := ext_wr E27 W29 sa
  have Y29 : Stand p l e room_1 s m #[.int i0, .int i1] below meth c T29 [] (0 + 1) (0 + 19) := X29.dropFresh (fun xz hxz => by cases List.mem_singleton.mp hxz; rw [hh]; exact sa)
  refine EndsK.go st29 ?_
  have S29_14 := SS14.ext E29
  show EndsK p e below _ (T29.setTop (mkF m 97 #[.val (.int i0), .val (.int i1), .unset, .unset, .unset, .unset, .unset, .unset] [(.ref a)]))
  refine EndsK.go (fun _ kz => XS.dup Y29.here hx rfl (hb hby at_97) rfl rfl kz) ?_
  show EndsK p e below _ (T29.setTop (mkF m 98 #[.val (.int i0), .val (.int i1), .unset, .unset, .unset, .unset, .unset, .unset] [(.ref a), (.ref a)]))
  refine EndsK.go (fun _ kz => XS.bipush Y29.here hx rfl (hb hby at_98) kz) ?_
  show EndsK p e below _ (T29.setTop (mkF m 100 #[.val (.int i0), .val (.int i1), .unset, .unset, .unset, .unset, .unset, .unset] [(.int (14 : Int32)), (.ref a), (.ref a)]))
  obtain ⟨T30, X30, e30, st30⟩ := getS2 Y29 hx hZ hown (host := "") (Or.inl (hw _ (List.mem_of_getElem? (i := 32) rfl))) Via.refl e29 S29_14 (g := (mkF m 100 #[.val (.int i0), .val (.int i1), .unset, .unset, .unset, .unset, .unset, .unset] [(.int (14 : Int32)), (.ref a), (.ref a)])) rfl (hb hby at_100)
  refine EndsK.go st30 ?_
  show EndsK p e below _ (T30.setTop (mkF m 103 #[.val (.int i0), .val (.int i1), .unset, .unset, .unset, .unset, .unset, .unset] [(.ref d14), (.int (14 : Int32)), (.ref a), (.ref a)]))
  obtain ⟨c31, B31, q131, Sz31, q331, Hh31, G31⟩ := V29
  obtain ⟨T31, h31, X31, e31, W31, st31⟩ := stR X30 hx hZ e30 B31 (inb_of Sz31 ⟨by decide, by decide⟩) rfl (Sto.ofV B31 q131 O1 (Ins.self (Ex14.ext E29))) (g := (mkF m 103 #[.val (.int i0), .val (.int i1), .unset, .unset, .unset, .unset, .unset, .unset] [(.ref d14), (.int (14 : Int32)), (.ref a), (.ref a)])) rfl rfl (hb hby at_103)
  have V31 : Arv Z h31 a k1 (.object "com/example/quarry/quarry/rdf/Datatype") 19 [(.ref d0), (.ref d1), (.ref d2), (.ref d3), (.ref d4), (.ref d5), (.ref d6), (.ref d7), (.ref d8), (.ref d9), (.ref d10), (.ref d11), (.ref d12), (.ref d13), (.ref d14), .null, .null, .null, .null] .null := Arv.set B31 q131 Sz31 q331 Hh31 G31 rfl W31 14 rfl (Nat.le_of_ble_eq_true rfl)
  have E31 := ext_wr E29 W31 sa
  have Y31 : Stand p l e room_1 s m #[.int i0, .int i1] below meth c T31 [] (0 + 1) (0 + 19) := X31.dropFresh (fun xz hxz => by cases List.mem_singleton.mp hxz; rw [hh]; exact sa)
  refine EndsK.go st31 ?_
  have S31_15 := SS15.ext E31
  show EndsK p e below _ (T31.setTop (mkF m 104 #[.val (.int i0), .val (.int i1), .unset, .unset, .unset, .unset, .unset, .unset] [(.ref a)]))
  refine EndsK.go (fun _ kz => XS.dup Y31.here hx rfl (hb hby at_104) rfl rfl kz) ?_
  show EndsK p e below _ (T31.setTop (mkF m 105 #[.val (.int i0), .val (.int i1), .unset, .unset, .unset, .unset, .unset, .unset] [(.ref a), (.ref a)]))
  refine EndsK.go (fun _ kz => XS.bipush Y31.here hx rfl (hb hby at_105) kz) ?_
  show EndsK p e below _ (T31.setTop (mkF m 107 #[.val (.int i0), .val (.int i1), .unset, .unset, .unset, .unset, .unset, .unset] [(.int (15 : Int32)), (.ref a), (.ref a)]))
  obtain ⟨T32, X32, e32, st32⟩ := getS2 Y31 hx hZ hown (host := "") (Or.inl (hw _ (List.mem_of_getElem? (i := 34) rfl))) Via.refl e31 S31_15 (g := (mkF m 107 #[.val (.int i0), .val (.int i1), .unset, .unset, .unset, .unset, .unset, .unset] [(.int (15 : Int32)), (.ref a), (.ref a)])) rfl (hb hby at_107)
  refine EndsK.go st32 ?_
  show EndsK p e below _ (T32.setTop (mkF m 110 #[.val (.int i0), .val (.int i1), .unset, .unset, .unset, .unset, .unset, .unset] [(.ref d15), (.int (15 : Int32)), (.ref a), (.ref a)]))
  obtain ⟨c33, B33, q133, Sz33, q333, Hh33, G33⟩ := V31
  obtain ⟨T33, h33, X33, e33, W33, st33⟩ := stR X32 hx hZ e32 B33 (inb_of Sz33 ⟨by decide, by decide⟩) rfl (Sto.ofV B33 q133 O1 (Ins.self (Ex15.ext E31))) (g := (mkF m 110 #[.val (.int i0), .val (.int i1), .unset, .unset, .unset, .unset, .unset, .unset] [(.ref d15), (.int (15 : Int32)), (.ref a), (.ref a)])) rfl rfl (hb hby at_110)
  have V33 : Arv Z h33 a k1 (.object "com/example/quarry/quarry/rdf/Datatype") 19 [(.ref d0), (.ref d1), (.ref d2), (.ref d3), (.ref d4), (.ref d5), (.ref d6), (.ref d7), (.ref d8), (.ref d9), (.ref d10), (.ref d11), (.ref d12), (.ref d13), (.ref d14), (.ref d15), .null, .null, .null] .null := Arv.set B33 q133 Sz33 q333 Hh33 G33 rfl W33 15 rfl (Nat.le_of_ble_eq_true rfl)
  have E33 := ext_wr E31 W33 sa
  have Y33 : Stand p l e room_1 s m #[.int i0, .int i1] below meth c T33 [] (0 + 1) (0 + 19) := X33.dropFresh (fun xz hxz => by cases List.mem_singleton.mp hxz; rw [hh]; exact sa)
  refine EndsK.go st33 ?_
  have S33_16 := SS16.ext E33
  show EndsK p e below _ (T33.setTop (mkF m 111 #[.val (.int i0), .val (.int i1), .unset, .unset, .unset, .unset, .unset, .unset] [(.ref a)]))
  refine EndsK.go (fun _ kz => XS.dup Y33.here hx rfl (hb hby at_111) rfl rfl kz) ?_
  show EndsK p e below _ (T33.setTop (mkF m 112 #[.val (.int i0), .val (.int i1), .unset, .unset, .unset, .unset, .unset, .unset] [(.ref a), (.ref a)]))
  refine EndsK.go (fun _ kz => XS.bipush Y33.here hx rfl (hb hby at_112) kz) ?_
  show EndsK p e below _ (T33.setTop (mkF m 114 #[.val (.int i0), .val (.int i1), .unset, .unset, .unset, .unset, .unset, .unset] [(.int (16 : Int32)), (.ref a), (.ref a)]))
  obtain ⟨T34, X34, e34, st34⟩ := getS2 Y33 hx hZ hown (host := "") (Or.inl (hw _ (List.mem_of_getElem? (i := 36) rfl))) Via.refl e33 S33_16 (g := (mkF m 114 #[.val (.int i0), .val (.int i1), .unset, .unset, .unset, .unset, .unset, .unset] [(.int (16 : Int32)), (.ref a), (.ref a)])) rfl (hb hby at_114)
  refine EndsK.go st34 ?_
  show EndsK p e below _ (T34.setTop (mkF m 117 #[.val (.int i0), .val (.int i1), .unset, .unset, .unset, .unset, .unset, .unset] [(.ref d16), (.int (16 : Int32)), (.ref a), (.ref a)]))
  obtain ⟨c35, B35, q135, Sz35, q335, Hh35, G35⟩ := V33
  obtain ⟨T35, h35, X35, e35, W35, st35⟩ := stR X34 hx hZ e34 B35 (inb_of Sz35 ⟨by decide, by decide⟩) rfl (Sto.ofV B35 q135 O1 (Ins.self (Ex16.ext E33))) (g := (mkF m 117 #[.val (.int i0), .val (.int i1), .unset, .unset, .unset, .unset, .unset, .unset] [(.ref d16), (.int (16 : Int32)), (.ref a), (.ref a)])) rfl rfl (hb hby at_117)
  have V35 : Arv Z h35 a k1 (.object "com/example/quarry/quarry/rdf/Datatype") 19 [(.ref d0), (.ref d1), (.ref d2), (.ref d3), (.ref d4), (.ref d5), (.ref d6), (.ref d7), (.ref d8), (.ref d9), (.ref d10), (.ref d11), (.ref d12), (.ref d13), (.ref d14), (.ref d15), (.ref d16), .null, .null] .null := Arv.set B35 q135 Sz35 q335 Hh35 G35 rfl W35 16 rfl (Nat.le_of_ble_eq_true rfl)
  have E35 := ext_wr E33 W35 sa
  have Y35 : Stand p l e room_1 s m #[.int i0, .int i1] below meth c T35 [] (0 + 1) (0 + 19) := X35.dropFresh (fun xz hxz => by cases List.mem_singleton.mp hxz; rw [hh]; exact sa)
  refine EndsK.go st35 ?_
  have S35_17 := SS17.ext E35
  show EndsK p e below _ (T35.setTop (mkF m 118 #[.val (.int i0), .val (.int i1), .unset, .unset, .unset, .unset, .unset, .unset] [(.ref a)]))
  refine EndsK.go (fun _ kz => XS.dup Y35.here hx rfl (hb hby at_118) rfl rfl kz) ?_
  show EndsK p e below _ (T35.setTop (mkF m 119 #[.val (.int i0), .val (.int i1), .unset, .unset, .unset, .unset, .unset, .unset] [(.ref a), (.ref a)]))
  refine EndsK.go (fun _ kz => XS.bipush Y35.here hx rfl (hb hby at_119) kz) ?_
  show EndsK p e below _ (T35.setTop (mkF m 121 #[.val (.int i0), .val (.int i1), .unset, .unset, .unset, .unset, .unset, .unset] [(.int (17 : Int32)), (.ref a), (.ref a)]))
  obtain ⟨T36, X36, e36, st36⟩ := getS2 Y35 hx hZ hown (host := "") (Or.inl (hw _ (List.mem_of_getElem? (i := 38) rfl))) Via.refl e35 S35_17 (g := (mkF m 121 #[.val (.int i0), .val (.int i1), .unset, .unset, .unset, .unset, .unset, .unset] [(.int (17 : Int32)), (.ref a), (.ref a)])) rfl (hb hby at_121)
  refine EndsK.go st36 ?_
  show EndsK p e below _ (T36.setTop (mkF m 124 #[.val (.int i0), .val (.int i1), .unset, .unset, .unset, .unset, .unset, .unset] [(.ref d17), (.int (17 : Int32)), (.ref a), (.ref a)]))
  obtain ⟨c37, B37, q137, Sz37, q337, Hh37, G37⟩ := V35
  obtain ⟨T37, h37, X37, e37, W37, st37⟩ := stR X36 hx hZ e36 B37 (inb_of Sz37 ⟨by decide, by decide⟩) rfl (Sto.ofV B37 q137 O1 (Ins.self (Ex17.ext E35))) (g := (mkF m 124 #[.val (.int i0), .val (.int i1), .unset, .unset, .unset, .unset, .unset, .unset] [(.ref d17), (.int (17 : Int32)), (.ref a), (.ref a)])) rfl rfl (hb hby at_124)
  have V37 : Arv Z h37 a k1 (.object "com/example/quarry/quarry/rdf/Datatype") 19 [(.ref d0), (.ref d1), (.ref d2), (.ref d3), (.ref d4), (.ref d5), (.ref d6), (.ref d7), (.ref d8), (.ref d9), (.ref d10), (.ref d11), (.ref d12), (.ref d13), (.ref d14), (.ref d15), (.ref d16), (.ref d17), .null] .null := Arv.set B37 q137 Sz37 q337 Hh37 G37 rfl W37 17 rfl (Nat.le_of_ble_eq_true rfl)
  have E37 := ext_wr E35 W37 sa
  have Y37 : Stand p l e room_1 s m #[.int i0, .int i1] below meth c T37 [] (0 + 1) (0 + 19) := X37.dropFresh (fun xz hxz => by cases List.mem_singleton.mp hxz; rw [hh]; exact sa)
  refine EndsK.go st37 ?_
  have S37_18 := SS18.ext E37
  show EndsK p e below _ (T37.setTop (mkF m 125 #[.val (.int i0), .val (.int i1), .unset, .unset, .unset, .unset, .unset, .unset] [(.ref a)]))
  refine EndsK.go (fun _ kz => XS.dup Y37.here hx rfl (hb hby at_125) rfl rfl kz) ?_
  show EndsK p e below _ (T37.setTop (mkF m 126 #[.val (.int i0), .val (.int i1), .unset, .unset, .unset, .unset, .unset, .unset] [(.ref a), (.ref a)]))
  refine EndsK.go (fun _ kz => XS.bipush Y37.here hx rfl (hb hby at_126) kz) ?_
  show EndsK p e below _ (T37.setTop (mkF m 128 #[.val (.int i0), .val (.int i1), .unset, .unset, .unset, .unset, .unset, .unset] [(.int (18 : Int32)), (.ref a), (.ref a)]))
  obtain ⟨T38, X38, e38, st38⟩ := getS2 Y37 hx hZ hown (host := "") (Or.inl (hw _ (List.mem_of_getElem? (i := 40) rfl))) Via.refl e37 S37_18 (g := (mkF m 128 #[.val (.int i0), .val (.int i1), .unset, .unset, .unset, .unset, .unset, .unset] [(.int (18 : Int32)), (.ref a), (.ref a)])) rfl (hb hby at_128)
  refine EndsK.go st38 ?_
  show EndsK p e below _ (T38.setTop (mkF m 131 #[.val (.int i0), .val (.int i1), .unset, .unset, .unset, .unset, .unset, .unset] [(.ref d18), (.int (18 : Int32)), (.ref a), (.ref a)]))
  obtain ⟨c39, B39, q139, Sz39, q339, Hh39, G39⟩ := V37
  obtain ⟨T39, h39, X39, e39, W39, st39⟩ := stR X38 hx hZ e38 B39 (inb_of Sz39 ⟨by decide, by decide⟩) rfl (Sto.ofV B39 q139 O1 (Ins.self (Ex18.ext E37))) (g := (mkF m 131 #[.val (.int i0), .val (.int i1), .unset, .unset, .unset, .unset, .unset, .unset] [(.ref d18), (.int (18 : Int32)), (.ref a), (.ref a)])) rfl rfl (hb hby at_131)
  have V39 : Arv Z h39 a k1 (.object "com/example/quarry/quarry/rdf/Datatype") 19 [(.ref d0), (.ref d1), (.ref d2), (.ref d3), (.ref d4), (.ref d5), (.ref d6), (.ref d7), (.ref d8), (.ref d9), (.ref d10), (.ref d11), (.ref d12), (.ref d13), (.ref d14), (.ref d15), (.ref d16), (.ref d17), (.ref d18)] .null := Arv.set B39 q139 Sz39 q339 Hh39 G39 rfl W39 18 rfl (Nat.le_of_ble_eq_true rfl)
  have E39 := ext_wr E37 W39 sa
  have Y39 : Stand p l e room_1 s m #[.int i0, .int i1] below meth c T39 [] (0 + 1) (0 + 19) := X39.dropFresh (fun xz hxz => by cases List.mem_singleton.mp hxz; rw [hh]; exact sa)
  refine EndsK.go st39 ?_
  show EndsK p e below _ (T39.setTop (mkF m 132 #[.val (.int i0), .val (.int i1), .unset, .unset, .unset, .unset, .unset, .unset] [(.ref a)]))
  refine EndsK.go (fun _ kz => XS.astoreN Y39.here hx rfl (hb hby at_132) rfl rfl (l' := #[.val (.int i0), .val (.int i1), .val (.ref a), .unset, .unset, .unset, .unset, .unset]) rfl kz) ?_
  show EndsK p e below _ (T39.setTop (mkF m 133 #[.val (.int i0), .val (.int i1), .val (.ref a), .unset, .unset, .unset, .unset, .unset] []))
  refine EndsK.go (fun _ kz => XS.iloadN Y39.here hx rfl (hb hby at_133) rfl kz) ?_
  show EndsK p e below _ (T39.setTop (mkF m 134 #[.val (.int i0), .val (.int i1), .val (.ref a), .unset, .unset, .unset, .unset, .unset] [(.int i0)]))
  refine EndsK.go (fun _ kz => Y39.ldcI hx hown (mvT hZ (hw _ (List.mem_of_getElem? (i := 42) rfl))) rfl (hb hby at_134) kz) ?_
  show EndsK p e below _ (T39.setTop (mkF m 136 #[.val (.int i0), .val (.int i1), .val (.ref a), .unset, .unset, .unset, .unset, .unset] [(.int (2147483647 : Int32)), (.int i0)]))
  refine EndsK.go (fun _ kz => XS.iand Y39.here hx rfl (hb hby at_136) rfl kz) ?_
  show EndsK p e below _ (T39.setTop (mkF m 137 #[.val (.int i0), .val (.int i1), .val (.ref a), .unset, .unset, .unset, .unset, .unset] [(.int (i0 &&& (2147483647 : Int32)))]))
  refine EndsK.go (fun _ kz => XS.bipush Y39.here hx rfl (hb hby at_137) kz) ?_
  show EndsK p e below _ (T39.setTop (mkF m 139 #[.val (.int i0), .val (.int i1), .val (.ref a), .unset, .unset, .unset, .unset, .unset] [(.int (19 : Int32)), (.int (i0 &&& (2147483647 : Int32)))]))
  refine EndsK.go (fun _ kz => iremM Y39 hx rfl (hb hby at_139) rfl (by decide) kz) ?_
  show EndsK p e below _ (T39.setTop (mkF m 140 #[.val (.int i0), .val (.int i1), .val (.ref a), .unset, .unset, .unset, .unset, .unset] [(.int ((i0 &&& (2147483647 : Int32)) % (19 : Int32)))]))
  refine EndsK.go (fun _ kz => XS.istoreN Y39.here hx rfl (hb hby at_140) rfl (l' := #[.val (.int i0), .val (.int i1), .val (.ref a), .val (.int ((i0 &&& (2147483647 : Int32)) % (19 : Int32))), .unset, .unset, .unset, .unset]) rfl kz) ?_
  show EndsK p e below _ (T39.setTop (mkF m 141 #[.val (.int i0), .val (.int i1), .val (.ref a), .val (.int ((i0 &&& (2147483647 : Int32)) % (19 : Int32))), .unset, .unset, .unset, .unset] []))
  refine EndsK.go (fun _ kz => XS.iloadN Y39.here hx rfl (hb hby at_141) rfl kz) ?_
  show EndsK p e below _ (T39.setTop (mkF m 142 #[.val (.int i0), .val (.int i1), .val (.ref a), .val (.int ((i0 &&& (2147483647 : Int32)) % (19 : Int32))), .unset, .unset, .unset, .unset] [(.int i1)]))
  refine EndsK.go (fun _ kz => Y39.ldcI hx hown (mvT hZ (hw _ (List.mem_of_getElem? (i := 42) rfl))) rfl (hb hby at_142) kz) ?_
  show EndsK p e below _ (T39.setTop (mkF m 144 #[.val (.int i0), .val (.int i1), .val (.ref a), .val (.int ((i0 &&& (2147483647 : Int32)) % (19 : Int32))), .unset, .unset, .unset, .unset] [(.int (2147483647 : Int32)), (.int i1)]))
  refine EndsK.go (fun _ kz => XS.iand Y39.here hx rfl (hb hby at_144) rfl kz) ?_
  show EndsK p e below _ (T39.setTop (mkF m 145 #[.val (.int i0), .val (.int i1), .val (.ref a), .val (.int ((i0 &&& (2147483647 : Int32)) % (19 : Int32))), .unset, .unset, .unset, .unset] [(.int (i1 &&& (2147483647 : Int32)))]))
  refine EndsK.go (fun _ kz => XS.bipush Y39.here hx rfl (hb hby at_145) kz) ?_
  show EndsK p e below _ (T39.setTop (mkF m 147 #[.val (.int i0), .val (.int i1), .val (.ref a), .val (.int ((i0 &&& (2147483647 : Int32)) % (19 : Int32))), .unset, .unset, .unset, .unset] [(.int (19 : Int32)), (.int (i1 &&& (2147483647 : Int32)))]))
  refine EndsK.go (fun _ kz => iremM Y39 hx rfl (hb hby at_147) rfl (by decide) kz) ?_
  show EndsK p e below _ (T39.setTop (mkF m 148 #[.val (.int i0), .val (.int i1), .val (.ref a), .val (.int ((i0 &&& (2147483647 : Int32)) % (19 : Int32))), .unset, .unset, .unset, .unset] [(.int ((i1 &&& (2147483647 : Int32)) % (19 : Int32)))]))
  refine EndsK.go (fun _ kz => XS.istore Y39.here hx rfl (hb hby at_148) rfl (l' := #[.val (.int i0), .val (.int i1), .val (.ref a), .val (.int ((i0 &&& (2147483647 : Int32)) % (19 : Int32))), .val (.int ((i1 &&& (2147483647 : Int32)) % (19 : Int32))), .unset, .unset, .unset]) rfl kz) ?_
  show EndsK p e below _ (T39.setTop (mkF m 150 #[.val (.int i0), .val (.int i1), .val (.ref a), .val (.int ((i0 &&& (2147483647 : Int32)) % (19 : Int32))), .val (.int ((i1 &&& (2147483647 : Int32)) % (19 : Int32))), .unset, .unset, .unset] []))
  have bi : ¬ ((i0 &&& (2147483647 : Int32)) % (19 : Int32)) < 0 ∧ ((i0 &&& (2147483647 : Int32)) % (19 : Int32)) < 19 := by
    simp only [Int32.lt_iff_toInt_lt]
    have fz1 := rng32 i0
    have fz2 : ((2147483647 : Int32)).toInt = 2147483647 := rfl
    have fz3 := c_mask i0 (2147483647 : Int32) 31 (by decide) (by decide)
    have fz4 : ((19 : Int32)).toInt = 19 := rfl
    have fz5 := c_irem (i0 &&& (2147483647 : Int32)) (19 : Int32) 19 rfl
    have fz6 : ((0 : Int32)).toInt = 0 := rfl
    omega
  have bj : ¬ ((i1 &&& (2147483647 : Int32)) % (19 : Int32)) < 0 ∧ ((i1 &&& (2147483647 : Int32)) % (19 : Int32)) < 19 := by
    simp only [Int32.lt_iff_toInt_lt]
    have fz1 := rng32 i1
    have fz2 : ((2147483647 : Int32)).toInt = 2147483647 := rfl
    have fz3 := c_mask i1 (2147483647 : Int32) 31 (by decide) (by decide)
    have fz4 : ((19 : Int32)).toInt = 19 := rfl
    have fz5 := c_irem (i1 &&& (2147483647 : Int32)) (19 : Int32) 19 rfl
    have fz6 : ((0 : Int32)).toInt = 0 := rfl
    omega
  obtain ⟨xi, exi⟩ : ∃ z, z = ((i0 &&& (2147483647 : Int32)) % (19 : Int32)) := ⟨_, rfl⟩
  obtain ⟨xj, exj⟩ : ∃ z, z = ((i1 &&& (2147483647 : Int32)) % (19 : Int32)) := ⟨_, rfl⟩
  rw [← exi] at bi ⊢
  rw [← exj] at bj ⊢
  show EndsK p e below _ (T39.setTop (mkF m 150 #[.val (.int i0), .val (.int i1), .val (.ref a), .val (.int xi), .val (.int xj), .unset, .unset, .unset] []))
  refine EndsK.go (fun _ kz => XS.iloadN Y39.here hx rfl (hb hby at_150) rfl kz) ?_
  show EndsK p e below _ (T39.setTop (mkF m 151 #[.val (.int i0), .val (.int i1), .val (.ref a), .val (.int xi), .val (.int xj), .unset, .unset, .unset] [(.int xi)]))
  obtain ⟨_, _, ⟨T40, L40, k40, n40⟩, -, X40, ⟨Lc40, hQ40, l40, y40, z40⟩, st40⟩ := Jvm.LawKit.callS Y39 hx (y := (⟨"com/example/quarry/quarry/rdf/DatatypeIsDisjointFromPinLaw", "fam", "(I)I"⟩ : MethodName)) hown (mvT hZ (hw _ (List.mem_of_getElem? (i := 43) rfl))) (mvT hZ (hw _ (List.mem_of_getElem? (i := 44) rfl))) (mvT hZ (hw _ (List.mem_of_getElem? (i := 45) rfl))) (mvT hZ (hw _ (List.mem_of_getElem? (i := 46) rfl))) (by decide) (backOf (W := 0) (rm_fam l Z a0 hw [] xi h39 n0 (Nat.le_trans Z0 E39.1)) hZ (hw _ (List.mem_of_getElem? (i := 46) rfl)) (hw _ (List.mem_of_getElem? (i := 45) rfl)) (by decide) (by decide)) (g := (mkF m 151 #[.val (.int i0), .val (.int i1), .val (.ref a), .val (.int xi), .val (.int xj), .unset, .unset, .unset] [(.int xi)])) rfl (by rw [hml]; rfl) (argsL := [(.int xi)]) (rest := []) (lenOf pd0 rfl) rfl (by show 2 * 0 + _ ≤ _; exact Nat.le_of_eq rfl) (hb hby at_151) (fun _ _ => ⟨rfl, e39, (by decide : (0 + 1) + 0 ≤ _), (by decide : (0 + 19) + 0 ≤ _)⟩)
  dsimp only [Pt.U, Pt.locs, Pt.cells, Pt.slots] at X40 l40 y40 z40 st40 hQ40
  subst l40 y40 z40
  obtain ⟨rfl, N40, e40⟩ := hQ40
  have M40 := Fr.app N0 N40
  refine EndsK.go st40 ?_
  show EndsK p e below _ (T40.setTop (mkF m 154 #[.val (.int i0), .val (.int i1), .val (.ref a), .val (.int xi), .val (.int xj), .unset, .unset, .unset] [(.int (famF xi))]))
  refine EndsK.go (fun _ kz => XS.istore X40.here hx rfl (hb hby at_154) rfl (l' := #[.val (.int i0), .val (.int i1), .val (.ref a), .val (.int xi), .val (.int xj), .val (.int (famF xi)), .unset, .unset]) rfl kz) ?_
  show EndsK p e below _ (T40.setTop (mkF m 156 #[.val (.int i0), .val (.int i1), .val (.ref a), .val (.int xi), .val (.int xj), .val (.int (famF xi)), .unset, .unset] []))
  refine EndsK.go (fun _ kz => XS.iload X40.here hx rfl (hb hby at_156) rfl kz) ?_
  show EndsK p e below _ (T40.setTop (mkF m 158 #[.val (.int i0), .val (.int i1), .val (.ref a), .val (.int xi), .val (.int xj), .val (.int (famF xi)), .unset, .unset] [(.int xj)]))
  obtain ⟨_, _, ⟨T41, L41, k41, n41⟩, -, X41, ⟨Lc41, hQ41, l41, y41, z41⟩, st41⟩ := Jvm.LawKit.callS X40 hx (y := (⟨"com/example/quarry/quarry/rdf/DatatypeIsDisjointFromPinLaw", "fam", "(I)I"⟩ : MethodName)) hown (mvT hZ (hw _ (List.mem_of_getElem? (i := 43) rfl))) (mvT hZ (hw _ (List.mem_of_getElem? (i := 44) rfl))) (mvT hZ (hw _ (List.mem_of_getElem? (i := 45) rfl))) (mvT hZ (hw _ (List.mem_of_getElem? (i := 46) rfl))) (by decide) (backOf (W := 0) (rm_fam l Z a0 hw [] xj h39 n0 (Nat.le_trans Z0 E39.1)) hZ (hw _ (List.mem_of_getElem? (i := 46) rfl)) (hw _ (List.mem_of_getElem? (i := 45) rfl)) (by decide) (by decide)) (g := (mkF m 158 #[.val (.int i0), .val (.int i1), .val (.ref a), .val (.int xi), .val (.int xj), .val (.int (famF xi)), .unset, .unset] [(.int xj)])) rfl (by rw [hml]; rfl) (argsL := [(.int xj)]) (rest := []) (lenOf pd0 rfl) rfl (by show 2 * 0 + _ ≤ _; exact Nat.le_of_eq rfl) (hb hby at_158) (fun _ _ => ⟨rfl, e40, (by decide : (0 + 1) + 0 + 0 ≤ _), (by decide : (0 + 19) + 0 + 0 ≤ _)⟩)
  dsimp only [Pt.U, Pt.locs, Pt.cells, Pt.slots] at X41 l41 y41 z41 st41 hQ41
  subst l41 y41 z41
  obtain ⟨rfl, N41, e41⟩ := hQ41
  have M41 := Fr.app M40 N41
  refine EndsK.go st41 ?_
  show EndsK p e below _ (T41.setTop (mkF m 161 #[.val (.int i0), .val (.int i1), .val (.ref a), .val (.int xi), .val (.int xj), .val (.int (famF xi)), .unset, .unset] [(.int (famF xj))]))
  refine EndsK.go (fun _ kz => XS.istore X41.here hx rfl (hb hby at_161) rfl (l' := #[.val (.int i0), .val (.int i1), .val (.ref a), .val (.int xi), .val (.int xj), .val (.int (famF xi)), .val (.int (famF xj)), .unset]) rfl kz) ?_
  show EndsK p e below _ (T41.setTop (mkF m 163 #[.val (.int i0), .val (.int i1), .val (.ref a), .val (.int xi), .val (.int xj), .val (.int (famF xi)), .val (.int (famF xj)), .unset] []))
  refine EndsK.go (fun _ kz => XS.iload X41.here hx rfl (hb hby at_163) rfl kz) ?_
  show EndsK p e below _ (T41.setTop (mkF m 165 #[.val (.int i0), .val (.int i1), .val (.ref a), .val (.int xi), .val (.int xj), .val (.int (famF xi)), .val (.int (famF xj)), .unset] [(.int (famF xi))]))
  by_cases H165_42 : (famF xi) < (0 : Int32)
  · refine EndsK.go (fun _ kz => XS.ifYes X41.here hx rfl (pc0 := 165) (pc' := 184) rfl (hb hby at_165) rfl ((if0 _ _).trans (tlt H165_42).1) (by decide) (by decide) kz) ?_
    show EndsK p e below _ (T41.setTop (mkF m 184 #[.val (.int i0), .val (.int i1), .val (.ref a), .val (.int xi), .val (.int xj), .val (.int (famF xi)), .val (.int (famF xj)), .unset] []))
    refine EndsK.go (fun _ kz => XS.iconst X41.here hx rfl (hb hby at_184) kz) ?_
    show EndsK p e below _ (T41.setTop (mkF m 185 #[.val (.int i0), .val (.int i1), .val (.ref a), .val (.int xi), .val (.int xj), .val (.int (famF xi)), .val (.int (famF xj)), .unset] [(.int (0 : Int32))]))
    refine EndsK.go (fun _ kz => XS.istore X41.here hx rfl (hb hby at_185) rfl (l' := #[.val (.int i0), .val (.int i1), .val (.ref a), .val (.int xi), .val (.int xj), .val (.int (famF xi)), .val (.int (famF xj)), .val (.int (0 : Int32))]) rfl kz) ?_
    show EndsK p e below _ (T41.setTop (mkF m 187 #[.val (.int i0), .val (.int i1), .val (.ref a), .val (.int xi), .val (.int xj), .val (.int (famF xi)), .val (.int (famF xj)), .val (.int (0 : Int32))] []))
    obtain ⟨di, fi, u1, u2, u3, u4⟩ := own_pick (Ex0.ext E39) (Ex1.ext E39) (Ex2.ext E39) (Ex3.ext E39) (Ex4.ext E39) (Ex5.ext E39) (Ex6.ext E39) (Ex7.ext E39) (Ex8.ext E39) (Ex9.ext E39) (Ex10.ext E39) (Ex11.ext E39) (Ex12.ext E39) (Ex13.ext E39) (Ex14.ext E39) (Ex15.ext E39) (Ex16.ext E39) (Ex17.ext E39) (Ex18.ext E39) (FF0.ext E39) (FF1.ext E39) (FF2.ext E39) (FF3.ext E39) (FF4.ext E39) (FF5.ext E39) (FF6.ext E39) (FF7.ext E39) (FF8.ext E39) (FF9.ext E39) (FF10.ext E39) (FF11.ext E39) (FF12.ext E39) (FF13.ext E39) (FF14.ext E39) (FF15.ext E39) (FF16.ext E39) (FF17.ext E39) (FF18.ext E39) (GG0.ext E39) (GG1.ext E39) (GG2.ext E39) (GG3.ext E39) (GG4.ext E39) (GG5.ext E39) (GG6.ext E39) bi.1 bi.2
    obtain ⟨dj, fj, v1, v2, v3, v4⟩ := own_pick (Ex0.ext E39) (Ex1.ext E39) (Ex2.ext E39) (Ex3.ext E39) (Ex4.ext E39) (Ex5.ext E39) (Ex6.ext E39) (Ex7.ext E39) (Ex8.ext E39) (Ex9.ext E39) (Ex10.ext E39) (Ex11.ext E39) (Ex12.ext E39) (Ex13.ext E39) (Ex14.ext E39) (Ex15.ext E39) (Ex16.ext E39) (Ex17.ext E39) (Ex18.ext E39) (FF0.ext E39) (FF1.ext E39) (FF2.ext E39) (FF3.ext E39) (FF4.ext E39) (FF5.ext E39) (FF6.ext E39) (FF7.ext E39) (FF8.ext E39) (FF9.ext E39) (FF10.ext E39) (FF11.ext E39) (FF12.ext E39) (FF13.ext E39) (FF14.ext E39) (FF15.ext E39) (FF16.ext E39) (FF17.ext E39) (FF18.ext E39) (GG0.ext E39) (GG1.ext E39) (GG2.ext E39) (GG3.ext E39) (GG4.ext E39) (GG5.ext E39) (GG6.ext E39) bj.1 bj.2
    obtain ⟨cA, B, q1, Sz, q3, Hh, G⟩ := V39
    show EndsK p e below _ (T41.setTop (mkF m 187 #[.val (.int i0), .val (.int i1), .val (.ref a), .val (.int xi), .val (.int xj), .val (.int (famF xi)), .val (.int (famF xj)), .val (.int (0 : Int32))] []))
    refine EndsK.go (fun _ kz => XS.aloadN X41.here hx rfl (hb hby at_187) rfl rfl kz) ?_
    show EndsK p e below _ (T41.setTop (mkF m 188 #[.val (.int i0), .val (.int i1), .val (.ref a), .val (.int xi), .val (.int xj), .val (.int (famF xi)), .val (.int (famF xj)), .val (.int (0 : Int32))] [(.ref a)]))
    refine EndsK.go (fun _ kz => XS.iloadN X41.here hx rfl (hb hby at_188) rfl kz) ?_
    show EndsK p e below _ (T41.setTop (mkF m 189 #[.val (.int i0), .val (.int i1), .val (.ref a), .val (.int xi), .val (.int xj), .val (.int (famF xi)), .val (.int (famF xj)), .val (.int (0 : Int32))] [(.int xi), (.ref a)]))
    refine EndsK.go (fun tz kz => X41.aaload hx (j := xi) (v := (.ref di)) (by rw [e41]; exact B.1) (State.isArrayOf_alike hZ.alike B.2.1) rfl B.2.2 (inb_of Sz bi) (Has.at Hh (inb_of Sz bi) u1) (g := (mkF m 189 #[.val (.int i0), .val (.int i1), .val (.ref a), .val (.int xi), .val (.int xj), .val (.int (famF xi)), .val (.int (famF xj)), .val (.int (0 : Int32))] [(.int xi), (.ref a)])) rfl rfl (hb hby at_189) tz kz) ?_
    show EndsK p e below _ (T41.setTop (mkF m 190 #[.val (.int i0), .val (.int i1), .val (.ref a), .val (.int xi), .val (.int xj), .val (.int (famF xi)), .val (.int (famF xj)), .val (.int (0 : Int32))] [(.ref di)]))
    refine EndsK.go (fun _ kz => XS.aloadN X41.here hx rfl (hb hby at_190) rfl rfl kz) ?_
    show EndsK p e below _ (T41.setTop (mkF m 191 #[.val (.int i0), .val (.int i1), .val (.ref a), .val (.int xi), .val (.int xj), .val (.int (famF xi)), .val (.int (famF xj)), .val (.int (0 : Int32))] [(.ref a), (.ref di)]))
    refine EndsK.go (fun _ kz => XS.iload X41.here hx rfl (hb hby at_191) rfl kz) ?_
    show EndsK p e below _ (T41.setTop (mkF m 193 #[.val (.int i0), .val (.int i1), .val (.ref a), .val (.int xi), .val (.int xj), .val (.int (famF xi)), .val (.int (famF xj)), .val (.int (0 : Int32))] [(.int xj), (.ref a), (.ref di)]))
    refine EndsK.go (fun tz kz => X41.aaload hx (j := xj) (v := (.ref dj)) (by rw [e41]; exact B.1) (State.isArrayOf_alike hZ.alike B.2.1) rfl B.2.2 (inb_of Sz bj) (Has.at Hh (inb_of Sz bj) v1) (g := (mkF m 193 #[.val (.int i0), .val (.int i1), .val (.ref a), .val (.int xi), .val (.int xj), .val (.int (famF xi)), .val (.int (famF xj)), .val (.int (0 : Int32))] [(.int xj), (.ref a), (.ref di)])) rfl rfl (hb hby at_193) tz kz) ?_
    show EndsK p e below _ (T41.setTop (mkF m 194 #[.val (.int i0), .val (.int i1), .val (.ref a), .val (.int xi), .val (.int xj), .val (.int (famF xi)), .val (.int (famF xj)), .val (.int (0 : Int32))] [(.ref dj), (.ref di)]))
    obtain ⟨cq43, kq43, qa43, qb43, qc43⟩ := isOf hZ e41 u2
    obtain ⟨_, _, ⟨T43, L43, k43, n43⟩, -, X43, ⟨Lc43, hQ43, l43, y43, z43⟩, st43⟩ := X41.virtualBack hx (y := (⟨"com/example/quarry/quarry/rdf/Datatype", "isDisjointFrom", "(Lcom/example/quarry/quarry/rdf/Datatype;)Z"⟩ : MethodName)) (z := (⟨"com/example/quarry/quarry/rdf/Datatype", "isDisjointFrom", "(Lcom/example/quarry/quarry/rdf/Datatype;)Z"⟩ : MethodName)) hown (mvT hZ (hw _ (List.mem_of_getElem? (i := 47) rfl))) (mvT hZ (hw _ (List.mem_of_getElem? (i := 48) rfl))) (notFace_of_selects (args := #[]) (mvT hZ (hw _ (List.mem_of_getElem? (i := 50) rfl)))) (mvT hZ (hw _ (List.mem_of_getElem? (i := 50) rfl))) (mvT hZ (hw _ (List.mem_of_getElem? (i := 49) rfl))) (by decide) (backOf (W := 0) (rm_dis l Z a0 hw [] di dj fi fj h39 n0 (Nat.le_trans Z0 E39.1) (own_nn u4) (own_nn v4) u3 v3) hZ (hw _ (List.mem_of_getElem? (i := 51) rfl)) (hw _ (List.mem_of_getElem? (i := 3) rfl)) (by decide) (by decide)) qa43 qc43 (g := (mkF m 194 #[.val (.int i0), .val (.int i1), .val (.ref a), .val (.int xi), .val (.int xj), .val (.int (famF xi)), .val (.int (famF xj)), .val (.int (0 : Int32))] [(.ref dj), (.ref di)])) rfl (by rw [hml]; rfl) (Steps.refl _) (argsL := [(.ref dj)]) (rest := []) (lenOf pd1 rfl) rfl (by show 2 * 0 + _ ≤ _; exact Nat.le_of_eq rfl) (hb hby at_194) (fun _ _ => ⟨rfl, e41, (by decide : (0 + 1) + 0 + 0 + 0 ≤ _), (by decide : (0 + 19) + 0 + 0 + 0 ≤ _)⟩)
    dsimp only [Pt.U, Pt.locs, Pt.cells, Pt.slots] at X43 l43 y43 z43 st43 hQ43
    subst l43 y43 z43
    obtain ⟨rfl, N43, e43⟩ := hQ43
    have M43 := Fr.app M41 N43
    refine EndsK.tr st43 ?_
    show EndsK p e below _ (T43.setTop (mkF m 197 #[.val (.int i0), .val (.int i1), .val (.ref a), .val (.int xi), .val (.int xj), .val (.int (famF xi)), .val (.int (famF xj)), .val (.int (0 : Int32))] [(.int (disF fi fj))]))
    refine EndsK.go (fun _ kz => XS.iload X43.here hx rfl (hb hby at_197) rfl kz) ?_
    show EndsK p e below _ (T43.setTop (mkF m 199 #[.val (.int i0), .val (.int i1), .val (.ref a), .val (.int xi), .val (.int xj), .val (.int (famF xi)), .val (.int (famF xj)), .val (.int (0 : Int32))] [(.int (0 : Int32)), (.int (disF fi fj))]))
    refine EndsK.go (fun _ kz => XS.icmpNo X43.here hx rfl (hb hby at_199) rfl (teq ((own_fin u4 v4).1 H165_42)).2 kz) ?_
    show EndsK p e below _ (T43.setTop (mkF m 202 #[.val (.int i0), .val (.int i1), .val (.ref a), .val (.int xi), .val (.int xj), .val (.int (famF xi)), .val (.int (famF xj)), .val (.int (0 : Int32))] []))
    refine EndsK.go (fun _ kz => XS.iconst X43.here hx rfl (hb hby at_202) kz) ?_
    show EndsK p e below _ (T43.setTop (mkF m 203 #[.val (.int i0), .val (.int i1), .val (.ref a), .val (.int xi), .val (.int xj), .val (.int (famF xi)), .val (.int (famF xj)), .val (.int (0 : Int32))] [(.int (1 : Int32))]))
    refine EndsK.go (fun _ kz => XS.goto X43.here hx rfl (pc0 := 203) (pc' := 207) rfl (hb hby at_203) (by decide) (by decide) kz) ?_
    show EndsK p e below _ (T43.setTop (mkF m 207 #[.val (.int i0), .val (.int i1), .val (.ref a), .val (.int xi), .val (.int xj), .val (.int (famF xi)), .val (.int (famF xj)), .val (.int (0 : Int32))] [(.int (1 : Int32))]))
    exact endN X43 hx (t := .boolean) Bd.returns (by simp) (hb hby at_207) hlk ⟨rfl, M43⟩ (by decide) (by decide)
  · refine EndsK.go (fun _ kz => XS.ifNo X41.here hx rfl (hb hby at_165) rfl ((if0 _ _).trans (flt H165_42).1) kz) ?_
    show EndsK p e below _ (T41.setTop (mkF m 168 #[.val (.int i0), .val (.int i1), .val (.ref a), .val (.int xi), .val (.int xj), .val (.int (famF xi)), .val (.int (famF xj)), .unset] []))
    refine EndsK.go (fun _ kz => XS.iload X41.here hx rfl (hb hby at_168) rfl kz) ?_
    show EndsK p e below _ (T41.setTop (mkF m 170 #[.val (.int i0), .val (.int i1), .val (.ref a), .val (.int xi), .val (.int xj), .val (.int (famF xi)), .val (.int (famF xj)), .unset] [(.int (famF xj))]))
    by_cases H170_44 : (famF xj) < (0 : Int32)
    · refine EndsK.go (fun _ kz => XS.ifYes X41.here hx rfl (pc0 := 170) (pc' := 184) rfl (hb hby at_170) rfl ((if0 _ _).trans (tlt H170_44).1) (by decide) (by decide) kz) ?_
      show EndsK p e below _ (T41.setTop (mkF m 184 #[.val (.int i0), .val (.int i1), .val (.ref a), .val (.int xi), .val (.int xj), .val (.int (famF xi)), .val (.int (famF xj)), .unset] []))
      refine EndsK.go (fun _ kz => XS.iconst X41.here hx rfl (hb hby at_184) kz) ?_
      show EndsK p e below _ (T41.setTop (mkF m 185 #[.val (.int i0), .val (.int i1), .val (.ref a), .val (.int xi), .val (.int xj), .val (.int (famF xi)), .val (.int (famF xj)), .unset] [(.int (0 : Int32))]))
      refine EndsK.go (fun _ kz => XS.istore X41.here hx rfl (hb hby at_185) rfl (l' := #[.val (.int i0), .val (.int i1), .val (.ref a), .val (.int xi), .val (.int xj), .val (.int (famF xi)), .val (.int (famF xj)), .val (.int (0 : Int32))]) rfl kz) ?_
      show EndsK p e below _ (T41.setTop (mkF m 187 #[.val (.int i0), .val (.int i1), .val (.ref a), .val (.int xi), .val (.int xj), .val (.int (famF xi)), .val (.int (famF xj)), .val (.int (0 : Int32))] []))
      obtain ⟨di, fi, u1, u2, u3, u4⟩ := own_pick (Ex0.ext E39) (Ex1.ext E39) (Ex2.ext E39) (Ex3.ext E39) (Ex4.ext E39) (Ex5.ext E39) (Ex6.ext E39) (Ex7.ext E39) (Ex8.ext E39) (Ex9.ext E39) (Ex10.ext E39) (Ex11.ext E39) (Ex12.ext E39) (Ex13.ext E39) (Ex14.ext E39) (Ex15.ext E39) (Ex16.ext E39) (Ex17.ext E39) (Ex18.ext E39) (FF0.ext E39) (FF1.ext E39) (FF2.ext E39) (FF3.ext E39) (FF4.ext E39) (FF5.ext E39) (FF6.ext E39) (FF7.ext E39) (FF8.ext E39) (FF9.ext E39) (FF10.ext E39) (FF11.ext E39) (FF12.ext E39) (FF13.ext E39) (FF14.ext E39) (FF15.ext E39) (FF16.ext E39) (FF17.ext E39) (FF18.ext E39) (GG0.ext E39) (GG1.ext E39) (GG2.ext E39) (GG3.ext E39) (GG4.ext E39) (GG5.ext E39) (GG6.ext E39) bi.1 bi.2
      obtain ⟨dj, fj, v1, v2, v3, v4⟩ := own_pick (Ex0.ext E39) (Ex1.ext E39) (Ex2.ext E39) (Ex3.ext E39) (Ex4.ext E39) (Ex5.ext E39) (Ex6.ext E39) (Ex7.ext E39) (Ex8.ext E39) (Ex9.ext E39) (Ex10.ext E39) (Ex11.ext E39) (Ex12.ext E39) (Ex13.ext E39) (Ex14.ext E39) (Ex15.ext E39) (Ex16.ext E39) (Ex17.ext E39) (Ex18.ext E39) (FF0.ext E39) (FF1.ext E39) (FF2.ext E39) (FF3.ext E39) (FF4.ext E39) (FF5.ext E39) (FF6.ext E39) (FF7.ext E39) (FF8.ext E39) (FF9.ext E39) (FF10.ext E39) (FF11.ext E39) (FF12.ext E39) (FF13.ext E39) (FF14.ext E39) (FF15.ext E39) (FF16.ext E39) (FF17.ext E39) (FF18.ext E39) (GG0.ext E39) (GG1.ext E39) (GG2.ext E39) (GG3.ext E39) (GG4.ext E39) (GG5.ext E39) (GG6.ext E39) bj.1 bj.2
      obtain ⟨cA, B, q1, Sz, q3, Hh, G⟩ := V39
      show EndsK p e below _ (T41.setTop (mkF m 187 #[.val (.int i0), .val (.int i1), .val (.ref a), .val (.int xi), .val (.int xj), .val (.int (famF xi)), .val (.int (famF xj)), .val (.int (0 : Int32))] []))
      refine EndsK.go (fun _ kz => XS.aloadN X41.here hx rfl (hb hby at_187) rfl rfl kz) ?_
      show EndsK p e below _ (T41.setTop (mkF m 188 #[.val (.int i0), .val (.int i1), .val (.ref a), .val (.int xi), .val (.int xj), .val (.int (famF xi)), .val (.int (famF xj)), .val (.int (0 : Int32))] [(.ref a)]))
      refine EndsK.go (fun _ kz => XS.iloadN X41.here hx rfl (hb hby at_188) rfl kz) ?_
      show EndsK p e below _ (T41.setTop (mkF m 189 #[.val (.int i0), .val (.int i1), .val (.ref a), .val (.int xi), .val (.int xj), .val (.int (famF xi)), .val (.int (famF xj)), .val (.int (0 : Int32))] [(.int xi), (.ref a)]))
      refine EndsK.go (fun tz kz => X41.aaload hx (j := xi) (v := (.ref di)) (by rw [e41]; exact B.1) (State.isArrayOf_alike hZ.alike B.2.1) rfl B.2.2 (inb_of Sz bi) (Has.at Hh (inb_of Sz bi) u1) (g := (mkF m 189 #[.val (.int i0), .val (.int i1), .val (.ref a), .val (.int xi), .val (.int xj), .val (.int (famF xi)), .val (.int (famF xj)), .val (.int (0 : Int32))] [(.int xi), (.ref a)])) rfl rfl (hb hby at_189) tz kz) ?_
      show EndsK p e below _ (T41.setTop (mkF m 190 #[.val (.int i0), .val (.int i1), .val (.ref a), .val (.int xi), .val (.int xj), .val (.int (famF xi)), .val (.int (famF xj)), .val (.int (0 : Int32))] [(.ref di)]))
      refine EndsK.go (fun _ kz => XS.aloadN X41.here hx rfl (hb hby at_190) rfl rfl kz) ?_
      show EndsK p e below _ (T41.setTop (mkF m 191 #[.val (.int i0), .val (.int i1), .val (.ref a), .val (.int xi), .val (.int xj), .val (.int (famF xi)), .val (.int (famF xj)), .val (.int (0 : Int32))] [(.ref a), (.ref di)]))
      refine EndsK.go (fun _ kz => XS.iload X41.here hx rfl (hb hby at_191) rfl kz) ?_
      show EndsK p e below _ (T41.setTop (mkF m 193 #[.val (.int i0), .val (.int i1), .val (.ref a), .val (.int xi), .val (.int xj), .val (.int (famF xi)), .val (.int (famF xj)), .val (.int (0 : Int32))] [(.int xj), (.ref a), (.ref di)]))
      refine EndsK.go (fun tz kz => X41.aaload hx (j := xj) (v := (.ref dj)) (by rw [e41]; exact B.1) (State.isArrayOf_alike hZ.alike B.2.1) rfl B.2.2 (inb_of Sz bj) (Has.at Hh (inb_of Sz bj) v1) (g := (mkF m 193 #[.val (.int i0), .val (.int i1), .val (.ref a), .val (.int xi), .val (.int xj), .val (.int (famF xi)), .val (.int (famF xj)), .val (.int (0 : Int32))] [(.int xj), (.ref a), (.ref di)])) rfl rfl (hb hby at_193) tz kz) ?_
      show EndsK p e below _ (T41.setTop (mkF m 194 #[.val (.int i0), .val (.int i1), .val (.ref a), .val (.int xi), .val (.int xj), .val (.int (famF xi)), .val (.int (famF xj)), .val (.int (0 : Int32))] [(.ref dj), (.ref di)]))
      obtain ⟨cq45, kq45, qa45, qb45, qc45⟩ := isOf hZ e41 u2
      obtain ⟨_, _, ⟨T45, L45, k45, n45⟩, -, X45, ⟨Lc45, hQ45, l45, y45, z45⟩, st45⟩ := X41.virtualBack hx (y := (⟨"com/example/quarry/quarry/rdf/Datatype", "isDisjointFrom", "(Lcom/example/quarry/quarry/rdf/Datatype;)Z"⟩ : MethodName)) (z := (⟨"com/example/quarry/quarry/rdf/Datatype", "isDisjointFrom", "(Lcom/example/quarry/quarry/rdf/Datatype;)Z"⟩ : MethodName)) hown (mvT hZ (hw _ (List.mem_of_getElem? (i := 47) rfl))) (mvT hZ (hw _ (List.mem_of_getElem? (i := 48) rfl))) (notFace_of_selects (args := #[]) (mvT hZ (hw _ (List.mem_of_getElem? (i := 50) rfl)))) (mvT hZ (hw _ (List.mem_of_getElem? (i := 50) rfl))) (mvT hZ (hw _ (List.mem_of_getElem? (i := 49) rfl))) (by decide) (backOf (W := 0) (rm_dis l Z a0 hw [] di dj fi fj h39 n0 (Nat.le_trans Z0 E39.1) (own_nn u4) (own_nn v4) u3 v3) hZ (hw _ (List.mem_of_getElem? (i := 51) rfl)) (hw _ (List.mem_of_getElem? (i := 3) rfl)) (by decide) (by decide)) qa45 qc45 (g := (mkF m 194 #[.val (.int i0), .val (.int i1), .val (.ref a), .val (.int xi), .val (.int xj), .val (.int (famF xi)), .val (.int (famF xj)), .val (.int (0 : Int32))] [(.ref dj), (.ref di)])) rfl (by rw [hml]; rfl) (Steps.refl _) (argsL := [(.ref dj)]) (rest := []) (lenOf pd1 rfl) rfl (by show 2 * 0 + _ ≤ _; exact Nat.le_of_eq rfl) (hb hby at_194) (fun _ _ => ⟨rfl, e41, (by decide : (0 + 1) + 0 + 0 + 0 ≤ _), (by decide : (0 + 19) + 0 + 0 + 0 ≤ _)⟩)
      dsimp only [Pt.U, Pt.locs, Pt.cells, Pt.slots] at X45 l45 y45 z45 st45 hQ45
      subst l45 y45 z45
      obtain ⟨rfl, N45, e45⟩ := hQ45
      have M45 := Fr.app M41 N45
      refine EndsK.tr st45 ?_
      show EndsK p e below _ (T45.setTop (mkF m 197 #[.val (.int i0), .val (.int i1), .val (.ref a), .val (.int xi), .val (.int xj), .val (.int (famF xi)), .val (.int (famF xj)), .val (.int (0 : Int32))] [(.int (disF fi fj))]))
      refine EndsK.go (fun _ kz => XS.iload X45.here hx rfl (hb hby at_197) rfl kz) ?_
      show EndsK p e below _ (T45.setTop (mkF m 199 #[.val (.int i0), .val (.int i1), .val (.ref a), .val (.int xi), .val (.int xj), .val (.int (famF xi)), .val (.int (famF xj)), .val (.int (0 : Int32))] [(.int (0 : Int32)), (.int (disF fi fj))]))
      refine EndsK.go (fun _ kz => XS.icmpNo X45.here hx rfl (hb hby at_199) rfl (teq ((own_fin u4 v4).2.1 H170_44)).2 kz) ?_
      show EndsK p e below _ (T45.setTop (mkF m 202 #[.val (.int i0), .val (.int i1), .val (.ref a), .val (.int xi), .val (.int xj), .val (.int (famF xi)), .val (.int (famF xj)), .val (.int (0 : Int32))] []))
      refine EndsK.go (fun _ kz => XS.iconst X45.here hx rfl (hb hby at_202) kz) ?_
      show EndsK p e below _ (T45.setTop (mkF m 203 #[.val (.int i0), .val (.int i1), .val (.ref a), .val (.int xi), .val (.int xj), .val (.int (famF xi)), .val (.int (famF xj)), .val (.int (0 : Int32))] [(.int (1 : Int32))]))
      refine EndsK.go (fun _ kz => XS.goto X45.here hx rfl (pc0 := 203) (pc' := 207) rfl (hb hby at_203) (by decide) (by decide) kz) ?_
      show EndsK p e below _ (T45.setTop (mkF m 207 #[.val (.int i0), .val (.int i1), .val (.ref a), .val (.int xi), .val (.int xj), .val (.int (famF xi)), .val (.int (famF xj)), .val (.int (0 : Int32))] [(.int (1 : Int32))]))
      exact endN X45 hx (t := .boolean) Bd.returns (by simp) (hb hby at_207) hlk ⟨rfl, M45⟩ (by decide) (by decide)
    · refine EndsK.go (fun _ kz => XS.ifNo X41.here hx rfl (hb hby at_170) rfl ((if0 _ _).trans (flt H170_44).1) kz) ?_
      show EndsK p e below _ (T41.setTop (mkF m 173 #[.val (.int i0), .val (.int i1), .val (.ref a), .val (.int xi), .val (.int xj), .val (.int (famF xi)), .val (.int (famF xj)), .unset] []))
      refine EndsK.go (fun _ kz => XS.iload X41.here hx rfl (hb hby at_173) rfl kz) ?_
      show EndsK p e below _ (T41.setTop (mkF m 175 #[.val (.int i0), .val (.int i1), .val (.ref a), .val (.int xi), .val (.int xj), .val (.int (famF xi)), .val (.int (famF xj)), .unset] [(.int (famF xi))]))
      refine EndsK.go (fun _ kz => XS.iload X41.here hx rfl (hb hby at_175) rfl kz) ?_
      show EndsK p e below _ (T41.setTop (mkF m 177 #[.val (.int i0), .val (.int i1), .val (.ref a), .val (.int xi), .val (.int xj), .val (.int (famF xi)), .val (.int (famF xj)), .unset] [(.int (famF xj)), (.int (famF xi))]))
      by_cases H177_46 : (famF xi) = (famF xj)
      · refine EndsK.go (fun _ kz => XS.icmpYes X41.here hx rfl (pc0 := 177) (pc' := 184) rfl (hb hby at_177) rfl (teq H177_46).1 (by decide) (by decide) kz) ?_
        show EndsK p e below _ (T41.setTop (mkF m 184 #[.val (.int i0), .val (.int i1), .val (.ref a), .val (.int xi), .val (.int xj), .val (.int (famF xi)), .val (.int (famF xj)), .unset] []))
        refine EndsK.go (fun _ kz => XS.iconst X41.here hx rfl (hb hby at_184) kz) ?_
        show EndsK p e below _ (T41.setTop (mkF m 185 #[.val (.int i0), .val (.int i1), .val (.ref a), .val (.int xi), .val (.int xj), .val (.int (famF xi)), .val (.int (famF xj)), .unset] [(.int (0 : Int32))]))
        refine EndsK.go (fun _ kz => XS.istore X41.here hx rfl (hb hby at_185) rfl (l' := #[.val (.int i0), .val (.int i1), .val (.ref a), .val (.int xi), .val (.int xj), .val (.int (famF xi)), .val (.int (famF xj)), .val (.int (0 : Int32))]) rfl kz) ?_
        show EndsK p e below _ (T41.setTop (mkF m 187 #[.val (.int i0), .val (.int i1), .val (.ref a), .val (.int xi), .val (.int xj), .val (.int (famF xi)), .val (.int (famF xj)), .val (.int (0 : Int32))] []))
        obtain ⟨di, fi, u1, u2, u3, u4⟩ := own_pick (Ex0.ext E39) (Ex1.ext E39) (Ex2.ext E39) (Ex3.ext E39) (Ex4.ext E39) (Ex5.ext E39) (Ex6.ext E39) (Ex7.ext E39) (Ex8.ext E39) (Ex9.ext E39) (Ex10.ext E39) (Ex11.ext E39) (Ex12.ext E39) (Ex13.ext E39) (Ex14.ext E39) (Ex15.ext E39) (Ex16.ext E39) (Ex17.ext E39) (Ex18.ext E39) (FF0.ext E39) (FF1.ext E39) (FF2.ext E39) (FF3.ext E39) (FF4.ext E39) (FF5.ext E39) (FF6.ext E39) (FF7.ext E39) (FF8.ext E39) (FF9.ext E39) (FF10.ext E39) (FF11.ext E39) (FF12.ext E39) (FF13.ext E39) (FF14.ext E39) (FF15.ext E39) (FF16.ext E39) (FF17.ext E39) (FF18.ext E39) (GG0.ext E39) (GG1.ext E39) (GG2.ext E39) (GG3.ext E39) (GG4.ext E39) (GG5.ext E39) (GG6.ext E39) bi.1 bi.2
        obtain ⟨dj, fj, v1, v2, v3, v4⟩ := own_pick (Ex0.ext E39) (Ex1.ext E39) (Ex2.ext E39) (Ex3.ext E39) (Ex4.ext E39) (Ex5.ext E39) (Ex6.ext E39) (Ex7.ext E39) (Ex8.ext E39) (Ex9.ext E39) (Ex10.ext E39) (Ex11.ext E39) (Ex12.ext E39) (Ex13.ext E39) (Ex14.ext E39) (Ex15.ext E39) (Ex16.ext E39) (Ex17.ext E39) (Ex18.ext E39) (FF0.ext E39) (FF1.ext E39) (FF2.ext E39) (FF3.ext E39) (FF4.ext E39) (FF5.ext E39) (FF6.ext E39) (FF7.ext E39) (FF8.ext E39) (FF9.ext E39) (FF10.ext E39) (FF11.ext E39) (FF12.ext E39) (FF13.ext E39) (FF14.ext E39) (FF15.ext E39) (FF16.ext E39) (FF17.ext E39) (FF18.ext E39) (GG0.ext E39) (GG1.ext E39) (GG2.ext E39) (GG3.ext E39) (GG4.ext E39) (GG5.ext E39) (GG6.ext E39) bj.1 bj.2
        obtain ⟨cA, B, q1, Sz, q3, Hh, G⟩ := V39
        show EndsK p e below _ (T41.setTop (mkF m 187 #[.val (.int i0), .val (.int i1), .val (.ref a), .val (.int xi), .val (.int xj), .val (.int (famF xi)), .val (.int (famF xj)), .val (.int (0 : Int32))] []))
        refine EndsK.go (fun _ kz => XS.aloadN X41.here hx rfl (hb hby at_187) rfl rfl kz) ?_
        show EndsK p e below _ (T41.setTop (mkF m 188 #[.val (.int i0), .val (.int i1), .val (.ref a), .val (.int xi), .val (.int xj), .val (.int (famF xi)), .val (.int (famF xj)), .val (.int (0 : Int32))] [(.ref a)]))
        refine EndsK.go (fun _ kz => XS.iloadN X41.here hx rfl (hb hby at_188) rfl kz) ?_
        show EndsK p e below _ (T41.setTop (mkF m 189 #[.val (.int i0), .val (.int i1), .val (.ref a), .val (.int xi), .val (.int xj), .val (.int (famF xi)), .val (.int (famF xj)), .val (.int (0 : Int32))] [(.int xi), (.ref a)]))
        refine EndsK.go (fun tz kz => X41.aaload hx (j := xi) (v := (.ref di)) (by rw [e41]; exact B.1) (State.isArrayOf_alike hZ.alike B.2.1) rfl B.2.2 (inb_of Sz bi) (Has.at Hh (inb_of Sz bi) u1) (g := (mkF m 189 #[.val (.int i0), .val (.int i1), .val (.ref a), .val (.int xi), .val (.int xj), .val (.int (famF xi)), .val (.int (famF xj)), .val (.int (0 : Int32))] [(.int xi), (.ref a)])) rfl rfl (hb hby at_189) tz kz) ?_
        show EndsK p e below _ (T41.setTop (mkF m 190 #[.val (.int i0), .val (.int i1), .val (.ref a), .val (.int xi), .val (.int xj), .val (.int (famF xi)), .val (.int (famF xj)), .val (.int (0 : Int32))] [(.ref di)]))
        refine EndsK.go (fun _ kz => XS.aloadN X41.here hx rfl (hb hby at_190) rfl rfl kz) ?_
        show EndsK p e below _ (T41.setTop (mkF m 191 #[.val (.int i0), .val (.int i1), .val (.ref a), .val (.int xi), .val (.int xj), .val (.int (famF xi)), .val (.int (famF xj)), .val (.int (0 : Int32))] [(.ref a), (.ref di)]))
        refine EndsK.go (fun _ kz => XS.iload X41.here hx rfl (hb hby at_191) rfl kz) ?_
        show EndsK p e below _ (T41.setTop (mkF m 193 #[.val (.int i0), .val (.int i1), .val (.ref a), .val (.int xi), .val (.int xj), .val (.int (famF xi)), .val (.int (famF xj)), .val (.int (0 : Int32))] [(.int xj), (.ref a), (.ref di)]))
        refine EndsK.go (fun tz kz => X41.aaload hx (j := xj) (v := (.ref dj)) (by rw [e41]; exact B.1) (State.isArrayOf_alike hZ.alike B.2.1) rfl B.2.2 (inb_of Sz bj) (Has.at Hh (inb_of Sz bj) v1) (g := (mkF m 193 #[.val (.int i0), .val (.int i1), .val (.ref a), .val (.int xi), .val (.int xj), .val (.int (famF xi)), .val (.int (famF xj)), .val (.int (0 : Int32))] [(.int xj), (.ref a), (.ref di)])) rfl rfl (hb hby at_193) tz kz) ?_
        show EndsK p e below _ (T41.setTop (mkF m 194 #[.val (.int i0), .val (.int i1), .val (.ref a), .val (.int xi), .val (.int xj), .val (.int (famF xi)), .val (.int (famF xj)), .val (.int (0 : Int32))] [(.ref dj), (.ref di)]))
        obtain ⟨cq47, kq47, qa47, qb47, qc47⟩ := isOf hZ e41 u2
        obtain ⟨_, _, ⟨T47, L47, k47, n47⟩, -, X47, ⟨Lc47, hQ47, l47, y47, z47⟩, st47⟩ := X41.virtualBack hx (y := (⟨"com/example/quarry/quarry/rdf/Datatype", "isDisjointFrom", "(Lcom/example/quarry/quarry/rdf/Datatype;)Z"⟩ : MethodName)) (z := (⟨"com/example/quarry/quarry/rdf/Datatype", "isDisjointFrom", "(Lcom/example/quarry/quarry/rdf/Datatype;)Z"⟩ : MethodName)) hown (mvT hZ (hw _ (List.mem_of_getElem? (i := 47) rfl))) (mvT hZ (hw _ (List.mem_of_getElem? (i := 48) rfl))) (notFace_of_selects (args := #[]) (mvT hZ (hw _ (List.mem_of_getElem? (i := 50) rfl)))) (mvT hZ (hw _ (List.mem_of_getElem? (i := 50) rfl))) (mvT hZ (hw _ (List.mem_of_getElem? (i := 49) rfl))) (by decide) (backOf (W := 0) (rm_dis l Z a0 hw [] di dj fi fj h39 n0 (Nat.le_trans Z0 E39.1) (own_nn u4) (own_nn v4) u3 v3) hZ (hw _ (List.mem_of_getElem? (i := 51) rfl)) (hw _ (List.mem_of_getElem? (i := 3) rfl)) (by decide) (by decide)) qa47 qc47 (g := (mkF m 194 #[.val (.int i0), .val (.int i1), .val (.ref a), .val (.int xi), .val (.int xj), .val (.int (famF xi)), .val (.int (famF xj)), .val (.int (0 : Int32))] [(.ref dj), (.ref di)])) rfl (by rw [hml]; rfl) (Steps.refl _) (argsL := [(.ref dj)]) (rest := []) (lenOf pd1 rfl) rfl (by show 2 * 0 + _ ≤ _; exact Nat.le_of_eq rfl) (hb hby at_194) (fun _ _ => ⟨rfl, e41, (by decide : (0 + 1) + 0 + 0 + 0 ≤ _), (by decide : (0 + 19) + 0 + 0 + 0 ≤ _)⟩)
        dsimp only [Pt.U, Pt.locs, Pt.cells, Pt.slots] at X47 l47 y47 z47 st47 hQ47
        subst l47 y47 z47
        obtain ⟨rfl, N47, e47⟩ := hQ47
        have M47 := Fr.app M41 N47
        refine EndsK.tr st47 ?_
        show EndsK p e below _ (T47.setTop (mkF m 197 #[.val (.int i0), .val (.int i1), .val (.ref a), .val (.int xi), .val (.int xj), .val (.int (famF xi)), .val (.int (famF xj)), .val (.int (0 : Int32))] [(.int (disF fi fj))]))
        refine EndsK.go (fun _ kz => XS.iload X47.here hx rfl (hb hby at_197) rfl kz) ?_
        show EndsK p e below _ (T47.setTop (mkF m 199 #[.val (.int i0), .val (.int i1), .val (.ref a), .val (.int xi), .val (.int xj), .val (.int (famF xi)), .val (.int (famF xj)), .val (.int (0 : Int32))] [(.int (0 : Int32)), (.int (disF fi fj))]))
        refine EndsK.go (fun _ kz => XS.icmpNo X47.here hx rfl (hb hby at_199) rfl (teq ((own_fin u4 v4).2.2.1 H177_46)).2 kz) ?_
        show EndsK p e below _ (T47.setTop (mkF m 202 #[.val (.int i0), .val (.int i1), .val (.ref a), .val (.int xi), .val (.int xj), .val (.int (famF xi)), .val (.int (famF xj)), .val (.int (0 : Int32))] []))
        refine EndsK.go (fun _ kz => XS.iconst X47.here hx rfl (hb hby at_202) kz) ?_
        show EndsK p e below _ (T47.setTop (mkF m 203 #[.val (.int i0), .val (.int i1), .val (.ref a), .val (.int xi), .val (.int xj), .val (.int (famF xi)), .val (.int (famF xj)), .val (.int (0 : Int32))] [(.int (1 : Int32))]))
        refine EndsK.go (fun _ kz => XS.goto X47.here hx rfl (pc0 := 203) (pc' := 207) rfl (hb hby at_203) (by decide) (by decide) kz) ?_
        show EndsK p e below _ (T47.setTop (mkF m 207 #[.val (.int i0), .val (.int i1), .val (.ref a), .val (.int xi), .val (.int xj), .val (.int (famF xi)), .val (.int (famF xj)), .val (.int (0 : Int32))] [(.int (1 : Int32))]))
        exact endN X47 hx (t := .boolean) Bd.returns (by simp) (hb hby at_207) hlk ⟨rfl, M47⟩ (by decide) (by decide)
      · refine EndsK.go (fun _ kz => XS.icmpNo X41.here hx rfl (hb hby at_177) rfl (feq H177_46).1 kz) ?_
        show EndsK p e below _ (T41.setTop (mkF m 180 #[.val (.int i0), .val (.int i1), .val (.ref a), .val (.int xi), .val (.int xj), .val (.int (famF xi)), .val (.int (famF xj)), .unset] []))
        refine EndsK.go (fun _ kz => XS.iconst X41.here hx rfl (hb hby at_180) kz) ?_
        show EndsK p e below _ (T41.setTop (mkF m 181 #[.val (.int i0), .val (.int i1), .val (.ref a), .val (.int xi), .val (.int xj), .val (.int (famF xi)), .val (.int (famF xj)), .unset] [(.int (1 : Int32))]))
        refine EndsK.go (fun _ kz => XS.goto X41.here hx rfl (pc0 := 181) (pc' := 185) rfl (hb hby at_181) (by decide) (by decide) kz) ?_
        show EndsK p e below _ (T41.setTop (mkF m 185 #[.val (.int i0), .val (.int i1), .val (.ref a), .val (.int xi), .val (.int xj), .val (.int (famF xi)), .val (.int (famF xj)), .unset] [(.int (1 : Int32))]))
        refine EndsK.go (fun _ kz => XS.istore X41.here hx rfl (hb hby at_185) rfl (l' := #[.val (.int i0), .val (.int i1), .val (.ref a), .val (.int xi), .val (.int xj), .val (.int (famF xi)), .val (.int (famF xj)), .val (.int (1 : Int32))]) rfl kz) ?_
        show EndsK p e below _ (T41.setTop (mkF m 187 #[.val (.int i0), .val (.int i1), .val (.ref a), .val (.int xi), .val (.int xj), .val (.int (famF xi)), .val (.int (famF xj)), .val (.int (1 : Int32))] []))
        obtain ⟨di, fi, u1, u2, u3, u4⟩ := own_pick (Ex0.ext E39) (Ex1.ext E39) (Ex2.ext E39) (Ex3.ext E39) (Ex4.ext E39) (Ex5.ext E39) (Ex6.ext E39) (Ex7.ext E39) (Ex8.ext E39) (Ex9.ext E39) (Ex10.ext E39) (Ex11.ext E39) (Ex12.ext E39) (Ex13.ext E39) (Ex14.ext E39) (Ex15.ext E39) (Ex16.ext E39) (Ex17.ext E39) (Ex18.ext E39) (FF0.ext E39) (FF1.ext E39) (FF2.ext E39) (FF3.ext E39) (FF4.ext E39) (FF5.ext E39) (FF6.ext E39) (FF7.ext E39) (FF8.ext E39) (FF9.ext E39) (FF10.ext E39) (FF11.ext E39) (FF12.ext E39) (FF13.ext E39) (FF14.ext E39) (FF15.ext E39) (FF16.ext E39) (FF17.ext E39) (FF18.ext E39) (GG0.ext E39) (GG1.ext E39) (GG2.ext E39) (GG3.ext E39) (GG4.ext E39) (GG5.ext E39) (GG6.ext E39) bi.1 bi.2
        obtain ⟨dj, fj, v1, v2, v3, v4⟩ := own_pick (Ex0.ext E39) (Ex1.ext E39) (Ex2.ext E39) (Ex3.ext E39) (Ex4.ext E39) (Ex5.ext E39) (Ex6.ext E39) (Ex7.ext E39) (Ex8.ext E39) (Ex9.ext E39) (Ex10.ext E39) (Ex11.ext E39) (Ex12.ext E39) (Ex13.ext E39) (Ex14.ext E39) (Ex15.ext E39) (Ex16.ext E39) (Ex17.ext E39) (Ex18.ext E39) (FF0.ext E39) (FF1.ext E39) (FF2.ext E39) (FF3.ext E39) (FF4.ext E39) (FF5.ext E39) (FF6.ext E39) (FF7.ext E39) (FF8.ext E39) (FF9.ext E39) (FF10.ext E39) (FF11.ext E39) (FF12.ext E39) (FF13.ext E39) (FF14.ext E39) (FF15.ext E39) (FF16.ext E39) (FF17.ext E39) (FF18.ext E39) (GG0.ext E39) (GG1.ext E39) (GG2.ext E39) (GG3.ext E39) (GG4.ext E39) (GG5.ext E39) (GG6.ext E39) bj.1 bj.2
        obtain ⟨cA, B, q1, Sz, q3, Hh, G⟩ := V39
        show EndsK p e below _ (T41.setTop (mkF m 187 #[.val (.int i0), .val (.int i1), .val (.ref a), .val (.int xi), .val (.int xj), .val (.int (famF xi)), .val (.int (famF xj)), .val (.int (1 : Int32))] []))
        refine EndsK.go (fun _ kz => XS.aloadN X41.here hx rfl (hb hby at_187) rfl rfl kz) ?_
        show EndsK p e below _ (T41.setTop (mkF m 188 #[.val (.int i0), .val (.int i1), .val (.ref a), .val (.int xi), .val (.int xj), .val (.int (famF xi)), .val (.int (famF xj)), .val (.int (1 : Int32))] [(.ref a)]))
        refine EndsK.go (fun _ kz => XS.iloadN X41.here hx rfl (hb hby at_188) rfl kz) ?_
        show EndsK p e below _ (T41.setTop (mkF m 189 #[.val (.int i0), .val (.int i1), .val (.ref a), .val (.int xi), .val (.int xj), .val (.int (famF xi)), .val (.int (famF xj)), .val (.int (1 : Int32))] [(.int xi), (.ref a)]))
        refine EndsK.go (fun tz kz => X41.aaload hx (j := xi) (v := (.ref di)) (by rw [e41]; exact B.1) (State.isArrayOf_alike hZ.alike B.2.1) rfl B.2.2 (inb_of Sz bi) (Has.at Hh (inb_of Sz bi) u1) (g := (mkF m 189 #[.val (.int i0), .val (.int i1), .val (.ref a), .val (.int xi), .val (.int xj), .val (.int (famF xi)), .val (.int (famF xj)), .val (.int (1 : Int32))] [(.int xi), (.ref a)])) rfl rfl (hb hby at_189) tz kz) ?_
        show EndsK p e below _ (T41.setTop (mkF m 190 #[.val (.int i0), .val (.int i1), .val (.ref a), .val (.int xi), .val (.int xj), .val (.int (famF xi)), .val (.int (famF xj)), .val (.int (1 : Int32))] [(.ref di)]))
        refine EndsK.go (fun _ kz => XS.aloadN X41.here hx rfl (hb hby at_190) rfl rfl kz) ?_
        show EndsK p e below _ (T41.setTop (mkF m 191 #[.val (.int i0), .val (.int i1), .val (.ref a), .val (.int xi), .val (.int xj), .val (.int (famF xi)), .val (.int (famF xj)), .val (.int (1 : Int32))] [(.ref a), (.ref di)]))
        refine EndsK.go (fun _ kz => XS.iload X41.here hx rfl (hb hby at_191) rfl kz) ?_
        show EndsK p e below _ (T41.setTop (mkF m 193 #[.val (.int i0), .val (.int i1), .val (.ref a), .val (.int xi), .val (.int xj), .val (.int (famF xi)), .val (.int (famF xj)), .val (.int (1 : Int32))] [(.int xj), (.ref a), (.ref di)]))
        refine EndsK.go (fun tz kz => X41.aaload hx (j := xj) (v := (.ref dj)) (by rw [e41]; exact B.1) (State.isArrayOf_alike hZ.alike B.2.1) rfl B.2.2 (inb_of Sz bj) (Has.at Hh (inb_of Sz bj) v1) (g := (mkF m 193 #[.val (.int i0), .val (.int i1), .val (.ref a), .val (.int xi), .val (.int xj), .val (.int (famF xi)), .val (.int (famF xj)), .val (.int (1 : Int32))] [(.int xj), (.ref a), (.ref di)])) rfl rfl (hb hby at_193) tz kz) ?_
        show EndsK p e below _ (T41.setTop (mkF m 194 #[.val (.int i0), .val (.int i1), .val (.ref a), .val (.int xi), .val (.int xj), .val (.int (famF xi)), .val (.int (famF xj)), .val (.int (1 : Int32))] [(.ref dj), (.ref di)]))
        obtain ⟨cq48, kq48, qa48, qb48, qc48⟩ := isOf hZ e41 u2
        obtain ⟨_, _, ⟨T48, L48, k48, n48⟩, -, X48, ⟨Lc48, hQ48, l48, y48, z48⟩, st48⟩ := X41.virtualBack hx (y := (⟨"com/example/quarry/quarry/rdf/Datatype", "isDisjointFrom", "(Lcom/example/quarry/quarry/rdf/Datatype;)Z"⟩ : MethodName)) (z := (⟨"com/example/quarry/quarry/rdf/Datatype", "isDisjointFrom", "(Lcom/example/quarry/quarry/rdf/Datatype;)Z"⟩ : MethodName)) hown (mvT hZ (hw _ (List.mem_of_getElem? (i := 47) rfl))) (mvT hZ (hw _ (List.mem_of_getElem? (i := 48) rfl))) (notFace_of_selects (args := #[]) (mvT hZ (hw _ (List.mem_of_getElem? (i := 50) rfl)))) (mvT hZ (hw _ (List.mem_of_getElem? (i := 50) rfl))) (mvT hZ (hw _ (List.mem_of_getElem? (i := 49) rfl))) (by decide) (backOf (W := 0) (rm_dis l Z a0 hw [] di dj fi fj h39 n0 (Nat.le_trans Z0 E39.1) (own_nn u4) (own_nn v4) u3 v3) hZ (hw _ (List.mem_of_getElem? (i := 51) rfl)) (hw _ (List.mem_of_getElem? (i := 3) rfl)) (by decide) (by decide)) qa48 qc48 (g := (mkF m 194 #[.val (.int i0), .val (.int i1), .val (.ref a), .val (.int xi), .val (.int xj), .val (.int (famF xi)), .val (.int (famF xj)), .val (.int (1 : Int32))] [(.ref dj), (.ref di)])) rfl (by rw [hml]; rfl) (Steps.refl _) (argsL := [(.ref dj)]) (rest := []) (lenOf pd1 rfl) rfl (by show 2 * 0 + _ ≤ _; exact Nat.le_of_eq rfl) (hb hby at_194) (fun _ _ => ⟨rfl, e41, (by decide : (0 + 1) + 0 + 0 + 0 ≤ _), (by decide : (0 + 19) + 0 + 0 + 0 ≤ _)⟩)
        dsimp only [Pt.U, Pt.locs, Pt.cells, Pt.slots] at X48 l48 y48 z48 st48 hQ48
        subst l48 y48 z48
        obtain ⟨rfl, N48, e48⟩ := hQ48
        have M48 := Fr.app M41 N48
        refine EndsK.tr st48 ?_
        show EndsK p e below _ (T48.setTop (mkF m 197 #[.val (.int i0), .val (.int i1), .val (.ref a), .val (.int xi), .val (.int xj), .val (.int (famF xi)), .val (.int (famF xj)), .val (.int (1 : Int32))] [(.int (disF fi fj))]))
        refine EndsK.go (fun _ kz => XS.iload X48.here hx rfl (hb hby at_197) rfl kz) ?_
        show EndsK p e below _ (T48.setTop (mkF m 199 #[.val (.int i0), .val (.int i1), .val (.ref a), .val (.int xi), .val (.int xj), .val (.int (famF xi)), .val (.int (famF xj)), .val (.int (1 : Int32))] [(.int (1 : Int32)), (.int (disF fi fj))]))
        refine EndsK.go (fun _ kz => XS.icmpNo X48.here hx rfl (hb hby at_199) rfl (teq ((own_fin u4 v4).2.2.2 H165_42 H170_44 H177_46)).2 kz) ?_
        show EndsK p e below _ (T48.setTop (mkF m 202 #[.val (.int i0), .val (.int i1), .val (.ref a), .val (.int xi), .val (.int xj), .val (.int (famF xi)), .val (.int (famF xj)), .val (.int (1 : Int32))] []))
        refine EndsK.go (fun _ kz => XS.iconst X48.here hx rfl (hb hby at_202) kz) ?_
        show EndsK p e below _ (T48.setTop (mkF m 203 #[.val (.int i0), .val (.int i1), .val (.ref a), .val (.int xi), .val (.int xj), .val (.int (famF xi)), .val (.int (famF xj)), .val (.int (1 : Int32))] [(.int (1 : Int32))]))
        refine EndsK.go (fun _ kz => XS.goto X48.here hx rfl (pc0 := 203) (pc' := 207) rfl (hb hby at_203) (by decide) (by decide) kz) ?_
        show EndsK p e below _ (T48.setTop (mkF m 207 #[.val (.int i0), .val (.int i1), .val (.ref a), .val (.int xi), .val (.int xj), .val (.int (famF xi)), .val (.int (famF xj)), .val (.int (1 : Int32))] [(.int (1 : Int32))]))
        exact endN X48 hx (t := .boolean) Bd.returns (by simp) (hb hby at_207) hlk ⟨rfl, M48⟩ (by decide) (by decide)
set_option maxRecDepth 65536 in
set_option maxHeartbeats 40000000 in
theorem comes_1 {Post : Tables → Env → Array Value → State → Outcome → State → Prop} (hpost : ∀ tb e args s v u, (limb_1_1.after args s (.returned v) u = true ∧ limb_1_2.after args s (.returned v) u = true ∧ True) → FrameEnd s (.returned v) u (Jvm.fieldLocs frame_1_writes args s ++ Jvm.arrayLocs frame_1_arrays args s ++ Jvm.staticLocs frame_1_statics s) 16 128 → Post tb e args s (.returned v) u) :
    ArmFor flags0 classFile x code maxLocals ret World_1 tables_1 room_1 Calls_1 rest_1 Pre_1 Post := by
  intro l hfl _ _ p e ha hc hk s m args below hf hA hF happ hP
  obtain ⟨hcalls, hrest, hpre⟩ := hP
  obtain ⟨-, -, -, hnamed, -, -, -, hat⟩ := (Spec.applies_iff hf).mp happ
  obtain ⟨hg, hn⟩ := and_e (Cond.before_iff.mp (show (Jvm.Cond.and given_1 narrow_1).before args s = true from hpre))
  obtain ⟨hcount, hg⟩ := and_e hg
  obtain ⟨hi0, hg⟩ := and_e hg
  obtain ⟨w0, w1, rfl⟩ : ∃ w0 w1 : Value, args = #[w0, w1] := by
    have hs : args.size = 2 := by simpa [Cond.value, given_1] using hcount
    obtain ⟨L⟩ := args
    match L, hs with
    | [w0, w1], _ => exact ⟨w0, w1, rfl⟩
  have hw := fun d (hd : d ∈ tables_1) => atoms_spec (ws := Jvm.Cond.code x code maxLocals ret :: tables_1) hat d (List.mem_cons_of_mem _ hd)
  have hfit : Fit s := fun {y c} hc i hi => by
    obtain ⟨ha, rfl⟩ := Array.getElem?_eq_some_iff.mp hc
    have q := List.all_eq_true.mp ((Array.all_eq_true_iff_forall_mem.mp hF) _ (Array.getElem_mem ha)) i (List.mem_range.mpr hi)
    simpa [Array.getElem?_eq_getElem hi] using q
  obtain ⟨i0, ei0⟩ := is_v hi0
  obtain rfl : w0 = (.int i0) := Option.some.inj ei0
  obtain ⟨i1, ei1⟩ := is_v hg
  obtain rfl : w1 = (.int i1) := Option.some.inj ei1
  obtain ⟨q0, hn⟩ := and_e hn
  obtain ⟨q1, hn⟩ := and_e hn
  obtain ⟨q2, hn⟩ := and_e hn
  obtain ⟨q3, hn⟩ := and_e hn
  obtain ⟨q4, hn⟩ := and_e hn
  obtain ⟨q5, hn⟩ := and_e hn
  obtain ⟨q6, hn⟩ := and_e hn
  obtain ⟨q7, hn⟩ := and_e hn
  obtain ⟨q8, hn⟩ := and_e hn
  obtain ⟨q9, hn⟩ := and_e hn
  obtain ⟨q10, hn⟩ := and_e hn
  obtain ⟨q11, hn⟩ := and_e hn
  obtain ⟨q12, hn⟩ := and_e hn
  obtain ⟨q13, hn⟩ := and_e hn
  obtain ⟨q14, hn⟩ := and_e hn
  obtain ⟨q15, hn⟩ := and_e hn
  obtain ⟨q16, hn⟩ := and_e hn
  obtain ⟨q17, hn⟩ := and_e hn
  obtain ⟨q18, hn⟩ := and_e hn
  obtain ⟨q19, hn⟩ := and_e hn
  obtain ⟨q20, hn⟩ := and_e hn
  obtain ⟨q21, hn⟩ := and_e hn
  obtain ⟨q22, hn⟩ := and_e hn
  obtain ⟨q23, hn⟩ := and_e hn
  obtain ⟨q24, hn⟩ := and_e hn
  obtain ⟨q25, hn⟩ := and_e hn
  obtain ⟨q26, hn⟩ := and_e hn
  obtain ⟨q27, hn⟩ := and_e hn
  obtain ⟨q28, hn⟩ := and_e hn
  obtain ⟨q29, hn⟩ := and_e hn
  obtain ⟨q30, hn⟩ := and_e hn
  obtain ⟨q31, hn⟩ := and_e hn
  obtain ⟨q32, hn⟩ := and_e hn
  obtain ⟨q33, hn⟩ := and_e hn
  obtain ⟨q34, hn⟩ := and_e hn
  obtain ⟨q35, hn⟩ := and_e hn
  obtain ⟨q36, hn⟩ := and_e hn
  obtain ⟨q37, hn⟩ := and_e hn
  obtain ⟨q38, hn⟩ := and_e hn
  obtain ⟨q39, hn⟩ := and_e hn
  obtain ⟨q40, hn⟩ := and_e hn
  obtain ⟨q41, hn⟩ := and_e hn
  obtain ⟨q42, hn⟩ := and_e hn
  obtain ⟨q43, hn⟩ := and_e hn
  obtain ⟨q44, hn⟩ := and_e hn
  obtain ⟨q45, hn⟩ := and_e hn
  obtain ⟨q46, hn⟩ := and_e hn
  obtain ⟨q47, hn⟩ := and_e hn
  obtain ⟨q48, hn⟩ := and_e hn
  obtain ⟨q49, hn⟩ := and_e hn
  obtain ⟨q50, hn⟩ := and_e hn
  have q51 := hn
  obtain ⟨d0, ev0⟩ := exa_v q0
  have Ex0 := Exa.start ev0 q0
  have SS0 := Sta.start ev0 (Or.inr ⟨(hw _ (List.mem_of_getElem? (i := 3) rfl)), (hw _ (List.mem_of_getElem? (i := 4) rfl))⟩)
  obtain ⟨d1, ev1⟩ := exa_v q1
  have Ex1 := Exa.start ev1 q1
  have SS1 := Sta.start ev1 (Or.inr ⟨(hw _ (List.mem_of_getElem? (i := 3) rfl)), (hw _ (List.mem_of_getElem? (i := 7) rfl))⟩)
  obtain ⟨d2, ev2⟩ := exa_v q2
  have Ex2 := Exa.start ev2 q2
  have SS2 := Sta.start ev2 (Or.inr ⟨(hw _ (List.mem_of_getElem? (i := 3) rfl)), (hw _ (List.mem_of_getElem? (i := 9) rfl))⟩)
  obtain ⟨d3, ev3⟩ := exa_v q3
  have Ex3 := Exa.start ev3 q3
  have SS3 := Sta.start ev3 (Or.inr ⟨(hw _ (List.mem_of_getElem? (i := 3) rfl)), (hw _ (List.mem_of_getElem? (i := 11) rfl))⟩)
  obtain ⟨d4, ev4⟩ := exa_v q4
  have Ex4 := Exa.start ev4 q4
  have SS4 := Sta.start ev4 (Or.inr ⟨(hw _ (List.mem_of_getElem? (i := 3) rfl)), (hw _ (List.mem_of_getElem? (i := 13) rfl))⟩)
  obtain ⟨d5, ev5⟩ := exa_v q5
  have Ex5 := Exa.start ev5 q5
  have SS5 := Sta.start ev5 (Or.inr ⟨(hw _ (List.mem_of_getElem? (i := 3) rfl)), (hw _ (List.mem_of_getElem? (i := 15) rfl))⟩)
  obtain ⟨d6, ev6⟩ := exa_v q6
  have Ex6 := Exa.start ev6 q6
  have SS6 := Sta.start ev6 (Or.inr ⟨(hw _ (List.mem_of_getElem? (i := 3) rfl)), (hw _ (List.mem_of_getElem? (i := 17) rfl))⟩)
  obtain ⟨d7, ev7⟩ := exa_v q7
  have Ex7 := Exa.start ev7 q7
  have SS7 := Sta.start ev7 (Or.inr ⟨(hw _ (List.mem_of_getElem? (i := 3) rfl)), (hw _ (List.mem_of_getElem? (i := 19) rfl))⟩)
  obtain ⟨d8, ev8⟩ := exa_v q8
  have Ex8 := Exa.start ev8 q8
  have SS8 := Sta.start ev8 (Or.inr ⟨(hw _ (List.mem_of_getElem? (i := 3) rfl)), (hw _ (List.mem_of_getElem? (i := 21) rfl))⟩)
  obtain ⟨d9, ev9⟩ := exa_v q9
  have Ex9 := Exa.start ev9 q9
  have SS9 := Sta.start ev9 (Or.inr ⟨(hw _ (List.mem_of_getElem? (i := 3) rfl)), (hw _ (List.mem_of_getElem? (i := 23) rfl))⟩)
  obtain ⟨d10, ev10⟩ := exa_v q10
  have Ex10 := Exa.start ev10 q10
  have SS10 := Sta.start ev10 (Or.inr ⟨(hw _ (List.mem_of_getElem? (i := 3) rfl)), (hw _ (List.mem_of_getElem? (i := 25) rfl))⟩)
  obtain ⟨d11, ev11⟩ := exa_v q11
  have Ex11 := Exa.start ev11 q11
  have SS11 := Sta.start ev11 (Or.inr ⟨(hw _ (List.mem_of_getElem? (i := 3) rfl)), (hw _ (List.mem_of_getElem? (i := 27) rfl))⟩)
  obtain ⟨d12, ev12⟩ := exa_v q12
  have Ex12 := Exa.start ev12 q12
  have SS12 := Sta.start ev12 (Or.inr ⟨(hw _ (List.mem_of_getElem? (i := 3) rfl)), (hw _ (List.mem_of_getElem? (i := 29) rfl))⟩)
  obtain ⟨d13, ev13⟩ := exa_v q13
  have Ex13 := Exa.start ev13 q13
  have SS13 := Sta.start ev13 (Or.inr ⟨(hw _ (List.mem_of_getElem? (i := 3) rfl)), (hw _ (List.mem_of_getElem? (i := 31) rfl))⟩)
  obtain ⟨d14, ev14⟩ := exa_v q14
  have Ex14 := Exa.start ev14 q14
  have SS14 := Sta.start ev14 (Or.inr ⟨(hw _ (List.mem_of_getElem? (i := 3) rfl)), (hw _ (List.mem_of_getElem? (i := 33) rfl))⟩)
  obtain ⟨d15, ev15⟩ := exa_v q15
  have Ex15 := Exa.start ev15 q15
  have SS15 := Sta.start ev15 (Or.inr ⟨(hw _ (List.mem_of_getElem? (i := 3) rfl)), (hw _ (List.mem_of_getElem? (i := 35) rfl))⟩)
  obtain ⟨d16, ev16⟩ := exa_v q16
  have Ex16 := Exa.start ev16 q16
  have SS16 := Sta.start ev16 (Or.inr ⟨(hw _ (List.mem_of_getElem? (i := 3) rfl)), (hw _ (List.mem_of_getElem? (i := 37) rfl))⟩)
  obtain ⟨d17, ev17⟩ := exa_v q17
  have Ex17 := Exa.start ev17 q17
  have SS17 := Sta.start ev17 (Or.inr ⟨(hw _ (List.mem_of_getElem? (i := 3) rfl)), (hw _ (List.mem_of_getElem? (i := 39) rfl))⟩)
  obtain ⟨d18, ev18⟩ := exa_v q18
  have Ex18 := Exa.start ev18 q18
  have SS18 := Sta.start ev18 (Or.inr ⟨(hw _ (List.mem_of_getElem? (i := 3) rfl)), (hw _ (List.mem_of_getElem? (i := 41) rfl))⟩)
  obtain ⟨y0, ey0⟩ := exa_v q34
  have GG0 := fldI ey0 q36
  obtain ⟨y1, ey1⟩ := exa_v q22
  have GG1 := fldI ey1 q25
  obtain ⟨y2, ey2⟩ := exa_v q27
  have GG2 := fldI ey2 q29
  obtain ⟨y3, ey3⟩ := exa_v q20
  have GG3 := fldI ey3 q24
  obtain ⟨y4, ey4⟩ := exa_v q48
  have GG4 := fldI ey4 q50
  obtain ⟨y5, ey5⟩ := exa_v q44
  have GG5 := fldI ey5 q46
  obtain ⟨y6, ey6⟩ := exa_v q30
  have GG6 := fldI ey6 q32
  have FF0 := fldN ev0 q19
  have FF1 := fldR ev1 ey1 q23
  have FF2 := fldR ev2 ey6 q31
  have FF3 := fldR ev3 ey0 q35
  have FF4 := fldR ev4 ey0 q43
  have FF5 := fldR ev5 ey0 q41
  have FF6 := fldR ev6 ey0 q37
  have FF7 := fldR ev7 ey0 q42
  have FF8 := fldR ev8 ey1 q39
  have FF9 := fldR ev9 ey1 q33
  have FF10 := fldR ev10 ey1 q38
  have FF11 := fldR ev11 ey1 q47
  have FF12 := fldR ev12 ey1 q40
  have FF13 := fldR ev13 ey1 q26
  have FF14 := fldR ev14 ey3 q21
  have FF15 := fldR ev15 ey4 q49
  have FF16 := fldR ev16 ey5 q45
  have FF17 := fldR ev17 ey2 q28
  have FF18 := fldR ev18 ey2 q51
  obtain ⟨n, o, h1, h2, h3, _, L, rfl, ⟨rfl, N⟩, hq⟩ := rm_law l s _ hw tables_1 i0 i1 d0 d1 d2 d3 d4 d5 d6 d7 d8 d9 d10 d11 d12 d13 d14 d15 d16 d17 d18 y0 y1 y2 y3 y4 y5 y6 s.heap s.heap.size (Nat.le_refl _) SS0 SS1 SS2 SS3 SS4 SS5 SS6 SS7 SS8 SS9 SS10 SS11 SS12 SS13 SS14 SS15 SS16 SS17 SS18 Ex0 Ex1 Ex2 Ex3 Ex4 Ex5 Ex6 Ex7 Ex8 Ex9 Ex10 Ex11 Ex12 Ex13 Ex14 Ex15 Ex16 Ex17 Ex18 FF0 FF1 FF2 FF3 FF4 FF5 FF6 FF7 FF8 FF9 FF10 FF11 FF12 FF13 FF14 FF15 FF16 FF17 FF18 GG0 GG1 GG2 GG3 GG4 GG5 GG6 p e ha hc hk s m _ below hf ((Spec.applies_iff_loose hf).mp happ).1 ⟨rfl, State.Warmed39.refl s, rfl⟩ trivial
  refine ⟨n, _, h1, h2, h3, hpost _ _ _ _ _ _ ⟨Cond.after_iff.mpr rfl, Cond.after_iff.mpr (eq_i res_at (Term.int_eval (1)) rfl), trivial⟩ ⟨hq.1, hq.2.1, (hq.2.2.sift fun y hy => Or.inr (N y hy)).mono (by decide) (by decide)⟩⟩
theorem main_1_1 : Claimed_1_1 := comes_1 fun _ _ _ _ _ _ h hF => ⟨h.1, hF⟩
theorem main_1_2 : Claimed_1_2 := comes_1 fun _ _ _ _ _ _ h hF => ⟨h.2.1, hF⟩
end Jvm.Pilot.@@N@@
namespace Jvm.Pilot.@@N@@
open Jvm Jvm.ClassFile Sem Op Lib Jvm.Free Jvm.Stand Jvm.Pilot.@@N@@.Jvm.D
/-! MADE BY PROGRAM (witnessworld.py) out of the Statement's table words and the real class files: 14 classes; the members and pool entries that the words name. The judged class is class 1, her method 2. -/
namespace start1
open Jvm.ClassFile
def u (s : String) : CpInfo := .utf8 (stringToUtf16 s)
/-- a pool by its gaps: so many unusable entries, then the entry; so many at the end -/
def gap : Nat → List CpInfo → List CpInfo
  | 0, r => r
  | n + 1, r => .unusable :: gap n r
def poolList (es : List (Nat × CpInfo)) (last : Nat) : List CpInfo := es.foldr (fun e r => gap e.1 (e.2 :: r)) (gap last [])
def pool (es : List (Nat × CpInfo)) (last : Nat) : Array CpInfo := ⟨poolList es last⟩
def fileOf (pool : Array CpInfo) (this : Nat) (attrs : Array Attribute := #[]) (ms : Array MethodInfo := #[]) (fl : Nat := 33) (sup : Nat := 0) (ifs : Array Nat := #[]) (fds : Array FieldInfo := #[]) : ClassFile where
  minorVersion := 0
  majorVersion := 65
  constantPool := pool
  accessFlags := fl
  thisClass := this
  superClass := sup
  interfaces := ifs
  fields := fds
  methods := ms
  attributes := attrs
def plain (name : String) (sup : Option ClassId) : Class where
  name := name
  kind := .ordinary
  loader := none
  accessFlags := 33
  super := sup
  interfaces := #[]
  cf := none
  fields := #[]
  methods := #[]
  instanceTypes := #[]
  staticTypes := #[]
  resolved := #[]
  callSites := []
  init := .initialized
  statics := none
  mirror := none

def pool0 : Array CpInfo := pool [(5, u "<init>"), (0, u "()V"), (1, .class_ 10), (1, u "java/lang/Object")] 113

def k0m0 : Method := { name := "<init>", desc := "()V", sig := { parameters := [], returnType := none }, accessFlags := 1, code := none }
/-- java/lang/Object -/
def k0 : Class := { plain "java/lang/Object" none with
  accessFlags := 33
  interfaces := #[]
  cf := some (fileOf pool0 8 #[] #[{ accessFlags := 1, nameIndex := 5, descriptorIndex := 6, attributes := #[] }] 33 0 #[] #[])
  fields := #[]
  methods := #[k0m0]
  instanceTypes := #[]
  staticTypes := #[]
  resolved := Array.replicate 124 none
  statics := none }

def pool1 : Array CpInfo := pool [(2, .class_ 4), (1, u "java/lang/Object"), (0, u "<init>"), (0, u "()V"), (0, .class_ 8), (0, u "com/example/quarry/quarry/rdf/Datatype"), (0, .fieldref 7 10), (0, .nameAndType 11 12), (0, u "LITERAL"), (0, u "Lcom/example/quarry/quarry/rdf/Datatype;"), (0, .fieldref 7 14), (0, .nameAndType 15 12), (0, u "PLAIN_LITERAL"), (0, .fieldref 7 17), (0, .nameAndType 18 12), (0, u "XML_LITERAL"), (0, .fieldref 7 20), (0, .nameAndType 21 12), (0, u "REAL"), (0, .fieldref 7 23), (0, .nameAndType 24 12), (0, u "RATIONAL"), (0, .fieldref 7 26), (0, .nameAndType 27 12), (0, u "DECIMAL"), (0, .fieldref 7 29), (0, .nameAndType 30 12), (0, u "INTEGER"), (0, .fieldref 7 32), (0, .nameAndType 33 12), (0, u "NON_NEGATIVE_INTEGER"), (0, .fieldref 7 35), (0, .nameAndType 36 12), (0, u "STRING"), (0, .fieldref 7 38), (0, .nameAndType 39 12), (0, u "NORMALIZED_STRING"), (0, .fieldref 7 41), (0, .nameAndType 42 12), (0, u "TOKEN"), (0, .fieldref 7 44), (0, .nameAndType 45 12), (0, u "NMTOKEN"), (0, .fieldref 7 47), (0, .nameAndType 48 12), (0, u "NAME"), (0, .fieldref 7 50), (0, .nameAndType 51 12), (0, u "NC_NAME"), (0, .fieldref 7 53), (0, .nameAndType 54 12), (0, u "HEX_BINARY"), (0, .fieldref 7 56), (0, .nameAndType 57 12), (0, u "BASE64_BINARY"), (0, .fieldref 7 59), (0, .nameAndType 60 12), (0, u "ANY_URI"), (0, .fieldref 7 62), (0, .nameAndType 63 12), (0, u "DATE_TIME"), (0, .fieldref 7 65), (0, .nameAndType 66 12), (0, u "DATE_TIME_STAMP"), (0, .integer 2147483647), (0, .methodref 69 70), (0, .class_ 71), (0, .nameAndType 72 73), (0, u "com/example/quarry/quarry/rdf/DatatypeIsDisjointFromPinLaw"), (0, u "fam"), (0, u "(I)I"), (0, .methodref 7 75), (0, .nameAndType 76 77), (0, u "isDisjointFrom"), (0, u "(Lcom/example/quarry/quarry/rdf/Datatype;)Z"), (3, u "law"), (0, u "(II)Z")] 4

def k1m0 : Method := { name := "<init>", desc := "()V", sig := { parameters := [], returnType := none }, accessFlags := 2, code := none }
def k1c1 : Code := { maxStack := 2, maxLocals := 1, code := method_2_code, exceptionTable := #[], attributes := #[] }
def k1m1 : Method := { name := "fam", desc := "(I)I", sig := { parameters := [.int], returnType := some .int }, accessFlags := 10, code := some k1c1 }
def k1c2 : Code := { maxStack := 4, maxLocals := 8, code := code, exceptionTable := #[], attributes := #[] }
def k1m2 : Method := { name := "law", desc := "(II)Z", sig := { parameters := [.int, .int], returnType := some .boolean }, accessFlags := 9, code := some k1c2 }
/-- com/example/quarry/quarry/rdf/DatatypeIsDisjointFromPinLaw -/
def k1 : Class := { plain "com/example/quarry/quarry/rdf/DatatypeIsDisjointFromPinLaw" (some 0) with
  accessFlags := 49
  interfaces := #[]
  cf := some (fileOf pool1 69 #[] #[{ accessFlags := 2, nameIndex := 5, descriptorIndex := 6, attributes := #[] }, { accessFlags := 10, nameIndex := 72, descriptorIndex := 73, attributes := #[] }, { accessFlags := 9, nameIndex := 81, descriptorIndex := 82, attributes := #[] }] 49 2 #[] #[])
  fields := #[]
  methods := #[k1m0, k1m1, k1m2]
  instanceTypes := #[]
  staticTypes := #[]
  resolved := Array.replicate 87 none
  statics := none }

def pool2 : Array CpInfo := pool [(1, .class_ 2), (0, u "java/lang/constant/Constable"), (0, .class_ 4), (0, u "java/lang/Object")] 6

/-- java/lang/constant/Constable -/
def k2 : Class := { plain "java/lang/constant/Constable" (some 0) with
  accessFlags := 1537
  interfaces := #[]
  cf := some (fileOf pool2 1 #[] #[] 1537 3 #[] #[])
  fields := #[]
  methods := #[]
  instanceTypes := #[]
  staticTypes := #[]
  resolved := Array.replicate 11 none
  statics := none }

def pool3 : Array CpInfo := pool [(1, .class_ 2), (0, u "java/lang/Comparable"), (0, .class_ 4), (0, u "java/lang/Object")] 7

/-- java/lang/Comparable -/
def k3 : Class := { plain "java/lang/Comparable" (some 0) with
  accessFlags := 1537
  interfaces := #[]
  cf := some (fileOf pool3 1 #[] #[] 1537 3 #[] #[])
  fields := #[]
  methods := #[]
  instanceTypes := #[]
  staticTypes := #[]
  resolved := Array.replicate 12 none
  statics := none }

def pool4 : Array CpInfo := pool [(1, .class_ 2), (0, u "java/io/Serializable"), (0, .class_ 4), (0, u "java/lang/Object")] 2

/-- java/io/Serializable -/
def k4 : Class := { plain "java/io/Serializable" (some 0) with
  accessFlags := 1537
  interfaces := #[]
  cf := some (fileOf pool4 1 #[] #[] 1537 3 #[] #[])
  fields := #[]
  methods := #[]
  instanceTypes := #[]
  staticTypes := #[]
  resolved := Array.replicate 7 none
  statics := none }

def pool5 : Array CpInfo := pool [(2, .class_ 4), (1, u "java/lang/Enum"), (0, u "name"), (0, u "Ljava/lang/String;"), (2, u "ordinal"), (0, u "I"), (1, .class_ 14), (1, u "java/lang/Object"), (4, u "hash"), (86, .class_ 108), (1, u "java/lang/Enum$EnumDesc"), (2, .class_ 112), (0, u "java/lang/constant/Constable"), (0, .class_ 114), (0, u "java/lang/Comparable"), (0, .class_ 116), (0, u "java/io/Serializable")] 87

/-- java/lang/Enum -/
def k5 : Class := { plain "java/lang/Enum" (some 0) with
  accessFlags := 1057
  interfaces := #[2, 3, 4]
  cf := some (fileOf pool5 2 #[.nestMembers #[106]] #[] 1057 12 #[111, 113, 115] #[{ accessFlags := 18, nameIndex := 5, descriptorIndex := 6, attributes := #[] }, { accessFlags := 18, nameIndex := 9, descriptorIndex := 10, attributes := #[] }, { accessFlags := 2, nameIndex := 19, descriptorIndex := 10, attributes := #[] }])
  fields := #[{ name := "name", type := (.object "java/lang/String"), accessFlags := 18, slot := 0, constantValue := 0 }, { name := "ordinal", type := .int, accessFlags := 18, slot := 1, constantValue := 0 }, { name := "hash", type := .int, accessFlags := 2, slot := 2, constantValue := 0 }]
  methods := #[]
  instanceTypes := #[(.object "java/lang/String"), .int, .int]
  staticTypes := #[]
  resolved := Array.replicate 204 none
  statics := none }

def pool6 : Array CpInfo := pool [(1, .class_ 2), (0, u "com/example/quarry/quarry/rdf/Datatype$Namespace"), (0, .class_ 4), (0, u "com/example/quarry/quarry/rdf/Datatype"), (2, u "LITERAL"), (0, u "Lcom/example/quarry/quarry/rdf/Datatype;"), (2, u "PLAIN_LITERAL"), (2, u "XML_LITERAL"), (2, u "REAL"), (2, u "RATIONAL"), (2, u "DECIMAL"), (2, u "INTEGER"), (2, u "NON_NEGATIVE_INTEGER"), (2, u "STRING"), (2, u "NORMALIZED_STRING"), (2, u "TOKEN"), (2, u "NMTOKEN"), (2, u "NAME"), (2, u "NC_NAME"), (2, u "HEX_BINARY"), (2, u "BASE64_BINARY"), (2, u "ANY_URI"), (2, u "DATE_TIME"), (2, u "DATE_TIME_STAMP"), (2, u "$VALUES"), (0, u "[Lcom/example/quarry/quarry/rdf/Datatype;"), (6, .class_ 75), (1, u "java/lang/Enum"), (12, u "iri"), (0, u "Ljava/lang/String;"), (0, .fieldref 3 91), (0, .nameAndType 92 93), (0, u "family"), (0, u "Lcom/example/quarry/quarry/rdf/Datatype$Family;"), (2, u "BY_IRI"), (0, u "Ljava/util/Map;"), (26, .class_ 126), (1, u "com/example/quarry/quarry/rdf/Datatype$Family"), (84, u "LANG_STRING"), (14, u "isDisjointFrom"), (0, u "(Lcom/example/quarry/quarry/rdf/Datatype;)Z")] 23

def k6c0 : Code := { maxStack := 2, maxLocals := 2, code := prog_31_method_6_code, exceptionTable := #[], attributes := #[] }
def k6m0 : Method := { name := "isDisjointFrom", desc := "(Lcom/example/quarry/quarry/rdf/Datatype;)Z", sig := { parameters := [(.object "com/example/quarry/quarry/rdf/Datatype")], returnType := some .boolean }, accessFlags := 1, code := some k6c0 }
/-- com/example/quarry/quarry/rdf/Datatype -/
def k6 : Class := { plain "com/example/quarry/quarry/rdf/Datatype" (some 5) with
  accessFlags := 16433
  interfaces := #[]
  cf := some (fileOf pool6 3 #[.nestMembers #[1, 124]] #[{ accessFlags := 1, nameIndex := 226, descriptorIndex := 227, attributes := #[] }] 16433 73 #[] #[{ accessFlags := 16409, nameIndex := 7, descriptorIndex := 8, attributes := #[] }, { accessFlags := 16409, nameIndex := 11, descriptorIndex := 8, attributes := #[] }, { accessFlags := 16409, nameIndex := 14, descriptorIndex := 8, attributes := #[] }, { accessFlags := 16409, nameIndex := 17, descriptorIndex := 8, attributes := #[] }, { accessFlags := 16409, nameIndex := 20, descriptorIndex := 8, attributes := #[] }, { accessFlags := 16409, nameIndex := 23, descriptorIndex := 8, attributes := #[] }, { accessFlags := 16409, nameIndex := 26, descriptorIndex := 8, attributes := #[] }, { accessFlags := 16409, nameIndex := 29, descriptorIndex := 8, attributes := #[] }, { accessFlags := 16409, nameIndex := 32, descriptorIndex := 8, attributes := #[] }, { accessFlags := 16409, nameIndex := 35, descriptorIndex := 8, attributes := #[] }, { accessFlags := 16409, nameIndex := 38, descriptorIndex := 8, attributes := #[] }, { accessFlags := 16409, nameIndex := 41, descriptorIndex := 8, attributes := #[] }, { accessFlags := 16409, nameIndex := 44, descriptorIndex := 8, attributes := #[] }, { accessFlags := 16409, nameIndex := 47, descriptorIndex := 8, attributes := #[] }, { accessFlags := 16409, nameIndex := 50, descriptorIndex := 8, attributes := #[] }, { accessFlags := 16409, nameIndex := 53, descriptorIndex := 8, attributes := #[] }, { accessFlags := 16409, nameIndex := 56, descriptorIndex := 8, attributes := #[] }, { accessFlags := 16409, nameIndex := 59, descriptorIndex := 8, attributes := #[] }, { accessFlags := 16409, nameIndex := 62, descriptorIndex := 8, attributes := #[] }, { accessFlags := 25, nameIndex := 211, descriptorIndex := 89, attributes := #[] }, { accessFlags := 26, nameIndex := 96, descriptorIndex := 97, attributes := #[] }, { accessFlags := 18, nameIndex := 88, descriptorIndex := 89, attributes := #[] }, { accessFlags := 18, nameIndex := 92, descriptorIndex := 93, attributes := #[] }, { accessFlags := 4122, nameIndex := 65, descriptorIndex := 66, attributes := #[] }])
  fields := #[{ name := "LITERAL", type := (.object "com/example/quarry/quarry/rdf/Datatype"), accessFlags := 16409, slot := 0, constantValue := 0 }, { name := "PLAIN_LITERAL", type := (.object "com/example/quarry/quarry/rdf/Datatype"), accessFlags := 16409, slot := 1, constantValue := 0 }, { name := "XML_LITERAL", type := (.object "com/example/quarry/quarry/rdf/Datatype"), accessFlags := 16409, slot := 2, constantValue := 0 }, { name := "REAL", type := (.object "com/example/quarry/quarry/rdf/Datatype"), accessFlags := 16409, slot := 3, constantValue := 0 }, { name := "RATIONAL", type := (.object "com/example/quarry/quarry/rdf/Datatype"), accessFlags := 16409, slot := 4, constantValue := 0 }, { name := "DECIMAL", type := (.object "com/example/quarry/quarry/rdf/Datatype"), accessFlags := 16409, slot := 5, constantValue := 0 }, { name := "INTEGER", type := (.object "com/example/quarry/quarry/rdf/Datatype"), accessFlags := 16409, slot := 6, constantValue := 0 }, { name := "NON_NEGATIVE_INTEGER", type := (.object "com/example/quarry/quarry/rdf/Datatype"), accessFlags := 16409, slot := 7, constantValue := 0 }, { name := "STRING", type := (.object "com/example/quarry/quarry/rdf/Datatype"), accessFlags := 16409, slot := 8, constantValue := 0 }, { name := "NORMALIZED_STRING", type := (.object "com/example/quarry/quarry/rdf/Datatype"), accessFlags := 16409, slot := 9, constantValue := 0 }, { name := "TOKEN", type := (.object "com/example/quarry/quarry/rdf/Datatype"), accessFlags := 16409, slot := 10, constantValue := 0 }, { name := "NMTOKEN", type := (.object "com/example/quarry/quarry/rdf/Datatype"), accessFlags := 16409, slot := 11, constantValue := 0 }, { name := "NAME", type := (.object "com/example/quarry/quarry/rdf/Datatype"), accessFlags := 16409, slot := 12, constantValue := 0 }, { name := "NC_NAME", type := (.object "com/example/quarry/quarry/rdf/Datatype"), accessFlags := 16409, slot := 13, constantValue := 0 }, { name := "HEX_BINARY", type := (.object "com/example/quarry/quarry/rdf/Datatype"), accessFlags := 16409, slot := 14, constantValue := 0 }, { name := "BASE64_BINARY", type := (.object "com/example/quarry/quarry/rdf/Datatype"), accessFlags := 16409, slot := 15, constantValue := 0 }, { name := "ANY_URI", type := (.object "com/example/quarry/quarry/rdf/Datatype"), accessFlags := 16409, slot := 16, constantValue := 0 }, { name := "DATE_TIME", type := (.object "com/example/quarry/quarry/rdf/Datatype"), accessFlags := 16409, slot := 17, constantValue := 0 }, { name := "DATE_TIME_STAMP", type := (.object "com/example/quarry/quarry/rdf/Datatype"), accessFlags := 16409, slot := 18, constantValue := 0 }, { name := "LANG_STRING", type := (.object "java/lang/String"), accessFlags := 25, slot := 19, constantValue := 0 }, { name := "BY_IRI", type := (.object "java/util/Map"), accessFlags := 26, slot := 20, constantValue := 0 }, { name := "iri", type := (.object "java/lang/String"), accessFlags := 18, slot := 3, constantValue := 0 }, { name := "family", type := (.object "com/example/quarry/quarry/rdf/Datatype$Family"), accessFlags := 18, slot := 4, constantValue := 0 }, { name := "$VALUES", type := (.array (.object "com/example/quarry/quarry/rdf/Datatype")), accessFlags := 4122, slot := 21, constantValue := 0 }]
  methods := #[k6m0]
  instanceTypes := #[(.object "java/lang/String"), .int, .int, (.object "java/lang/String"), (.object "com/example/quarry/quarry/rdf/Datatype$Family")]
  staticTypes := #[(.object "com/example/quarry/quarry/rdf/Datatype"), (.object "com/example/quarry/quarry/rdf/Datatype"), (.object "com/example/quarry/quarry/rdf/Datatype"), (.object "com/example/quarry/quarry/rdf/Datatype"), (.object "com/example/quarry/quarry/rdf/Datatype"), (.object "com/example/quarry/quarry/rdf/Datatype"), (.object "com/example/quarry/quarry/rdf/Datatype"), (.object "com/example/quarry/quarry/rdf/Datatype"), (.object "com/example/quarry/quarry/rdf/Datatype"), (.object "com/example/quarry/quarry/rdf/Datatype"), (.object "com/example/quarry/quarry/rdf/Datatype"), (.object "com/example/quarry/quarry/rdf/Datatype"), (.object "com/example/quarry/quarry/rdf/Datatype"), (.object "com/example/quarry/quarry/rdf/Datatype"), (.object "com/example/quarry/quarry/rdf/Datatype"), (.object "com/example/quarry/quarry/rdf/Datatype"), (.object "com/example/quarry/quarry/rdf/Datatype"), (.object "com/example/quarry/quarry/rdf/Datatype"), (.object "com/example/quarry/quarry/rdf/Datatype"), (.object "java/lang/String"), (.object "java/util/Map"), (.array (.object "com/example/quarry/quarry/rdf/Datatype"))]
  resolved := Array.replicate 251 none
  statics := some 0 }

def pool7 : Array CpInfo := pool [(1, .class_ 2), (0, u "com/example/quarry/quarry/rdf/Datatype$Family"), (2, u "NUMBER"), (0, u "Lcom/example/quarry/quarry/rdf/Datatype$Family;"), (2, u "TEXT"), (2, u "DATE_TIME"), (2, u "HEX_BINARY"), (2, u "BASE64_BINARY"), (2, u "ANY_URI"), (2, u "XML"), (2, u "$VALUES"), (0, u "[Lcom/example/quarry/quarry/rdf/Datatype$Family;"), (6, .class_ 37), (1, u "java/lang/Enum"), (30, .class_ 69), (0, u "com/example/quarry/quarry/rdf/Datatype")] 2

/-- com/example/quarry/quarry/rdf/Datatype$Family -/
def k7 : Class := { plain "com/example/quarry/quarry/rdf/Datatype$Family" (some 5) with
  accessFlags := 16432
  interfaces := #[]
  cf := some (fileOf pool7 1 #[.nestHost 68] #[] 16432 35 #[] #[{ accessFlags := 16409, nameIndex := 5, descriptorIndex := 6, attributes := #[] }, { accessFlags := 16409, nameIndex := 9, descriptorIndex := 6, attributes := #[] }, { accessFlags := 16409, nameIndex := 12, descriptorIndex := 6, attributes := #[] }, { accessFlags := 16409, nameIndex := 15, descriptorIndex := 6, attributes := #[] }, { accessFlags := 16409, nameIndex := 18, descriptorIndex := 6, attributes := #[] }, { accessFlags := 16409, nameIndex := 21, descriptorIndex := 6, attributes := #[] }, { accessFlags := 16409, nameIndex := 24, descriptorIndex := 6, attributes := #[] }, { accessFlags := 4122, nameIndex := 27, descriptorIndex := 28, attributes := #[] }])
  fields := #[{ name := "NUMBER", type := (.object "com/example/quarry/quarry/rdf/Datatype$Family"), accessFlags := 16409, slot := 0, constantValue := 0 }, { name := "TEXT", type := (.object "com/example/quarry/quarry/rdf/Datatype$Family"), accessFlags := 16409, slot := 1, constantValue := 0 }, { name := "DATE_TIME", type := (.object "com/example/quarry/quarry/rdf/Datatype$Family"), accessFlags := 16409, slot := 2, constantValue := 0 }, { name := "HEX_BINARY", type := (.object "com/example/quarry/quarry/rdf/Datatype$Family"), accessFlags := 16409, slot := 3, constantValue := 0 }, { name := "BASE64_BINARY", type := (.object "com/example/quarry/quarry/rdf/Datatype$Family"), accessFlags := 16409, slot := 4, constantValue := 0 }, { name := "ANY_URI", type := (.object "com/example/quarry/quarry/rdf/Datatype$Family"), accessFlags := 16409, slot := 5, constantValue := 0 }, { name := "XML", type := (.object "com/example/quarry/quarry/rdf/Datatype$Family"), accessFlags := 16409, slot := 6, constantValue := 0 }, { name := "$VALUES", type := (.array (.object "com/example/quarry/quarry/rdf/Datatype$Family")), accessFlags := 4122, slot := 7, constantValue := 0 }]
  methods := #[]
  instanceTypes := #[(.object "java/lang/String"), .int, .int]
  staticTypes := #[(.object "com/example/quarry/quarry/rdf/Datatype$Family"), (.object "com/example/quarry/quarry/rdf/Datatype$Family"), (.object "com/example/quarry/quarry/rdf/Datatype$Family"), (.object "com/example/quarry/quarry/rdf/Datatype$Family"), (.object "com/example/quarry/quarry/rdf/Datatype$Family"), (.object "com/example/quarry/quarry/rdf/Datatype$Family"), (.object "com/example/quarry/quarry/rdf/Datatype$Family"), (.array (.object "com/example/quarry/quarry/rdf/Datatype$Family"))]
  resolved := Array.replicate 72 none
  statics := some 1 }

def pool8 : Array CpInfo := pool [(1, u "java/lang/Cloneable"), (0, .class_ 1), (0, u "java/lang/Object"), (0, .class_ 3)] 3

/-- java/lang/Cloneable -/
def k8 : Class := { plain "java/lang/Cloneable" (some 0) with
  accessFlags := 1537
  interfaces := #[]
  cf := some (fileOf pool8 2 #[] #[] 1537 4 #[] #[])
  fields := #[]
  methods := #[]
  instanceTypes := #[]
  staticTypes := #[]
  resolved := Array.replicate 8 none
  statics := none }

/-- the primitive byte -/
def k9 : Class := { plain "byte" none with kind := .primitive 'B', accessFlags := 0x411 }
/-- [B -/
def k10 : Class := { plain "[B" (some 0) with kind := .array 9 .byte, interfaces := #[8, 4], accessFlags := 1041 }

/-- the primitive int -/
def k11 : Class := { plain "int" none with kind := .primitive 'I', accessFlags := 0x411 }
/-- [I -/
def k12 : Class := { plain "[I" (some 0) with kind := .array 11 .int, interfaces := #[8, 4], accessFlags := 1041 }

/-- [Lcom/example/quarry/quarry/rdf/Datatype; -/
def k13 : Class := { plain "[Lcom/example/quarry/quarry/rdf/Datatype;" (some 0) with kind := .array 6 (.object "com/example/quarry/quarry/rdf/Datatype"), interfaces := #[8, 4], accessFlags := 1041 }

def heap : Heap := #[{ cls := 6, slots := #[.ref 9, .ref 10, .ref 11, .ref 12, .ref 13, .ref 14, .ref 15, .ref 16, .ref 17, .ref 18, .ref 19, .ref 20, .ref 21, .ref 22, .ref 23, .ref 24, .ref 25, .ref 26, .ref 27, .null, .null, .null], vm := .statics 6 },
  { cls := 7, slots := #[.ref 2, .ref 3, .ref 4, .ref 5, .ref 6, .ref 7, .ref 8, .null], vm := .statics 7 },
  { cls := 7, slots := #[.null, .int 0, .int 0], vm := .none },
  { cls := 7, slots := #[.null, .int 1, .int 0], vm := .none },
  { cls := 7, slots := #[.null, .int 2, .int 0], vm := .none },
  { cls := 7, slots := #[.null, .int 3, .int 0], vm := .none },
  { cls := 7, slots := #[.null, .int 4, .int 0], vm := .none },
  { cls := 7, slots := #[.null, .int 5, .int 0], vm := .none },
  { cls := 7, slots := #[.null, .int 6, .int 0], vm := .none },
  { cls := 6, slots := #[.null, .int 0, .int 0, .null, .null], vm := .none },
  { cls := 6, slots := #[.null, .int 1, .int 0, .null, .ref 3], vm := .none },
  { cls := 6, slots := #[.null, .int 2, .int 0, .null, .ref 8], vm := .none },
  { cls := 6, slots := #[.null, .int 3, .int 0, .null, .ref 2], vm := .none },
  { cls := 6, slots := #[.null, .int 4, .int 0, .null, .ref 2], vm := .none },
  { cls := 6, slots := #[.null, .int 5, .int 0, .null, .ref 2], vm := .none },
  { cls := 6, slots := #[.null, .int 6, .int 0, .null, .ref 2], vm := .none },
  { cls := 6, slots := #[.null, .int 7, .int 0, .null, .ref 2], vm := .none },
  { cls := 6, slots := #[.null, .int 8, .int 0, .null, .ref 3], vm := .none },
  { cls := 6, slots := #[.null, .int 9, .int 0, .null, .ref 3], vm := .none },
  { cls := 6, slots := #[.null, .int 10, .int 0, .null, .ref 3], vm := .none },
  { cls := 6, slots := #[.null, .int 11, .int 0, .null, .ref 3], vm := .none },
  { cls := 6, slots := #[.null, .int 12, .int 0, .null, .ref 3], vm := .none },
  { cls := 6, slots := #[.null, .int 13, .int 0, .null, .ref 3], vm := .none },
  { cls := 6, slots := #[.null, .int 14, .int 0, .null, .ref 5], vm := .none },
  { cls := 6, slots := #[.null, .int 15, .int 0, .null, .ref 6], vm := .none },
  { cls := 6, slots := #[.null, .int 16, .int 0, .null, .ref 7], vm := .none },
  { cls := 6, slots := #[.null, .int 17, .int 0, .null, .ref 4], vm := .none },
  { cls := 6, slots := #[.null, .int 18, .int 0, .null, .ref 4], vm := .none }]
def classes : Array Class := #[k0, k1, k2, k3, k4, k5, k6, k7, k8, k9, k10, k11, k12, k13]
def interned : List (Array UInt16 × Addr) := []
def slotsUsed : Nat := 146
def theMethod : MethodId := ⟨1, 2⟩
def args0 : Array Value := #[.int 5, .int 3]
def aboutOver (below : List Frame) : State where
  vm := { classes := classes, interned := interned.toArray }
  heap := heap
  slotsUsed := slotsUsed
  threads := #[{ frames := .invoking theMethod args0 :: below }]
def below0 : List Frame := [.native { method := ⟨0, 0⟩, args := #[] }]
def about1 : State := aboutOver below0
def p0 : Program := .bare "" "" ""
def e0 : Env := launch0.env 0 0 0
theorem w_frames : about1.frames = Frame.invoking theMethod args0 :: below0 := rfl
set_option maxRecDepth 65536 in
theorem w_args : argsFit about1.vm theMethod args0 = true := by decide +kernel
set_option maxRecDepth 65536 in
theorem w_heap : heapFits about1 = true := by decide +kernel
set_option maxRecDepth 65536 in
theorem w_runnable : about1.curStatus? = some .runnable := by decide +kernel
set_option maxRecDepth 65536 in
theorem w_alone : about1.alone = true := by decide +kernel
set_option maxRecDepth 65536 in
theorem w_named : about1.methodNamed? x = some theMethod := by decide +kernel
set_option maxRecDepth 65536 in
theorem w_hears : about1.hears theMethod below0 = true := by decide +kernel
set_option maxRecDepth 65536 in
theorem w_ripe : about1.ripe theMethod args0 below0 = true := by decide +kernel
theorem w_running : about1.status = .running := rfl
set_option maxRecDepth 65536 in
theorem w_room : about1.hasRoom e0.platform room_1 = true :=
  launch0.hasRoom_least _ room_1 (by decide +kernel) (by decide +kernel) (by decide +kernel) (by decide +kernel) (by decide +kernel) (by decide +kernel)
theorem allAtoms_all (ts : List Jvm.Cond) (a : Array Jvm.Value) (st : Jvm.State) : (allAtoms ts).before a st = ts.all (fun c => c.before a st) := by
  induction ts with
  | nil => rfl
  | cons c t ih =>
    show (Jvm.Cond.and c (allAtoms t)).before a st = _
    rw [Jvm.Cond.before_and, ih, List.all_cons]
def words1 : List Jvm.Cond := Jvm.Cond.code x code maxLocals ret :: tables_1
/-- a 'code' word, met by the world's own term for the bytes: nothing is compared byte by byte -/
theorem code_word {y : MethodName} {bytes : ByteArray} {mx : Nat} {rt : Option FieldType} {a : Array Value} {s : State} {m : MethodId} {meth : Method} {c : Code} (h1 : s.methodNamed? y = some m) (h2 : s.vm.method? m = some meth) (h3 : meth.code = some c) (h4 : c.code = bytes)
    (h5 : (c.maxLocals == mx && c.exceptionTable.isEmpty && decide (c.maxStack ≤ mostOperands) && decide (meth.sig.returnType = rt) && !meth.locks && decide (parseMethodDescriptor y.desc = some meth.sig)) = true) : (Jvm.Cond.code y bytes mx rt).before a s = true := by
  simp only [Bool.and_eq_true, beq_iff_eq, Bool.not_eq_true', decide_eq_true_eq] at h5
  obtain ⟨⟨⟨⟨⟨g1, g2⟩, g3⟩, g4⟩, g5⟩, g6⟩ := h5
  simp [Cond.before, Cond.holds, Cond.value, h1, h2, h3, h4, g1, g2, g3, g4, g5, g6]
def isCode : Jvm.Cond → Bool
  | .code _ _ _ _ => true
  | _ => false
theorem all_split {L : List Jvm.Cond} {P : Jvm.Cond → Bool} (h1 : L.all (fun c => isCode c || P c) = true) (h2 : ∀ c ∈ L.filter isCode, P c = true) : L.all P = true := by
  refine List.all_eq_true.mpr fun c hc => ?_
  have h := List.all_eq_true.mp h1 c hc
  rcases Bool.eq_false_or_eq_true (isCode c) with hi | hi
  · exact h2 c (List.mem_filter.mpr ⟨hc, hi⟩)
  · simpa [hi] using h
set_option maxRecDepth 65536 in
theorem w_c0 : (Jvm.Cond.code x code maxLocals ret).before args0 about1 = true := code_word (m := ⟨1, 2⟩) (meth := k1m2) (c := k1c2) (by decide +kernel) rfl rfl rfl (by decide +kernel)
set_option maxRecDepth 65536 in
theorem w_c1 : (Jvm.Cond.code ({ cls := "com/example/quarry/quarry/rdf/DatatypeIsDisjointFromPinLaw", name := "fam", desc := "(I)I" } : Jvm.MethodName) method_2_code (1 : Nat) (Option.some Jvm.ClassFile.FieldType.int)).before args0 about1 = true := code_word (m := ⟨1, 1⟩) (meth := k1m1) (c := k1c1) (by decide +kernel) rfl rfl rfl (by decide +kernel)
set_option maxRecDepth 65536 in
theorem w_c2 : (Jvm.Cond.code ({ cls := "com/example/quarry/quarry/rdf/Datatype", name := "isDisjointFrom", desc := "(Lcom/example/quarry/quarry/rdf/Datatype;)Z" } : Jvm.MethodName) prog_31_method_6_code (2 : Nat) (Option.some Jvm.ClassFile.FieldType.boolean)).before args0 about1 = true := code_word (m := ⟨6, 0⟩) (meth := k6m0) (c := k6c0) (by decide +kernel) rfl rfl rfl (by decide +kernel)
def codes1 : List Jvm.Cond := [Jvm.Cond.code x code maxLocals ret, Jvm.Cond.code ({ cls := "com/example/quarry/quarry/rdf/DatatypeIsDisjointFromPinLaw", name := "fam", desc := "(I)I" } : Jvm.MethodName) method_2_code (1 : Nat) (Option.some Jvm.ClassFile.FieldType.int), Jvm.Cond.code ({ cls := "com/example/quarry/quarry/rdf/Datatype", name := "isDisjointFrom", desc := "(Lcom/example/quarry/quarry/rdf/Datatype;)Z" } : Jvm.MethodName) prog_31_method_6_code (2 : Nat) (Option.some Jvm.ClassFile.FieldType.boolean)]
set_option maxRecDepth 65536 in
theorem codes_eq : words1.filter isCode = codes1 := rfl
theorem w_codes : ∀ c ∈ words1.filter isCode, c.before args0 about1 = true := by
  rw [codes_eq]
  intro c hc
  simp only [codes1, List.mem_cons, List.not_mem_nil, or_false] at hc
  rcases hc with rfl | rfl | rfl
  · exact w_c0
  · exact w_c1
  · exact w_c2
set_option maxRecDepth 65536 in
theorem w_t1 : (words1.take 24).all (fun c => isCode c || c.before args0 about1) = true := by decide +kernel
set_option maxRecDepth 65536 in
theorem w_t2 : ((words1.drop 24).take 24).all (fun c => isCode c || c.before args0 about1) = true := by decide +kernel
set_option maxRecDepth 65536 in
theorem w_t3 : ((words1.drop 24).drop 24).all (fun c => isCode c || c.before args0 about1) = true := by decide +kernel
theorem w_tables : (allAtoms (Jvm.Cond.code x code maxLocals ret :: tables_1)).before args0 about1 = true := by
  rw [allAtoms_all]
  show words1.all (fun c => c.before args0 about1) = true
  refine all_split ?_ w_codes
  rw [← List.take_append_drop 24 words1, List.all_append, w_t1, ← List.take_append_drop 24 (words1.drop 24), List.all_append, w_t2, w_t3]
  rfl
set_option maxRecDepth 65536 in
theorem w_case : (Jvm.Cond.and given_1 narrow_1).before args0 about1 = true := by decide +kernel
theorem w_applies : (headSpec (Jvm.Cond.code x code maxLocals ret :: tables_1) room_1).applies x e0.platform about1 = true :=
  (Spec.applies_iff w_frames).mpr ⟨w_running, w_runnable, w_alone, w_named, w_hears, w_ripe, w_room, w_tables⟩
theorem atStart : AtStart classFile x code maxLocals ret World_1 tables_1 room_1 Calls_1 rest_1 Pre_1 launch0 p0 e0 about1 theMethod args0 below0 :=
  ⟨lists_1, trivial, launch0.admits_env _ _ _, launch0.least_env, fairChoices_fair.cas, fairChoices_fair.clock, w_frames, w_args, w_heap, w_applies, trivial, trivial, w_case⟩
end start1
theorem witness_1 : WitnessClaimed_1 := ⟨start1.p0, start1.e0, start1.about1, start1.theMethod, start1.args0, start1.below0, start1.atStart⟩
end Jvm.Pilot.@@N@@
