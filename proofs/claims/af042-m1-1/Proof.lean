import JvmDerived
import JvmDerived.Pilot.@@N@@Statement
import JvmDerived.Pilot.@@N@@Code
set_option linter.unusedVariables false
set_option linter.unusedSimpArgs false
namespace Jvm.OwnK
open Sem ClassFile Op Lib Jvm.Stand Jvm.Free Jvm.LawKit Jvm.RoadKit
/-- the run from S ends, and well -/
def EndsK (p : Program) (e : Env) (below : List Frame) (QQ : Outcome → State → Prop) (S : State) : Prop :=
  ∃ s₂ o, Steps p.tables e below S s₂ ∧ s₂.status = .running ∧ Ended s₂ below o ∧ QQ o s₂
/-- what a body's contract says of its end -/
abbrev OQ (s : State) (Q : Option Value → Heap → List Loc → Prop) (ck cs : Nat) : Outcome → State → Prop :=
  fun o U' => ∃ v L, o = .returned v ∧ Q v U'.heap L ∧ FrameEnd s o U' L ck cs
section EndsK
variable {p : Program} {e : Env} {below : List Frame} {QQ : Outcome → State → Prop} {S S' T : State}
theorem EndsK.go (h : ∀ t, Steps p.tables e below S' t → Steps p.tables e below S t) (k : EndsK p e below QQ S') : EndsK p e below QQ S := by
  obtain ⟨s₂, o, h1, h2⟩ := k
  exact ⟨s₂, o, h _ h1, h2⟩
theorem EndsK.tr (h : Steps p.tables e below S S') (k : EndsK p e below QQ S') : EndsK p e below QQ S := by
  obtain ⟨s₂, o, h1, h2⟩ := k
  exact ⟨s₂, o, h.trans h1, h2⟩
theorem EndsK.start {g g' : JFrame} (q : g = g') (k : EndsK p e below QQ (T.setTop g')) : EndsK p e below QQ (T.setTop g) := q ▸ k
end EndsK
section Leave
variable {p : Program} {l : Launch} {e : Env} {R : Room} {s : State} {m : MethodId} {args : Array Value} {below : List Frame} {meth : Method} {c : Code} {T : State} {locs : List Loc} {cells slots : Nat} {Q : Option Value → Heap → List Loc → Prop} {ck cs pc : Nat} {Ls : Array Slot} {rest : List Value}
theorem endI (X : Stand p l e R s m args below meth c T locs cells slots) (hx : p.tables.exec = Jvm.exec) {z : Int32} (hret : meth.sig.returnType = some .int) (hd : decode c.code pc = .ok (.ireturn, 1)) (hlk : meth.locks = false)
    (hq : Q (some (.int z)) T.heap locs) (hc : cells ≤ ck) (hs : slots ≤ cs) : EndsK p e below (OQ s Q ck cs) (T.setTop (mkF m pc Ls (.int z :: rest))) := by
  obtain ⟨fs, hr, hrun, hended, hW, hsame⟩ := X.leave (v := some (.int z)) (fun h => by rw [hret] at h; cases h) hlk
  refine ⟨_, _, retOut X hx hret rfl (Or.inl ⟨rfl, Or.inl rfl, _, rfl⟩) hd hr, hrun, hended, _, _, rfl, hq, ⟨_, rfl⟩, hW, hsame.mono hc hs⟩
theorem endN (X : Stand p l e R s m args below meth c T locs cells slots) (hx : p.tables.exec = Jvm.exec) {z : Int32} {t : FieldType} (hret : meth.sig.returnType = some t) (ht : t = .boolean ∨ t = .byte ∨ t = .char ∨ t = .short) (hd : decode c.code pc = .ok (.ireturn, 1)) (hlk : meth.locks = false)
    (hq : Q (some (.int (nar t z))) T.heap locs) (hc : cells ≤ ck) (hs : slots ≤ cs) : EndsK p e below (OQ s Q ck cs) (T.setTop (mkF m pc Ls (.int z :: rest))) := by
  obtain ⟨fs, hr, hrun, hended, hW, hsame⟩ := X.leave (v := some (.int (nar t z))) (fun h => by rw [hret] at h; cases h) hlk
  exact ⟨_, _, retN X hx hret ht hd hr, hrun, hended, _, _, rfl, hq, ⟨_, rfl⟩, hW, hsame.mono hc hs⟩
theorem endJ (X : Stand p l e R s m args below meth c T locs cells slots) (hx : p.tables.exec = Jvm.exec) {z : Int64} (hret : meth.sig.returnType = some .long) (hd : decode c.code pc = .ok (.lreturn, 1)) (hlk : meth.locks = false)
    (hq : Q (some (.long z)) T.heap locs) (hc : cells ≤ ck) (hs : slots ≤ cs) : EndsK p e below (OQ s Q ck cs) (T.setTop (mkF m pc Ls (.long z :: rest))) := by
  obtain ⟨fs, hr, hrun, hended, hW, hsame⟩ := X.leave (v := some (.long z)) (fun h => by rw [hret] at h; cases h) hlk
  exact ⟨_, _, retOut X hx hret rfl (Or.inr (Or.inl ⟨rfl, rfl, _, rfl⟩)) hd hr, hrun, hended, _, _, rfl, hq, ⟨_, rfl⟩, hW, hsame.mono hc hs⟩
theorem endR (X : Stand p l e R s m args below meth c T locs cells slots) (hx : p.tables.exec = Jvm.exec) {w : Value} {t : FieldType} (hret : meth.sig.returnType = some t) (ht : t.isReference = true) (hw : w.isRef = true) (hd : decode c.code pc = .ok (.areturn, 1)) (hlk : meth.locks = false)
    (hq : Q (some w) T.heap locs) (hc : cells ≤ ck) (hs : slots ≤ cs) : EndsK p e below (OQ s Q ck cs) (T.setTop (mkF m pc Ls (w :: rest))) := by
  obtain ⟨fs, hr, hrun, hended, hW, hsame⟩ := X.leave (v := some w) (fun h => by rw [hret] at h; cases h) hlk
  have hn : narrow t w = w := by cases t <;> first | (cases ht; done) | (cases w <;> first | rfl | (cases hw; done))
  exact ⟨_, _, retOut X hx hret hn (Or.inr (Or.inr (Or.inr (Or.inr ⟨rfl, ht, hw⟩)))) hd hr, hrun, hended, _, _, rfl, hq, ⟨_, rfl⟩, hW, hsame.mono hc hs⟩
theorem endV (X : Stand p l e R s m args below meth c T locs cells slots) (hx : p.tables.exec = Jvm.exec) (hret : meth.sig.returnType = none) (hd : decode c.code pc = .ok (.return_, 1)) (hlk : meth.locks = false)
    (hq : Q none T.heap locs) (hc : cells ≤ ck) (hs : slots ≤ cs) : EndsK p e below (OQ s Q ck cs) (T.setTop (mkF m pc Ls [])) := by
  obtain ⟨fs, hr, hrun, hended, hW, hsame⟩ := X.leave (v := none) (fun _ => rfl) hlk
  exact ⟨_, _, X.returnOut hx hret hd hr, hrun, hended, _, _, rfl, hq, ⟨_, rfl⟩, hW, hsame.mono hc hs⟩
end Leave
section Heaps
variable {h0 h h' : Heap} {a : Addr} {sl : Nat} {v : Value}
theorem ext_refl (h : Heap) : Ext h h := ⟨Nat.le_refl _, fun _ _ q => q⟩
theorem ext_trans (E : Ext h0 h) (E' : Ext h h') : Ext h0 h' := ⟨Nat.le_trans E.1 E'.1, fun x c q => E'.2 x c (E.2 x c q)⟩
theorem ext_wr (E : Ext h0 h) (W : Wr h h' a sl v) (q : h0.size ≤ a) : Ext h0 h' := by
  refine ⟨Nat.le_trans E.1 (Nat.le_of_eq W.size.symm), fun x c r => ?_⟩
  obtain ⟨c', e1, -, -, -, e5, -⟩ := wr_at W (E.2 x c r)
  rw [e1, e5 (fun z => by
    subst z
    exact absurd (Array.getElem?_eq_some_iff.mp r).1 (Nat.not_lt.mpr q))]
theorem ext_kept {ws : List Addr} (E : Ext h0 h) (K : Keep h h' ws) (q : ∀ x ∈ ws, h0.size ≤ x) : Ext h0 h' :=
  ⟨Nat.le_trans E.1 K.1, fun x c r => K.2.1 x c (E.2 x c r) fun z => absurd (Array.getElem?_eq_some_iff.mp r).1 (Nat.not_lt.mpr (q x z))⟩
end Heaps
section Nums
theorem own_iadd (x y : Int32) (h1 : -2147483648 ≤ x.toInt + y.toInt) (h2 : x.toInt + y.toInt ≤ 2147483647) : (x + y).toInt = x.toInt + y.toInt := by
  have a := c_iadd x y
  have b := rng32 (x + y)
  omega
theorem own_isub (x y : Int32) (h1 : -2147483648 ≤ x.toInt - y.toInt) (h2 : x.toInt - y.toInt ≤ 2147483647) : (x - y).toInt = x.toInt - y.toInt := by
  have a := c_isub x y
  have b := rng32 (x - y)
  omega
theorem own_ladd (x y : Int64) (h1 : -9223372036854775808 ≤ x.toInt + y.toInt) (h2 : x.toInt + y.toInt ≤ 9223372036854775807) : (x + y).toInt = x.toInt + y.toInt := by
  have a := c_ladd x y
  have b := rng64 (x + y)
  omega
theorem own_lsub (x y : Int64) (h1 : -9223372036854775808 ≤ x.toInt - y.toInt) (h2 : x.toInt - y.toInt ≤ 9223372036854775807) : (x - y).toInt = x.toInt - y.toInt := by
  have a := c_lsub x y
  have b := rng64 (x - y)
  omega
theorem own_l2i (x : Int64) (h1 : -2147483648 ≤ x.toInt) (h2 : x.toInt ≤ 2147483647) : x.toInt32.toInt = x.toInt := by
  have a := c_l2i x
  have b := rng32 x.toInt32
  omega
theorem own_wide (x y : Int32) (d : Int) (hy : y.toInt = d) : (x.toInt64 * y.toInt64).toInt = x.toInt * d := by rw [← hy]; exact XT.wideMul x y
end Nums
section Words
variable {Z : State} {args : Array Value} {t u : Term} {a b : Addr} {C n d O : String} {v : Value}
theorem fldI {k : Int32} (ev : t.eval args Z none [] Z = some (.ref a)) (h : (Cond.eq (.field t O n d) (.int k)).value args Z none Z [] = some true) : Fld Z Z.heap a O n d (.int k) := by
  obtain ⟨x, y, e1, e2, -, k2⟩ := cmp_v (Or.inl h)
  cases e2
  obtain ⟨z, rfl⟩ := k2
  have e3 := (fld_at (C := O) (n := n) (dd := d) ev).symm.trans e1
  have q := gotT (Cond.eq_ints e1 rfl) h
  subst q
  exact Fld.start e3
theorem fldR (ev : t.eval args Z none [] Z = some (.ref a)) (eu : u.eval args Z none [] Z = some (.ref b)) (h : (Cond.eq (.field t O n d) u).value args Z none Z [] = some true) : Fld Z Z.heap a O n d (.ref b) := by
  obtain ⟨x, y, e1, e2, -, k2⟩ := cmp_v (Or.inl h)
  cases eu.symm.trans e2
  have e3 := (fld_at (C := O) (n := n) (dd := d) ev).symm.trans e1
  have q := gotT (eq_R e1 eu k2.2 rfl) h
  subst q
  exact Fld.start e3
theorem fldN (ev : t.eval args Z none [] Z = some (.ref a)) (h : (Cond.eq (.field t O n d) .null).value args Z none Z [] = some true) : Fld Z Z.heap a O n d .null :=
  Fld.start ((fld_at (C := O) (n := n) (dd := d) ev).symm.trans (null_v h))
/-- an int[] of the start: its length and what it holds, as the case says -/
theorem arrLen {k : Int32} {cl : Cell} {ty : FieldType} (ev : t.eval args Z none [] Z = some (.ref a)) (A : Arr Z Z.heap a cl ty) (h : (Cond.eq (.length t) (.int k)).value args Z none Z [] = some true) : cl.slots.size < 2 ^ 31 ∧ cl.slots.size.toInt32 = k := by
  obtain ⟨x, y, e1, e2, -, k2⟩ := cmp_v (Or.inl h)
  cases e2
  obtain ⟨z, rfl⟩ := k2
  have q := gotT (Cond.eq_ints e1 rfl) h
  subst q
  have ha := A.fin (Vm.Alike.refl _)
  simp only [Term.eval, ev, ha, Option.bind_eq_bind, Option.bind_some] at e1
  split at e1
  · rename_i hlt; exact ⟨hlt, by simpa using e1⟩
  · cases e1
theorem arrAt {j k : Int32} {cl : Cell} {ty : FieldType} (ev : t.eval args Z none [] Z = some (.ref a)) (A : Arr Z Z.heap a cl ty) (h : (Cond.eq (.elem t (.int j)) (.int k)).value args Z none Z [] = some true) : ¬ (j < 0 ∨ cl.slots.size ≤ j.toNatClampNeg) ∧ cl.slots[j.toNatClampNeg]? = some (.int k) := by
  obtain ⟨x, y, e1, e2, -, k2⟩ := cmp_v (Or.inl h)
  cases e2
  obtain ⟨z, rfl⟩ := k2
  have q := gotT (Cond.eq_ints e1 rfl) h
  subst q
  exact elem_in e1 ev rfl A.1
end Words
end Jvm.OwnK
namespace Jvm.Pilot.@@N@@
open Jvm Jvm.ClassFile Sem Op Lib Jvm.Free Jvm.Stand Jvm.LawKit Jvm.RoadKit Jvm.OwnK Bundle Jvm.Pilot.@@N@@.Jvm.D
/-! the plain matcher, and that the greedy walk finds what it says -/
def wm (any : Int32) : List Int32 → List Int32 → Bool
  | [], [] => true
  | [], _ :: _ => false
  | p :: ps, [] => if p = 37 then wm any ps [] else false
  | p :: ps, t :: ts => if p = 37 then (wm any ps (t :: ts) || wm any (p :: ps) ts) else ((decide (p = any) || decide (p = t)) && wm any ps ts)
termination_by ps ts => ps.length + ts.length
section WM
variable {any : Int32}
theorem wm_nn : wm any [] [] = true := by rw [wm]
theorem wm_nc {t : Int32} {ts : List Int32} : wm any [] (t :: ts) = false := by rw [wm]
theorem wm_cn {p : Int32} {ps : List Int32} : wm any (p :: ps) [] = if p = 37 then wm any ps [] else false := by rw [wm]
theorem wm_cc {p t : Int32} {ps ts : List Int32} : wm any (p :: ps) (t :: ts) = if p = 37 then (wm any ps (t :: ts) || wm any (p :: ps) ts) else ((decide (p = any) || decide (p = t)) && wm any ps ts) := by rw [wm]
/-- a pattern's sign that is no % stands for this sign of the text -/
def fit1 (any p t : Int32) : Prop := p ≠ 37 ∧ (p = any ∨ p = t)
theorem wm_fit {p t : Int32} {ps ts : List Int32} (h : fit1 any p t) : wm any (p :: ps) (t :: ts) = wm any ps ts := by
  rw [wm_cc, if_neg h.1]
  have : (decide (p = any) || decide (p = t)) = true := by simpa using h.2
  rw [this, Bool.true_and]
theorem wm_misfit {p t : Int32} {ps ts : List Int32} (h : p ≠ 37) (h' : ¬ (p = any ∨ p = t)) : wm any (p :: ps) (t :: ts) = false := by
  rw [wm_cc, if_neg h]
  have : (decide (p = any) || decide (p = t)) = false := by simpa using h'
  rw [this, Bool.false_and]
theorem star_step {ps : List Int32} {t : Int32} {ts : List Int32} : wm any (37 :: ps) (t :: ts) = (wm any ps (t :: ts) || wm any (37 :: ps) ts) := by rw [wm_cc, if_pos rfl]
theorem star_nil {ps : List Int32} : wm any (37 :: ps) [] = wm any ps [] := by rw [wm_cn, if_pos rfl]
theorem star_here {ps ts : List Int32} (h : wm any ps ts = true) : wm any (37 :: ps) ts = true := by
  cases ts with
  | nil => rw [star_nil]; exact h
  | cons t ts => rw [star_step, h, Bool.true_or]
theorem star_back {ps : List Int32} : ∀ (k : Nat) (ts : List Int32), wm any (37 :: ps) (ts.drop k) = true → wm any (37 :: ps) ts = true
  | 0, ts, h => by simpa using h
  | k + 1, [], h => by simpa using h
  | k + 1, t :: ts, h => by
    rw [star_step]
    have := star_back k ts (by simpa using h)
    rw [this, Bool.or_true]
theorem star_some {ps : List Int32} : ∀ (ts : List Int32), wm any (37 :: ps) ts = true → ∃ k, k ≤ ts.length ∧ wm any ps (ts.drop k) = true
  | [], h => ⟨0, Nat.le_refl _, by rw [star_nil] at h; simpa using h⟩
  | t :: ts, h => by
    rw [star_step, Bool.or_eq_true] at h
    rcases h with h | h
    · exact ⟨0, Nat.zero_le _, by simpa using h⟩
    · obtain ⟨k, h1, h2⟩ := star_some ts h
      exact ⟨k + 1, by simpa using h1, by simpa using h2⟩
/-- n signs of the pattern stand for n signs of the text -/
def Seg (any : Int32) (A B : List Int32) (n : Nat) : Prop := ∀ i, i < n → ∃ p t, A[i]? = some p ∧ B[i]? = some t ∧ fit1 any p t
theorem seg_eq : ∀ (n : Nat) (A B : List Int32), Seg any A B n → wm any A B = wm any (A.drop n) (B.drop n)
  | 0, A, B, _ => by simp
  | n + 1, A, B, h => by
    obtain ⟨p, t, h1, h2, h3⟩ := h 0 (Nat.succ_pos _)
    cases A with
    | nil => simp at h1
    | cons p' A =>
      cases B with
      | nil => simp at h2
      | cons t' B =>
        simp at h1 h2
        subst h1 h2
        rw [wm_fit h3]
        have := seg_eq n A B fun i hi => by
          obtain ⟨p, t, q1, q2, q3⟩ := h (i + 1) (by omega)
          exact ⟨p, t, by simpa using q1, by simpa using q2, q3⟩
        simpa using this
/-- where the pattern's first n signs are no %, a text that it matches has n signs, and what is left matches -/
theorem plain_pre : ∀ (n : Nat) (A B : List Int32), (∀ i, i < n → ∃ p, A[i]? = some p ∧ p ≠ 37) → wm any A B = true → n ≤ B.length ∧ wm any (A.drop n) (B.drop n) = true
  | 0, A, B, _, h => ⟨Nat.zero_le _, by simpa using h⟩
  | n + 1, A, B, hA, h => by
    obtain ⟨p, h1, h2⟩ := hA 0 (Nat.succ_pos _)
    cases A with
    | nil => simp at h1
    | cons p' A =>
      simp at h1
      subst h1
      cases B with
      | nil => rw [wm_cn, if_neg h2] at h; cases h
      | cons t B =>
        rw [wm_cc, if_neg h2, Bool.and_eq_true] at h
        obtain ⟨q1, q2⟩ := plain_pre n A B (fun i hi => by
          obtain ⟨p, q1, q2⟩ := hA (i + 1) (by omega)
          exact ⟨p, by simpa using q1, q2⟩) h.2
        exact ⟨by simpa using q1, by simpa using q2⟩
theorem drop_at {A : List Int32} {i : Nat} {p : Int32} (h : A[i]? = some p) : A.drop i = p :: A.drop (i + 1) := by
  obtain ⟨hi, rfl⟩ := List.getElem?_eq_some_iff.mp h
  exact List.drop_eq_getElem_cons hi
/-- what the walk has found out: lr: the last % met, if any; re: where in the text what it stands for ends -/
def Inv (any : Int32) (P T : List Int32) (p t : Nat) : Option Nat → Nat → Prop
  | none, _ => wm any P T = wm any (P.drop p) (T.drop t)
  | some lr, re => P[lr]? = some 37 ∧ lr < p ∧ re ≤ t ∧ p - (lr + 1) = t - re ∧ Seg any (P.drop (lr + 1)) (T.drop re) (t - re) ∧ wm any P T = wm any (P.drop lr) (T.drop re)
theorem inv_star {P T : List Int32} {p t re : Nat} {lr : Option Nat} (h : Inv any P T p t lr re) (hp : P[p]? = some 37) : Inv any P T (p + 1) t (some p) t := by
  refine ⟨hp, Nat.lt_succ_self _, Nat.le_refl _, by omega, fun i hi => by omega, ?_⟩
  cases lr with
  | none => exact h
  | some lr =>
    obtain ⟨h1, h2, h3, h4, h5, h6⟩ := h
    rw [h6]
    have hd := drop_at h1
    have hdp := drop_at hp
    have e1 : (P.drop (lr + 1)).drop (t - re) = P.drop p := by rw [List.drop_drop]; congr 1; omega
    have e2 : (T.drop re).drop (t - re) = T.drop t := by rw [List.drop_drop]; congr 1; omega
    have sg := seg_eq _ _ _ h5
    rw [e1, e2] at sg
    cases hq : wm any (P.drop p) (T.drop t) with
    | true =>
      rw [hd]
      exact star_here (by rw [sg]; exact hq)
    | false =>
      cases hz : wm any (P.drop lr) (T.drop re) with
      | false => rfl
      | true =>
        rw [hd] at hz
        obtain ⟨k, k1, k2⟩ := star_some _ hz
        obtain ⟨m1, m2⟩ := plain_pre (t - re) _ _ (fun i hi => by
          obtain ⟨a, b, q1, q2, q3⟩ := h5 i hi
          exact ⟨a, q1, q3.1⟩) k2
        rw [e1, List.drop_drop, List.drop_drop] at m2
        rw [hdp] at m2 hq
        have : wm any (37 :: P.drop (p + 1)) (T.drop t) = true := star_back k _ (by
          rw [List.drop_drop]
          have e3 : t + k = re + (k + (t - re)) := by omega
          rw [e3]; exact m2)
        rw [this] at hq; cases hq
theorem inv_fit {P T : List Int32} {p t re : Nat} {lr : Option Nat} (h : Inv any P T p t lr re) {a b : Int32} (hp : P[p]? = some a) (ht : T[t]? = some b) (hf : fit1 any a b) : Inv any P T (p + 1) (t + 1) lr re := by
  cases lr with
  | none =>
    show wm any P T = _
    rw [show wm any P T = wm any (P.drop p) (T.drop t) from h, drop_at hp, drop_at ht, wm_fit hf]
  | some lr =>
    obtain ⟨h1, h2, h3, h4, h5, h6⟩ := h
    refine ⟨h1, by omega, by omega, by omega, fun i hi => ?_, h6⟩
    by_cases e : i < t - re
    · exact h5 i e
    · have e' : i = t - re := by omega
      subst e'
      refine ⟨a, b, ?_, ?_, hf⟩
      · rw [List.getElem?_drop, show lr + 1 + (t - re) = p by omega]; exact hp
      · rw [List.getElem?_drop, show re + (t - re) = t by omega]; exact ht
/-- here the rest of the pattern doesn't match the rest of the text -/
theorem inv_skip {P T : List Int32} {p t re lr : Nat} (h : Inv any P T p t (some lr) re) (ht : t < T.length) (hf : wm any (P.drop p) (T.drop t) = false) : Inv any P T (lr + 1) (re + 1) (some lr) (re + 1) := by
  obtain ⟨h1, h2, h3, h4, h5, h6⟩ := h
  refine ⟨h1, Nat.lt_succ_self _, Nat.le_refl _, by omega, fun i hi => by omega, ?_⟩
  have e1 : (P.drop (lr + 1)).drop (t - re) = P.drop p := by rw [List.drop_drop]; congr 1; omega
  have e2 : (T.drop re).drop (t - re) = T.drop t := by rw [List.drop_drop]; congr 1; omega
  have sg := seg_eq _ _ _ h5
  rw [e1, e2, hf] at sg
  obtain ⟨b, hb⟩ : ∃ b, T[re]? = some b := ⟨_, List.getElem?_eq_getElem (by omega)⟩
  rw [h6, drop_at h1]
  rw [drop_at hb] at sg ⊢
  rw [star_step, sg, Bool.false_or]
theorem inv_end {P T : List Int32} {p t re : Nat} {lr : Option Nat} (h : Inv any P T p t lr re) (ht : t = T.length) : wm any P T = wm any (P.drop p) [] := by
  have et : T.drop t = [] := by rw [ht]; simp
  cases lr with
  | none => rw [show wm any P T = wm any (P.drop p) (T.drop t) from h, et]
  | some lr =>
    obtain ⟨h1, h2, h3, h4, h5, h6⟩ := h
    have e1 : (P.drop (lr + 1)).drop (t - re) = P.drop p := by rw [List.drop_drop]; congr 1; omega
    have e2 : (T.drop re).drop (t - re) = T.drop t := by rw [List.drop_drop]; congr 1; omega
    have sg := seg_eq _ _ _ h5
    rw [e1, e2, et] at sg
    have hd := drop_at h1
    rw [h6, hd]
    cases hq : wm any (P.drop p) [] with
    | true => exact star_here (by rw [sg]; exact hq)
    | false =>
      cases hz : wm any (37 :: P.drop (lr + 1)) (T.drop re) with
      | false => rfl
      | true =>
        obtain ⟨k, k1, k2⟩ := star_some _ hz
        obtain ⟨m1, m2⟩ := plain_pre (t - re) _ _ (fun i hi => by
          obtain ⟨a, b, q1, q2, q3⟩ := h5 i hi
          exact ⟨a, q1, q3.1⟩) k2
        rw [List.drop_drop, List.length_drop] at m1
        have k0 : k = 0 := by rw [List.length_drop] at k1; omega
        subst k0
        rw [e1] at m2
        simp only [List.drop_zero] at m2
        rw [e2, et] at m2
        rw [hq] at m2; cases m2
theorem tail_star {P : List Int32} {p : Nat} (hp : P[p]? = some 37) : wm any (P.drop p) [] = wm any (P.drop (p + 1)) [] := by rw [drop_at hp, star_nil]
theorem tail_other {P : List Int32} {p : Nat} {a : Int32} (hp : P[p]? = some a) (ha : a ≠ 37) : wm any (P.drop p) [] = false := by rw [drop_at hp, wm_cn, if_neg ha]
theorem tail_end {P : List Int32} {p : Nat} (hp : p = P.length) : wm any (P.drop p) [] = true := by rw [hp]; simp [wm_nn]
theorem misfit_end {P T : List Int32} {p t : Nat} (hp : P.length ≤ p) (ht : t < T.length) : wm any (P.drop p) (T.drop t) = false := by
  obtain ⟨b, hb⟩ : ∃ b, T[t]? = some b := ⟨_, List.getElem?_eq_getElem ht⟩
  rw [List.drop_eq_nil_of_le hp, drop_at hb, wm_nc]
theorem misfit_at {P T : List Int32} {p t : Nat} {a b : Int32} (hp : P[p]? = some a) (ht : T[t]? = some b) (h : a ≠ 37) (h' : ¬ (a = any ∨ a = b)) : wm any (P.drop p) (T.drop t) = false := by
  rw [drop_at hp, drop_at ht]; exact wm_misfit h h'
/-- the table's cell -/
def Dv (any : Int32) (P T : List Int32) (i j : Nat) : Bool := decide (i ≤ P.length) && (decide (j ≤ T.length) && wm any (P.drop i) (T.drop j))
def b2i (b : Bool) : Int32 := if b then 1 else 0
theorem b2i_ne {b : Bool} : b2i b = 0 ↔ b = false := by cases b <;> simp [b2i] <;> decide
def cellF (any np nt i j Pi Tj g1 g2 g3 : Int32) : Int32 := if np < i then 0 else if nt < j then 0 else if i = np then (if j = nt then 1 else 0) else if Pi = 37 then (if g1 = 0 then (if j < nt then (if g2 = 0 then 0 else 1) else 0) else 1) else if j = nt then 0 else if Pi = any then (if g3 = 0 then 0 else 1) else if Pi = Tj then (if g3 = 0 then 0 else 1) else 0
theorem cell_law {np nt i j Pi Tj : Int32} {P T : List Int32} {I J : Nat} (hnp : np.toInt = P.length) (hnt : nt.toInt = T.length) (hi : i.toInt = I) (hj : j.toInt = J) (hP : I < P.length → P[I]? = some Pi) (hT : J < T.length → T[J]? = some Tj) :
    cellF any np nt i j Pi Tj (b2i (Dv any P T (I + 1) J)) (b2i (Dv any P T I (J + 1))) (b2i (Dv any P T (I + 1) (J + 1))) = b2i (Dv any P T I J) := by
  have c1 : np < i ↔ P.length < I := by rw [Int32.lt_iff_toInt_lt]; omega
  have c2 : nt < j ↔ T.length < J := by rw [Int32.lt_iff_toInt_lt]; omega
  have c3 : i = np ↔ I = P.length := by rw [← Int32.toInt_inj]; omega
  have c4 : j = nt ↔ J = T.length := by rw [← Int32.toInt_inj]; omega
  have c5 : j < nt ↔ J < T.length := by rw [Int32.lt_iff_toInt_lt]; omega
  unfold cellF
  simp only [c1, c2, c3, c4, c5, b2i_ne]
  by_cases d1 : P.length < I
  · rw [if_pos d1]
    have : Dv any P T I J = false := by simp [Dv]; omega
    rw [this]; rfl
  rw [if_neg d1]
  by_cases d2 : T.length < J
  · rw [if_pos d2]
    have : Dv any P T I J = false := by simp [Dv]; omega
    rw [this]; rfl
  rw [if_neg d2]
  have e0 : Dv any P T I J = wm any (P.drop I) (T.drop J) := by
    have a1 : decide (I ≤ P.length) = true := by simp; omega
    have a2 : decide (J ≤ T.length) = true := by simp; omega
    rw [Dv, a1, a2, Bool.true_and, Bool.true_and]
  rw [e0]
  by_cases d3 : I = P.length
  · rw [if_pos d3]
    have hd : P.drop I = [] := by rw [d3]; simp
    rw [hd]
    by_cases d4 : J = T.length
    · rw [if_pos d4, d4]
      simp [wm_nn, b2i]
    · rw [if_neg d4]
      obtain ⟨b, hb⟩ : ∃ b, T[J]? = some b := ⟨_, List.getElem?_eq_getElem (by omega)⟩
      rw [drop_at hb, wm_nc]; rfl
  rw [if_neg d3]
  have hp := hP (by omega)
  rw [drop_at hp]
  have e1 : Dv any P T (I + 1) J = wm any (P.drop (I + 1)) (T.drop J) := by
    have a1 : decide (I + 1 ≤ P.length) = true := by simp; omega
    have a2 : decide (J ≤ T.length) = true := by simp; omega
    rw [Dv, a1, a2, Bool.true_and, Bool.true_and]
  by_cases d5 : Pi = 37
  · subst d5
    rw [if_pos rfl, e1]
    by_cases d4 : J = T.length
    · have hd : T.drop J = [] := by rw [d4]; simp
      rw [hd, star_nil]
      cases hq : wm any (P.drop (I + 1)) [] with
      | true => simp [b2i]
      | false => simp [b2i]; omega
    · obtain ⟨b, hb⟩ : ∃ b, T[J]? = some b := ⟨_, List.getElem?_eq_getElem (by omega)⟩
      have e2 : Dv any P T I (J + 1) = wm any (37 :: P.drop (I + 1)) (T.drop (J + 1)) := by
        have a1 : decide (I ≤ P.length) = true := by simp; omega
        have a2 : decide (J + 1 ≤ T.length) = true := by simp; omega
        rw [Dv, a1, a2, Bool.true_and, Bool.true_and, drop_at hp]
      have d6 : J < T.length := by omega
      rw [e2, drop_at hb, star_step]
      cases wm any (P.drop (I + 1)) (b :: T.drop (J + 1)) <;> cases wm any (37 :: P.drop (I + 1)) (T.drop (J + 1)) <;> simp [b2i, d6]
  · rw [if_neg d5]
    by_cases d4 : J = T.length
    · rw [if_pos d4]
      have hd : T.drop J = [] := by rw [d4]; simp
      rw [hd, wm_cn, if_neg d5]; rfl
    · rw [if_neg d4]
      have hb := hT (by omega)
      have e3 : Dv any P T (I + 1) (J + 1) = wm any (P.drop (I + 1)) (T.drop (J + 1)) := by
        have a1 : decide (I + 1 ≤ P.length) = true := by simp; omega
        have a2 : decide (J + 1 ≤ T.length) = true := by simp; omega
        rw [Dv, a1, a2, Bool.true_and, Bool.true_and]
      rw [e3, drop_at hb, wm_cc, if_neg d5]
      by_cases d7 : Pi = any
      · simp [d7, b2i]; cases wm any (P.drop (I + 1)) (T.drop (J + 1)) <;> simp
      · by_cases d8 : Pi = Tj
        · simp [d7, d8, b2i]; cases wm any (P.drop (I + 1)) (T.drop (J + 1)) <;> simp
        · simp [d7, d8, b2i]
end WM
theorem own_ne {a b : Nat} (h : a < b ∨ b < a) : a ≠ b := fun q => by
  subst q
  exact h.elim (Nat.lt_irrefl _) (Nat.lt_irrefl _)
theorem own_eq {a b : Nat} (h : a = b) : a = b := h
theorem own_nat {x : Int32} (h : 0 ≤ x.toInt) : (x.toNatClampNeg : Int) = x.toInt := by
  have : x.toNatClampNeg = x.toInt.toNat := rfl
  omega
theorem own_row {xs : List Addr} {b N : Nat} (hxs : xs = (List.range N).map fun j => b + 1 + j) {k : Nat} (hk : k < N) : xs[k]? = some (b + 1 + k) ∧ (xs.map Value.ref).getD k .null = .ref (b + 1 + k) := by
  have e : xs[k]? = some (b + 1 + k) := by subst hxs; simp [hk]
  exact ⟨e, by simp [List.getD_eq_getElem?_getD, e]⟩
theorem own_getD (L : List Int32) (k : Nat) : (L.map Value.int).getD k (.int 0) = .int (L.getD k 0) := by
  simp only [List.getD_eq_getElem?_getD, List.getElem?_map]
  cases L[k]? <;> rfl
theorem own_at {L : List Int32} {k : Nat} (h : k < L.length) : L[k]? = some (L.getD k 0) := by
  simp [List.getD_eq_getElem?_getD, List.getElem?_eq_getElem h]
def TabP (Z : State) (h : Heap) (a : Addr) (cA : ClassId) (xs : List Addr) (f : Nat → Nat → Int32) : Prop :=
  Arv Z h a cA (.array .boolean) 5 (xs.map .ref) .null ∧ ∀ (j : Nat) (x : Addr), xs[j]? = some x → ∃ cl, Arr Z h x cl .boolean ∧ cl.slots.size = (5 : Int32).toNatClampNeg ∧ ∀ q, q < 5 → cl.slots[q]? = some (.int (f j q))
def upd (f : Nat → Nat → Int32) (i j : Nat) (v : Int32) : Nat → Nat → Int32 := fun i' j' => if i' = i ∧ j' = j then v else f i' j'
theorem TabP.set {Z : State} {h h' : Heap} {a : Nat} {cA : ClassId} {xs : List Addr} {f : Nat → Nat → Int32} (hxs : xs = (List.range 5).map fun j => a + 1 + j)
    (G : TabP Z h a cA xs f) {j : Nat} {x : Addr} (hj : xs[j]? = some x) {c : Nat} (hc : c < 5) {v : Int32} (W : Wr h h' x c (.int v)) : TabP Z h' a cA xs (upd f j c v) := by
  have val : ∀ (i : Nat) (y : Nat), xs[i]? = some y → y = a + 1 + i := fun i y hi => by
    subst hxs
    simp only [List.getElem?_map, Option.map_eq_some_iff] at hi
    obtain ⟨z, hz, rfl⟩ := hi
    have := (List.getElem?_eq_some_iff.mp hz).2
    simp at this
    omega
  have vx := val j x hj
  refine ⟨G.1.other W (own_ne (by omega)), fun i y hi => ?_⟩
  have vy := val i y hi
  obtain ⟨cl, A, S, r⟩ := G.2 i y hi
  by_cases e : i = j
  · subst e
    have exy : x = y := own_eq (by omega)
    subst exy
    refine ⟨_, A.same W, by rw [sz_set]; exact S, fun q hq => ?_⟩
    by_cases u : q = c
    · subst u
      have hq' : q < cl.slots.size := by rw [S]; exact hq
      simp [Cell.setSlot, hq', upd]
    · have e1 : (cl.setSlot c (.int v)).slots[q]? = cl.slots[q]? := by simp only [Cell.setSlot]; exact Array.getElem?_setIfInBounds_ne (Ne.symm u)
      rw [e1, r q hq]; simp [upd, u]
  · have nxy : y ≠ x := own_ne (by omega)
    exact ⟨cl, A.other W nxy, S, fun q hq => by rw [r q hq]; simp [upd, e]⟩
theorem own_rep {cA : ClassId} {ty : FieldType} {n : Int32} {q : Nat} (h : q < n.toNatClampNeg) : (newA cA ty n).slots[q]? = some (defaultValue ty) := by simp [newA, h]
theorem TabP.keep {Z : State} {h h' : Heap} {a : Addr} {cA : ClassId} {xs : List Addr} {f : Nat → Nat → Int32} (G : TabP Z h a cA xs f) (E : Ext h h') : TabP Z h' a cA xs f :=
  ⟨G.1.ext E, fun j x hj => by obtain ⟨cl, A, r⟩ := G.2 j x hj; exact ⟨cl, A.ext E, r⟩⟩
def cellAt (any np nt : Int32) (PL TL : List Int32) (f : Nat → Nat → Int32) (xi xj : Int32) : Int32 := cellF any np nt xi xj (PL.getD xi.toNatClampNeg 0) (TL.getD xj.toNatClampNeg 0) (f (xi.toNatClampNeg + 1) xj.toNatClampNeg) (f xi.toNatClampNeg (xj.toNatClampNeg + 1)) (f (xi.toNatClampNeg + 1) (xj.toNatClampNeg + 1))
theorem own_nar (any np nt : Int32) (PL TL : List Int32) (f : Nat → Nat → Int32) (xi xj : Int32) : nar .boolean (cellAt any np nt PL TL f xi xj) = cellAt any np nt PL TL f xi xj := by
  unfold cellAt cellF
  repeat' split
  all_goals rfl
def step1 (any np nt : Int32) (PL TL : List Int32) (f : Nat → Nat → Int32) (xi xj : Int32) : Nat → Nat → Int32 := upd f xi.toNatClampNeg xj.toNatClampNeg (cellAt any np nt PL TL f xi xj)
def rowF (any np nt : Int32) (PL TL : List Int32) (f : Nat → Nat → Int32) (xi : Int32) : Nat → Nat → Int32 :=
  step1 any np nt PL TL (step1 any np nt PL TL (step1 any np nt PL TL (step1 any np nt PL TL (step1 any np nt PL TL f xi 4) xi 3) xi 2) xi 1) xi 0
/-- right where it is said to be: behind (I, J) -/
def Good (any : Int32) (P T : List Int32) (f : Nat → Nat → Int32) (I J : Nat) : Prop := (∀ i, i ≤ 5 → f i 5 = 0) ∧ ∀ i j, i ≤ 5 → j ≤ 5 → (I < i ∨ (i = I ∧ J ≤ j)) → f i j = b2i (Dv any P T i j)
theorem good_step {any np nt : Int32} {PL TL : List Int32} {f : Nat → Nat → Int32} {I J N M : Nat} {xi xj : Int32} (hPL : PL.length = 4) (hTL : TL.length = 4) (hN : N ≤ 4) (hM : M ≤ 4) (hnp : np.toInt = N) (hnt : nt.toInt = M) (hi : xi.toInt = I) (hj : xj.toInt = J) (hI : I ≤ 4) (hJ : J ≤ 4)
    (G : Good any (PL.take N) (TL.take M) f I (J + 1)) : Good any (PL.take N) (TL.take M) (step1 any np nt PL TL f xi xj) I J := by
  have ki : xi.toNatClampNeg = I := by have := own_nat (x := xi) (by omega); omega
  have kj : xj.toNatClampNeg = J := by have := own_nat (x := xj) (by omega); omega
  have lP : (PL.take N).length = N := by simp; omega
  have lT : (TL.take M).length = M := by simp; omega
  refine ⟨fun i h5 => ?_, fun i j h1 h2 h3 => ?_⟩
  · simp only [step1, upd, ki, kj]
    rw [if_neg (by omega)]; exact G.1 i h5
  · simp only [step1, upd, ki, kj]
    by_cases e : i = I ∧ j = J
    · rw [if_pos e, e.1, e.2]
      have q := cell_law (any := any) (np := np) (nt := nt) (i := xi) (j := xj) (Pi := PL.getD I 0) (Tj := TL.getD J 0) (P := PL.take N) (T := TL.take M) (I := I) (J := J) (by omega) (by omega) hi hj
        (fun h => by rw [lP] at h; rw [List.getElem?_take_of_lt h]; exact own_at (by omega)) (fun h => by rw [lT] at h; rw [List.getElem?_take_of_lt h]; exact own_at (by omega))
      simp only [cellAt, ki, kj]
      rw [G.2 (I + 1) J (by omega) (by omega) (by omega), G.2 I (J + 1) (by omega) (by omega) (by omega), G.2 (I + 1) (J + 1) (by omega) (by omega) (by omega)]
      exact q
    · rw [if_neg e]
      exact G.2 i j h1 h2 (by omega)
theorem good_row {any np nt : Int32} {PL TL : List Int32} {f : Nat → Nat → Int32} {I N M : Nat} {xi : Int32} (hPL : PL.length = 4) (hTL : TL.length = 4) (hN : N ≤ 4) (hM : M ≤ 4) (hnp : np.toInt = N) (hnt : nt.toInt = M) (hi : xi.toInt = I) (hI : I ≤ 4)
    (G : Good any (PL.take N) (TL.take M) f I 5) : Good any (PL.take N) (TL.take M) (rowF any np nt PL TL f xi) I 0 :=
  good_step hPL hTL hN hM hnp hnt hi (xj := 0) rfl hI (by omega) (good_step hPL hTL hN hM hnp hnt hi (xj := 1) rfl hI (by omega) (good_step hPL hTL hN hM hnp hnt hi (xj := 2) rfl hI (by omega) (good_step hPL hTL hN hM hnp hnt hi (xj := 3) rfl hI (by omega) (good_step hPL hTL hN hM hnp hnt hi (xj := 4) rfl hI (by omega) G))))
theorem good_up {any : Int32} {P T : List Int32} {f : Nat → Nat → Int32} {I : Nat} (hT : T.length ≤ 4) (G : Good any P T f (I + 1) 0) : Good any P T f I 5 := by
  refine ⟨G.1, fun i j h1 h2 h3 => ?_⟩
  by_cases e : I < i
  · exact G.2 i j h1 h2 (by omega)
  · have e1 : j = 5 := by omega
    subst e1
    rw [G.1 i h1]
    have : Dv any P T i 5 = false := by simp [Dv]; omega
    rw [this]; rfl
theorem good_zero {any : Int32} {P T : List Int32} (hP : P.length ≤ 4) (hT : T.length ≤ 4) : Good any P T (fun _ _ => 0) 4 5 := by
  refine ⟨fun _ _ => rfl, fun i j h1 h2 h3 => ?_⟩
  have : Dv any P T i j = false := by simp [Dv]; omega
  rw [this]; rfl
theorem d1_0 : decode method_3_code 0 = .ok (.iload_n 0, 1) := by decide +kernel
theorem d1_1 : decode method_3_code 1 = .ok (.iconst 3, 1) := by decide +kernel
theorem d1_2 : decode method_3_code 2 = .ok (.iand, 1) := by decide +kernel
theorem d1_3 : decode method_3_code 3 = .ok (.istore 4, 2) := by decide +kernel
theorem d1_5 : decode method_3_code 5 = .ok (.iload 4, 2) := by decide +kernel
theorem d1_7 : decode method_3_code 7 = .ok (.ifCond .ne 6, 3) := by decide +kernel
theorem d1_10 : decode method_3_code 10 = .ok (.bipush 37, 2) := by decide +kernel
theorem d1_12 : decode method_3_code 12 = .ok (.ireturn, 1) := by decide +kernel
theorem d1_13 : decode method_3_code 13 = .ok (.iload 4, 2) := by decide +kernel
theorem d1_15 : decode method_3_code 15 = .ok (.iconst 1, 1) := by decide +kernel
theorem d1_16 : decode method_3_code 16 = .ok (.if_icmp .ne 5, 3) := by decide +kernel
theorem d1_19 : decode method_3_code 19 = .ok (.iload_n 3, 1) := by decide +kernel
theorem d1_20 : decode method_3_code 20 = .ok (.ireturn, 1) := by decide +kernel
theorem d1_21 : decode method_3_code 21 = .ok (.iload 4, 2) := by decide +kernel
theorem d1_23 : decode method_3_code 23 = .ok (.iconst 2, 1) := by decide +kernel
theorem d1_24 : decode method_3_code 24 = .ok (.if_icmp .ne 5, 3) := by decide +kernel
theorem d1_27 : decode method_3_code 27 = .ok (.iload_n 1, 1) := by decide +kernel
theorem d1_28 : decode method_3_code 28 = .ok (.ireturn, 1) := by decide +kernel
theorem d1_29 : decode method_3_code 29 = .ok (.iload_n 2, 1) := by decide +kernel
theorem d1_30 : decode method_3_code 30 = .ok (.ireturn, 1) := by decide +kernel
theorem pn0 : plainName "com/example/seshat/seshat/registry/WildcardsMatchesPinLaw" = true := by first | (simp [plainName, overriddenIn]; done) | decide +kernel
theorem ef_pick (m : MethodId) (x0 : Int32) (x1 : Int32) (x2 : Int32) (x3 : Int32) : entryFrame m #[(.int x0), (.int x1), (.int x2), (.int x3)] 5 = mkF m 0 #[.val (.int x0), .val (.int x1), .val (.int x2), .val (.int x3), .unset] [] := by first | (simp [entryFrame, mkF, argsToLocals, Value.category]; done) | rfl
def Q_pick (Z : State) (x0 : Int32) (x1 : Int32) (x2 : Int32) (x3 : Int32) (h0 : Heap) (n0 : Nat) (vz : Option Value) (hz : Heap) (Lz : List Loc) : Prop := ∃ r : Int32, vz = some (.int r) ∧ Fr n0 Lz ∧ hz = h0
set_option maxRecDepth 65536 in
set_option maxHeartbeats 40000000 in
theorem rm_pick (l : Launch) (Z : State) (a0 : Array Value) (hw : ∀ d ∈ tables_1, d.before a0 Z = true) (ws : List Jvm.Cond) (x0 : Int32) (x1 : Int32) (x2 : Int32) (x3 : Int32) (h0 : Heap) (n0 : Nat) (Z0 : n0 ≤ h0.size)  :
    MetFree l (⟨"com/example/seshat/seshat/registry/WildcardsMatchesPinLaw", "pick", "(IIII)I"⟩ : MethodName) (head1 (Jvm.Cond.code (⟨"com/example/seshat/seshat/registry/WildcardsMatchesPinLaw", "pick", "(IIII)I"⟩ : MethodName) method_3_code 5 (some .int) :: ws) ({ frames := 0, cells := 0, slots := 0, locals := 0 } : Room)) (fun az Uz => az = #[(.int x0), (.int x1), (.int x2), (.int x3)] ∧ Z.Warmed39 Uz.vm ∧ Uz.heap = h0) (fun _ _ _ _ _ => True) (fun _ Uz oz Ut => ∃ vz Lz, oz = .returned vz ∧ Q_pick Z x0 x1 x2 x3 h0 n0 vz Ut.heap Lz ∧ FrameEnd Uz oz Ut Lz (({ frames := 0, cells := 0, slots := 0, locals := 0 } : Room)).cells (({ frames := 0, cells := 0, slots := 0, locals := 0 } : Room)).slots) := by
  refine MetFree.of_bodySF (plainFor_of_name pn0) hisR ?_
  intro p e s m args below meth c s₁ Bd hml0 hP hK
  obtain ⟨rfl, hZ, hh⟩ := hP
  have hx := Bd.exec
  have hby := Bd.bytes
  have hml : c.maxLocals = 5 := hml0
  have hown : s.vm.findClass "com/example/seshat/seshat/registry/WildcardsMatchesPinLaw" = some m.cls := findClass_of_methodNamed Bd.named
  have hnm := (name_of_methodNamed Bd.named Bd.method).1
  have hlk : meth.locks = false := Bd.notSynchronized
  have X0 : Stand p l e ({ frames := 0, cells := 0, slots := 0, locals := 0 } : Room) s m #[(.int x0), (.int x1), (.int x2), (.int x3)] below meth c s₁ [] 0 0 := Stand.of_body Bd
  have e0 : s₁.heap = h0 := by rw [← hh, Bd.state]; rfl
  have N0 := Fr.nil n0
  show EndsK p e below (OQ s (Q_pick Z x0 x1 x2 x3 h0 n0) (({ frames := 0, cells := 0, slots := 0, locals := 0 } : Room)).cells (({ frames := 0, cells := 0, slots := 0, locals := 0 } : Room)).slots) (s₁.setTop (entryFrame m #[(.int x0), (.int x1), (.int x2), (.int x3)] 5))
  refine EndsK.start (ef_pick m x0 x1 x2 x3) ?_
  show EndsK p e below _ (s₁.setTop (mkF m 0 #[.val (.int x0), .val (.int x1), .val (.int x2), .val (.int x3), .unset] []))
  refine EndsK.go (fun _ kz => XS.iloadN X0.here hx rfl (hb hby d1_0) rfl kz) ?_
  show EndsK p e below _ (s₁.setTop (mkF m 1 #[.val (.int x0), .val (.int x1), .val (.int x2), .val (.int x3), .unset] [(.int x0)]))
  refine EndsK.go (fun _ kz => XS.iconst X0.here hx rfl (hb hby d1_1) kz) ?_
  show EndsK p e below _ (s₁.setTop (mkF m 2 #[.val (.int x0), .val (.int x1), .val (.int x2), .val (.int x3), .unset] [(.int (3 : Int32)), (.int x0)]))
  refine EndsK.go (fun _ kz => XS.iand X0.here hx rfl (hb hby d1_2) rfl kz) ?_
  show EndsK p e below _ (s₁.setTop (mkF m 3 #[.val (.int x0), .val (.int x1), .val (.int x2), .val (.int x3), .unset] [(.int (x0 &&& (3 : Int32)))]))
  refine EndsK.go (fun _ kz => XS.istore X0.here hx rfl (hb hby d1_3) rfl (l' := #[.val (.int x0), .val (.int x1), .val (.int x2), .val (.int x3), .val (.int (x0 &&& (3 : Int32)))]) rfl kz) ?_
  show EndsK p e below _ (s₁.setTop (mkF m 5 #[.val (.int x0), .val (.int x1), .val (.int x2), .val (.int x3), .val (.int (x0 &&& (3 : Int32)))] []))
  refine EndsK.go (fun _ kz => XS.iload X0.here hx rfl (hb hby d1_5) rfl kz) ?_
  show EndsK p e below _ (s₁.setTop (mkF m 7 #[.val (.int x0), .val (.int x1), .val (.int x2), .val (.int x3), .val (.int (x0 &&& (3 : Int32)))] [(.int (x0 &&& (3 : Int32)))]))
  by_cases H7_1 : (x0 &&& (3 : Int32)) = (0 : Int32)
  · refine EndsK.go (fun _ kz => XS.ifNo X0.here hx rfl (hb hby d1_7) rfl ((if0 _ _).trans (teq H7_1).2) kz) ?_
    show EndsK p e below _ (s₁.setTop (mkF m 10 #[.val (.int x0), .val (.int x1), .val (.int x2), .val (.int x3), .val (.int (x0 &&& (3 : Int32)))] []))
    refine EndsK.go (fun _ kz => XS.bipush X0.here hx rfl (hb hby d1_10) kz) ?_
    show EndsK p e below _ (s₁.setTop (mkF m 12 #[.val (.int x0), .val (.int x1), .val (.int x2), .val (.int x3), .val (.int (x0 &&& (3 : Int32)))] [(.int (37 : Int32))]))
    exact endI X0 hx Bd.returns (hb hby d1_12) hlk ⟨_, rfl, N0, e0⟩ (by decide) (by decide)
  · refine EndsK.go (fun _ kz => XS.ifYes X0.here hx rfl (pc0 := 7) (pc' := 13) rfl (hb hby d1_7) rfl ((if0 _ _).trans (feq H7_1).2) (by decide) (by decide) kz) ?_
    show EndsK p e below _ (s₁.setTop (mkF m 13 #[.val (.int x0), .val (.int x1), .val (.int x2), .val (.int x3), .val (.int (x0 &&& (3 : Int32)))] []))
    refine EndsK.go (fun _ kz => XS.iload X0.here hx rfl (hb hby d1_13) rfl kz) ?_
    show EndsK p e below _ (s₁.setTop (mkF m 15 #[.val (.int x0), .val (.int x1), .val (.int x2), .val (.int x3), .val (.int (x0 &&& (3 : Int32)))] [(.int (x0 &&& (3 : Int32)))]))
    refine EndsK.go (fun _ kz => XS.iconst X0.here hx rfl (hb hby d1_15) kz) ?_
    show EndsK p e below _ (s₁.setTop (mkF m 16 #[.val (.int x0), .val (.int x1), .val (.int x2), .val (.int x3), .val (.int (x0 &&& (3 : Int32)))] [(.int (1 : Int32)), (.int (x0 &&& (3 : Int32)))]))
    by_cases H16_2 : (x0 &&& (3 : Int32)) = (1 : Int32)
    · refine EndsK.go (fun _ kz => XS.icmpNo X0.here hx rfl (hb hby d1_16) rfl (teq H16_2).2 kz) ?_
      show EndsK p e below _ (s₁.setTop (mkF m 19 #[.val (.int x0), .val (.int x1), .val (.int x2), .val (.int x3), .val (.int (x0 &&& (3 : Int32)))] []))
      refine EndsK.go (fun _ kz => XS.iloadN X0.here hx rfl (hb hby d1_19) rfl kz) ?_
      show EndsK p e below _ (s₁.setTop (mkF m 20 #[.val (.int x0), .val (.int x1), .val (.int x2), .val (.int x3), .val (.int (x0 &&& (3 : Int32)))] [(.int x3)]))
      exact endI X0 hx Bd.returns (hb hby d1_20) hlk ⟨_, rfl, N0, e0⟩ (by decide) (by decide)
    · refine EndsK.go (fun _ kz => XS.icmpYes X0.here hx rfl (pc0 := 16) (pc' := 21) rfl (hb hby d1_16) rfl (feq H16_2).2 (by decide) (by decide) kz) ?_
      show EndsK p e below _ (s₁.setTop (mkF m 21 #[.val (.int x0), .val (.int x1), .val (.int x2), .val (.int x3), .val (.int (x0 &&& (3 : Int32)))] []))
      refine EndsK.go (fun _ kz => XS.iload X0.here hx rfl (hb hby d1_21) rfl kz) ?_
      show EndsK p e below _ (s₁.setTop (mkF m 23 #[.val (.int x0), .val (.int x1), .val (.int x2), .val (.int x3), .val (.int (x0 &&& (3 : Int32)))] [(.int (x0 &&& (3 : Int32)))]))
      refine EndsK.go (fun _ kz => XS.iconst X0.here hx rfl (hb hby d1_23) kz) ?_
      show EndsK p e below _ (s₁.setTop (mkF m 24 #[.val (.int x0), .val (.int x1), .val (.int x2), .val (.int x3), .val (.int (x0 &&& (3 : Int32)))] [(.int (2 : Int32)), (.int (x0 &&& (3 : Int32)))]))
      by_cases H24_3 : (x0 &&& (3 : Int32)) = (2 : Int32)
      · refine EndsK.go (fun _ kz => XS.icmpNo X0.here hx rfl (hb hby d1_24) rfl (teq H24_3).2 kz) ?_
        show EndsK p e below _ (s₁.setTop (mkF m 27 #[.val (.int x0), .val (.int x1), .val (.int x2), .val (.int x3), .val (.int (x0 &&& (3 : Int32)))] []))
        refine EndsK.go (fun _ kz => XS.iloadN X0.here hx rfl (hb hby d1_27) rfl kz) ?_
        show EndsK p e below _ (s₁.setTop (mkF m 28 #[.val (.int x0), .val (.int x1), .val (.int x2), .val (.int x3), .val (.int (x0 &&& (3 : Int32)))] [(.int x1)]))
        exact endI X0 hx Bd.returns (hb hby d1_28) hlk ⟨_, rfl, N0, e0⟩ (by decide) (by decide)
      · refine EndsK.go (fun _ kz => XS.icmpYes X0.here hx rfl (pc0 := 24) (pc' := 29) rfl (hb hby d1_24) rfl (feq H24_3).2 (by decide) (by decide) kz) ?_
        show EndsK p e below _ (s₁.setTop (mkF m 29 #[.val (.int x0), .val (.int x1), .val (.int x2), .val (.int x3), .val (.int (x0 &&& (3 : Int32)))] []))
        refine EndsK.go (fun _ kz => XS.iloadN X0.here hx rfl (hb hby d1_29) rfl kz) ?_
        show EndsK p e below _ (s₁.setTop (mkF m 30 #[.val (.int x0), .val (.int x1), .val (.int x2), .val (.int x3), .val (.int (x0 &&& (3 : Int32)))] [(.int x2)]))
        exact endI X0 hx Bd.returns (hb hby d1_30) hlk ⟨_, rfl, N0, e0⟩ (by decide) (by decide)
theorem d2_0 : decode method_4_code 0 = .ok (.iload_n 1, 1) := by decide +kernel
theorem d2_1 : decode method_4_code 1 = .ok (.newarray .int, 2) := by decide +kernel
theorem d2_3 : decode method_4_code 3 = .ok (.astore_n 2, 1) := by decide +kernel
theorem d2_4 : decode method_4_code 4 = .ok (.iload_n 1, 1) := by decide +kernel
theorem d2_5 : decode method_4_code 5 = .ok (.ifCond .le 9, 3) := by decide +kernel
theorem d2_8 : decode method_4_code 8 = .ok (.aload_n 2, 1) := by decide +kernel
theorem d2_9 : decode method_4_code 9 = .ok (.iconst 0, 1) := by decide +kernel
theorem d2_10 : decode method_4_code 10 = .ok (.aload_n 0, 1) := by decide +kernel
theorem d2_11 : decode method_4_code 11 = .ok (.iconst 0, 1) := by decide +kernel
theorem d2_12 : decode method_4_code 12 = .ok (.iaload, 1) := by decide +kernel
theorem d2_13 : decode method_4_code 13 = .ok (.iastore, 1) := by decide +kernel
theorem d2_14 : decode method_4_code 14 = .ok (.iload_n 1, 1) := by decide +kernel
theorem d2_15 : decode method_4_code 15 = .ok (.iconst 1, 1) := by decide +kernel
theorem d2_16 : decode method_4_code 16 = .ok (.if_icmp .le 9, 3) := by decide +kernel
theorem d2_19 : decode method_4_code 19 = .ok (.aload_n 2, 1) := by decide +kernel
theorem d2_20 : decode method_4_code 20 = .ok (.iconst 1, 1) := by decide +kernel
theorem d2_21 : decode method_4_code 21 = .ok (.aload_n 0, 1) := by decide +kernel
theorem d2_22 : decode method_4_code 22 = .ok (.iconst 1, 1) := by decide +kernel
theorem d2_23 : decode method_4_code 23 = .ok (.iaload, 1) := by decide +kernel
theorem d2_24 : decode method_4_code 24 = .ok (.iastore, 1) := by decide +kernel
theorem d2_25 : decode method_4_code 25 = .ok (.iload_n 1, 1) := by decide +kernel
theorem d2_26 : decode method_4_code 26 = .ok (.iconst 2, 1) := by decide +kernel
theorem d2_27 : decode method_4_code 27 = .ok (.if_icmp .le 9, 3) := by decide +kernel
theorem d2_30 : decode method_4_code 30 = .ok (.aload_n 2, 1) := by decide +kernel
theorem d2_31 : decode method_4_code 31 = .ok (.iconst 2, 1) := by decide +kernel
theorem d2_32 : decode method_4_code 32 = .ok (.aload_n 0, 1) := by decide +kernel
theorem d2_33 : decode method_4_code 33 = .ok (.iconst 2, 1) := by decide +kernel
theorem d2_34 : decode method_4_code 34 = .ok (.iaload, 1) := by decide +kernel
theorem d2_35 : decode method_4_code 35 = .ok (.iastore, 1) := by decide +kernel
theorem d2_36 : decode method_4_code 36 = .ok (.iload_n 1, 1) := by decide +kernel
theorem d2_37 : decode method_4_code 37 = .ok (.iconst 3, 1) := by decide +kernel
theorem d2_38 : decode method_4_code 38 = .ok (.if_icmp .le 9, 3) := by decide +kernel
theorem d2_41 : decode method_4_code 41 = .ok (.aload_n 2, 1) := by decide +kernel
theorem d2_42 : decode method_4_code 42 = .ok (.iconst 3, 1) := by decide +kernel
theorem d2_43 : decode method_4_code 43 = .ok (.aload_n 0, 1) := by decide +kernel
theorem d2_44 : decode method_4_code 44 = .ok (.iconst 3, 1) := by decide +kernel
theorem d2_45 : decode method_4_code 45 = .ok (.iaload, 1) := by decide +kernel
theorem d2_46 : decode method_4_code 46 = .ok (.iastore, 1) := by decide +kernel
theorem d2_47 : decode method_4_code 47 = .ok (.aload_n 2, 1) := by decide +kernel
theorem d2_48 : decode method_4_code 48 = .ok (.areturn, 1) := by decide +kernel
theorem ef_take (m : MethodId) (pa : Addr) (n : Int32) (kP : ClassId) (x0 : Int32) (x1 : Int32) (x2 : Int32) (x3 : Int32) : entryFrame m #[(.ref pa), (.int n)] 3 = mkF m 0 #[.val (.ref pa), .val (.int n), .unset] [] := by first | (simp [entryFrame, mkF, argsToLocals, Value.category]; done) | rfl
def Q_take (Z : State) (pa : Addr) (n : Int32) (kP : ClassId) (x0 : Int32) (x1 : Int32) (x2 : Int32) (x3 : Int32) (h0 : Heap) (n0 : Nat) (vz : Option Value) (hz : Heap) (Lz : List Loc) : Prop := ∃ (r : Nat) (kR : ClassId), vz = some (.ref r) ∧ Fr n0 Lz ∧ Ext h0 hz ∧ Arv Z hz r kR .int n (([x0, x1, x2, x3].take n.toNatClampNeg).map .int) (.int 0)
set_option maxRecDepth 65536 in
set_option maxHeartbeats 40000000 in
theorem rm_take (l : Launch) (Z : State) (a0 : Array Value) (hw : ∀ d ∈ tables_1, d.before a0 Z = true) (ws : List Jvm.Cond) (pa : Addr) (n : Int32) (kP : ClassId) (x0 : Int32) (x1 : Int32) (x2 : Int32) (x3 : Int32) (h0 : Heap) (n0 : Nat) (Z0 : n0 ≤ h0.size) (b0 : 0 ≤ n.toInt) (b1 : n.toInt ≤ 4) (VP : Arv Z h0 pa kP .int 4 [.int x0, .int x1, .int x2, .int x3] (.int 0)) :
    MetFree l (⟨"com/example/seshat/seshat/registry/WildcardsMatchesPinLaw", "take", "([II)[I"⟩ : MethodName) (head1 (Jvm.Cond.code (⟨"com/example/seshat/seshat/registry/WildcardsMatchesPinLaw", "take", "([II)[I"⟩ : MethodName) method_4_code 3 (some (.array .int)) :: ws) ({ frames := 0, cells := 1, slots := 4, locals := 0 } : Room)) (fun az Uz => az = #[(.ref pa), (.int n)] ∧ Z.Warmed39 Uz.vm ∧ Uz.heap = h0) (fun _ _ _ _ _ => True) (fun _ Uz oz Ut => ∃ vz Lz, oz = .returned vz ∧ Q_take Z pa n kP x0 x1 x2 x3 h0 n0 vz Ut.heap Lz ∧ FrameEnd Uz oz Ut Lz (({ frames := 0, cells := 1, slots := 4, locals := 0 } : Room)).cells (({ frames := 0, cells := 1, slots := 4, locals := 0 } : Room)).slots) := by
  refine MetFree.of_bodySF (plainFor_of_name pn0) hisR ?_
  intro p e s m args below meth c s₁ Bd hml0 hP hK
  obtain ⟨rfl, hZ, hh⟩ := hP
  have hx := Bd.exec
  have hby := Bd.bytes
  have hml : c.maxLocals = 3 := hml0
  have hown : s.vm.findClass "com/example/seshat/seshat/registry/WildcardsMatchesPinLaw" = some m.cls := findClass_of_methodNamed Bd.named
  have hnm := (name_of_methodNamed Bd.named Bd.method).1
  have hlk : meth.locks = false := Bd.notSynchronized
  have X0 : Stand p l e ({ frames := 0, cells := 1, slots := 4, locals := 0 } : Room) s m #[(.ref pa), (.int n)] below meth c s₁ [] 0 0 := Stand.of_body Bd
  have e0 : s₁.heap = h0 := by rw [← hh, Bd.state]; rfl
  have N0 := Fr.nil n0
  show EndsK p e below (OQ s (Q_take Z pa n kP x0 x1 x2 x3 h0 n0) (({ frames := 0, cells := 1, slots := 4, locals := 0 } : Room)).cells (({ frames := 0, cells := 1, slots := 4, locals := 0 } : Room)).slots) (s₁.setTop (entryFrame m #[(.ref pa), (.int n)] 3))
  refine EndsK.start (ef_take m pa n kP x0 x1 x2 x3) ?_
  obtain ⟨cP, AP, qP1, qP2, qP3, HP, GP⟩ := VP
  have P0 := ext_refl h0
  obtain rfl | rfl | rfl | rfl | rfl : n = 0 ∨ n = 1 ∨ n = 2 ∨ n = 3 ∨ n = 4 := by simp only [← Int32.toInt_inj]; have a0 : (0 : Int32).toInt = 0 := rfl; have a1 : (1 : Int32).toInt = 1 := rfl; have a2 : (2 : Int32).toInt = 2 := rfl; have a3 : (3 : Int32).toInt = 3 := rfl; have a4 : (4 : Int32).toInt = 4 := rfl; omega
  · show EndsK p e below _ (s₁.setTop (mkF m 0 #[.val (.ref pa), .val (.int (0 : Int32)), .unset] []))
    refine EndsK.go (fun _ kz => XS.iloadN X0.here hx rfl (hb hby d2_0) rfl kz) ?_
    show EndsK p e below _ (s₁.setTop (mkF m 1 #[.val (.ref pa), .val (.int (0 : Int32)), .unset] [(.int (0 : Int32))]))
    obtain ⟨T1, h1, c1, X1, e1, E1, A1, st1⟩ := newP X0 hx hZ (hw _ (List.mem_of_getElem? (i := 0) rfl)) e0 (g := (mkF m 1 #[.val (.ref pa), .val (.int (0 : Int32)), .unset] [(.int (0 : Int32))])) rfl (hb hby d2_1) rfl (by decide) (cap := 0) (by decide) (by decide) (by decide) (by decide)
    obtain ⟨r, g1⟩ : ∃ z, z = h0.size := ⟨_, rfl⟩
    rw [← g1] at A1 st1
    refine EndsK.go st1 ?_
    have A1_pa := AP.ext E1
    have V1 : Arv Z h1 r c1 .int (0 : Int32) [] (.int (0 : Int32)) := Arv.new A1 (by decide)
    have Y1 : Stand p l e ({ frames := 0, cells := 1, slots := 4, locals := 0 } : Room) s m #[.ref pa, .int (0 : Int32)] below meth c T1 [] 1 0 := X1
    have Z1 : n0 ≤ h1.size := Nat.le_trans Z0 E1.1
    have G1 : n0 ≤ r := by rw [g1]; exact Z0
    have P1 := ext_trans P0 E1
    have sz_r : h0.size ≤ r := by rw [g1]; exact P0.1
    have ne_pa_r : pa ≠ r := Nat.ne_of_lt (by rw [g1]; exact AP.lt)
    show EndsK p e below _ (T1.setTop (mkF m 3 #[.val (.ref pa), .val (.int (0 : Int32)), .unset] [(.ref r)]))
    refine EndsK.go (fun _ kz => XS.astoreN Y1.here hx rfl (hb hby d2_3) rfl rfl (l' := #[.val (.ref pa), .val (.int (0 : Int32)), .val (.ref r)]) rfl kz) ?_
    show EndsK p e below _ (T1.setTop (mkF m 4 #[.val (.ref pa), .val (.int (0 : Int32)), .val (.ref r)] []))
    refine EndsK.go (fun _ kz => XS.iloadN Y1.here hx rfl (hb hby d2_4) rfl kz) ?_
    show EndsK p e below _ (T1.setTop (mkF m 5 #[.val (.ref pa), .val (.int (0 : Int32)), .val (.ref r)] [(.int (0 : Int32))]))
    refine EndsK.go (fun _ kz => XS.ifYes Y1.here hx rfl (pc0 := 5) (pc' := 14) rfl (hb hby d2_5) rfl ((if0 _ _).trans (flt (by decide : ¬ ((0 : Int32) < (0 : Int32)))).2.2.2) (by decide) (by decide) kz) ?_
    show EndsK p e below _ (T1.setTop (mkF m 14 #[.val (.ref pa), .val (.int (0 : Int32)), .val (.ref r)] []))
    refine EndsK.go (fun _ kz => XS.iloadN Y1.here hx rfl (hb hby d2_14) rfl kz) ?_
    show EndsK p e below _ (T1.setTop (mkF m 15 #[.val (.ref pa), .val (.int (0 : Int32)), .val (.ref r)] [(.int (0 : Int32))]))
    refine EndsK.go (fun _ kz => XS.iconst Y1.here hx rfl (hb hby d2_15) kz) ?_
    show EndsK p e below _ (T1.setTop (mkF m 16 #[.val (.ref pa), .val (.int (0 : Int32)), .val (.ref r)] [(.int (1 : Int32)), (.int (0 : Int32))]))
    refine EndsK.go (fun _ kz => XS.icmpYes Y1.here hx rfl (pc0 := 16) (pc' := 25) rfl (hb hby d2_16) rfl (flt (by decide : ¬ ((1 : Int32) < (0 : Int32)))).2.2.2 (by decide) (by decide) kz) ?_
    show EndsK p e below _ (T1.setTop (mkF m 25 #[.val (.ref pa), .val (.int (0 : Int32)), .val (.ref r)] []))
    refine EndsK.go (fun _ kz => XS.iloadN Y1.here hx rfl (hb hby d2_25) rfl kz) ?_
    show EndsK p e below _ (T1.setTop (mkF m 26 #[.val (.ref pa), .val (.int (0 : Int32)), .val (.ref r)] [(.int (0 : Int32))]))
    refine EndsK.go (fun _ kz => XS.iconst Y1.here hx rfl (hb hby d2_26) kz) ?_
    show EndsK p e below _ (T1.setTop (mkF m 27 #[.val (.ref pa), .val (.int (0 : Int32)), .val (.ref r)] [(.int (2 : Int32)), (.int (0 : Int32))]))
    refine EndsK.go (fun _ kz => XS.icmpYes Y1.here hx rfl (pc0 := 27) (pc' := 36) rfl (hb hby d2_27) rfl (flt (by decide : ¬ ((2 : Int32) < (0 : Int32)))).2.2.2 (by decide) (by decide) kz) ?_
    show EndsK p e below _ (T1.setTop (mkF m 36 #[.val (.ref pa), .val (.int (0 : Int32)), .val (.ref r)] []))
    refine EndsK.go (fun _ kz => XS.iloadN Y1.here hx rfl (hb hby d2_36) rfl kz) ?_
    show EndsK p e below _ (T1.setTop (mkF m 37 #[.val (.ref pa), .val (.int (0 : Int32)), .val (.ref r)] [(.int (0 : Int32))]))
    refine EndsK.go (fun _ kz => XS.iconst Y1.here hx rfl (hb hby d2_37) kz) ?_
    show EndsK p e below _ (T1.setTop (mkF m 38 #[.val (.ref pa), .val (.int (0 : Int32)), .val (.ref r)] [(.int (3 : Int32)), (.int (0 : Int32))]))
    refine EndsK.go (fun _ kz => XS.icmpYes Y1.here hx rfl (pc0 := 38) (pc' := 47) rfl (hb hby d2_38) rfl (flt (by decide : ¬ ((3 : Int32) < (0 : Int32)))).2.2.2 (by decide) (by decide) kz) ?_
    show EndsK p e below _ (T1.setTop (mkF m 47 #[.val (.ref pa), .val (.int (0 : Int32)), .val (.ref r)] []))
    refine EndsK.go (fun _ kz => XS.aloadN Y1.here hx rfl (hb hby d2_47) rfl rfl kz) ?_
    show EndsK p e below _ (T1.setTop (mkF m 48 #[.val (.ref pa), .val (.int (0 : Int32)), .val (.ref r)] [(.ref r)]))
    exact endR Y1 hx Bd.returns rfl rfl (hb hby d2_48) hlk ⟨r, c1, rfl, N0, by rw [e1]; exact P1, by rw [e1]; exact V1⟩ (by decide) (by decide)
  · show EndsK p e below _ (s₁.setTop (mkF m 0 #[.val (.ref pa), .val (.int (1 : Int32)), .unset] []))
    refine EndsK.go (fun _ kz => XS.iloadN X0.here hx rfl (hb hby d2_0) rfl kz) ?_
    show EndsK p e below _ (s₁.setTop (mkF m 1 #[.val (.ref pa), .val (.int (1 : Int32)), .unset] [(.int (1 : Int32))]))
    obtain ⟨T1, h1, c1, X1, e1, E1, A1, st1⟩ := newP X0 hx hZ (hw _ (List.mem_of_getElem? (i := 0) rfl)) e0 (g := (mkF m 1 #[.val (.ref pa), .val (.int (1 : Int32)), .unset] [(.int (1 : Int32))])) rfl (hb hby d2_1) rfl (by decide) (cap := 1) (by decide) (by decide) (by decide) (by decide)
    obtain ⟨r, g1⟩ : ∃ z, z = h0.size := ⟨_, rfl⟩
    rw [← g1] at A1 st1
    refine EndsK.go st1 ?_
    have A1_pa := AP.ext E1
    have V1 : Arv Z h1 r c1 .int (1 : Int32) [(.int (0 : Int32))] (.int (0 : Int32)) := (Arv.new A1 (by decide)).pad (pad_rep [] (.int (0 : Int32)) 1)
    have Y1 : Stand p l e ({ frames := 0, cells := 1, slots := 4, locals := 0 } : Room) s m #[.ref pa, .int (1 : Int32)] below meth c T1 [] 1 1 := X1
    have Z1 : n0 ≤ h1.size := Nat.le_trans Z0 E1.1
    have G1 : n0 ≤ r := by rw [g1]; exact Z0
    have P1 := ext_trans P0 E1
    have sz_r : h0.size ≤ r := by rw [g1]; exact P0.1
    have ne_pa_r : pa ≠ r := Nat.ne_of_lt (by rw [g1]; exact AP.lt)
    show EndsK p e below _ (T1.setTop (mkF m 3 #[.val (.ref pa), .val (.int (1 : Int32)), .unset] [(.ref r)]))
    refine EndsK.go (fun _ kz => XS.astoreN Y1.here hx rfl (hb hby d2_3) rfl rfl (l' := #[.val (.ref pa), .val (.int (1 : Int32)), .val (.ref r)]) rfl kz) ?_
    show EndsK p e below _ (T1.setTop (mkF m 4 #[.val (.ref pa), .val (.int (1 : Int32)), .val (.ref r)] []))
    refine EndsK.go (fun _ kz => XS.iloadN Y1.here hx rfl (hb hby d2_4) rfl kz) ?_
    show EndsK p e below _ (T1.setTop (mkF m 5 #[.val (.ref pa), .val (.int (1 : Int32)), .val (.ref r)] [(.int (1 : Int32))]))
    refine EndsK.go (fun _ kz => XS.ifNo Y1.here hx rfl (hb hby d2_5) rfl ((if0 _ _).trans (tlt (by decide : (0 : Int32) < (1 : Int32))).2.2.2) kz) ?_
    show EndsK p e below _ (T1.setTop (mkF m 8 #[.val (.ref pa), .val (.int (1 : Int32)), .val (.ref r)] []))
    refine EndsK.go (fun _ kz => XS.aloadN Y1.here hx rfl (hb hby d2_8) rfl rfl kz) ?_
    show EndsK p e below _ (T1.setTop (mkF m 9 #[.val (.ref pa), .val (.int (1 : Int32)), .val (.ref r)] [(.ref r)]))
    refine EndsK.go (fun _ kz => XS.iconst Y1.here hx rfl (hb hby d2_9) kz) ?_
    show EndsK p e below _ (T1.setTop (mkF m 10 #[.val (.ref pa), .val (.int (1 : Int32)), .val (.ref r)] [(.int (0 : Int32)), (.ref r)]))
    refine EndsK.go (fun _ kz => XS.aloadN Y1.here hx rfl (hb hby d2_10) rfl rfl kz) ?_
    show EndsK p e below _ (T1.setTop (mkF m 11 #[.val (.ref pa), .val (.int (1 : Int32)), .val (.ref r)] [(.ref pa), (.int (0 : Int32)), (.ref r)]))
    refine EndsK.go (fun _ kz => XS.iconst Y1.here hx rfl (hb hby d2_11) kz) ?_
    show EndsK p e below _ (T1.setTop (mkF m 12 #[.val (.ref pa), .val (.int (1 : Int32)), .val (.ref r)] [(.int (0 : Int32)), (.ref pa), (.int (0 : Int32)), (.ref r)]))
    refine EndsK.go (fun tz kz => Y1.iaload hx (j := (0 : Int32)) (v := (.int x0)) (by rw [e1]; exact A1_pa.1) (State.isArrayOf_alike hZ.alike A1_pa.2.1) A1_pa.2.2 (inb_of qP2 ⟨by decide, by decide⟩) (Has.at HP (inb_of qP2 ⟨by decide, by decide⟩) (rfl : ([.int x0, .int x1, .int x2, .int x3] : List Value).getD (0 : Int32).toNatClampNeg (.int 0) = .int x0)) (g := (mkF m 12 #[.val (.ref pa), .val (.int (1 : Int32)), .val (.ref r)] [(.int (0 : Int32)), (.ref pa), (.int (0 : Int32)), (.ref r)])) rfl rfl (hb hby d2_12) tz kz) ?_
    show EndsK p e below _ (T1.setTop (mkF m 13 #[.val (.ref pa), .val (.int (1 : Int32)), .val (.ref r)] [(.int x0), (.int (0 : Int32)), (.ref r)]))
    obtain ⟨c2, B2, q12, Sz2, q32, Hh2, Gh2⟩ := V1
    obtain ⟨T2, h2, X2, e2, W2, st2⟩ := stI Y1 hx hZ e1 B2 (j := (0 : Int32)) (inb_of Sz2 ⟨by decide, by decide⟩) (g := (mkF m 13 #[.val (.ref pa), .val (.int (1 : Int32)), .val (.ref r)] [(.int x0), (.int (0 : Int32)), (.ref r)])) rfl rfl (hb hby d2_13)
    have V2 : Arv Z h2 r c1 .int (1 : Int32) [(.int x0)] (.int (0 : Int32)) := Arv.set B2 q12 Sz2 q32 Hh2 Gh2 rfl W2 0 rfl (Nat.le_of_ble_eq_true rfl)
    refine EndsK.go st2 ?_
    have A2_pa := A1_pa.other W2 ne_pa_r
    have Z2 : n0 ≤ h2.size := Nat.le_trans Z1 (Nat.le_of_eq W2.size.symm)
    have P2 := ext_wr P1 W2 sz_r
    have Y2 : Stand p l e ({ frames := 0, cells := 1, slots := 4, locals := 0 } : Room) s m #[.ref pa, .int (1 : Int32)] below meth c T2 [] 1 1 := (X2.dropFresh (fun xz hxz => by cases List.mem_singleton.mp hxz; rw [hh]; exact sz_r)).mono (by decide) (by decide)
    show EndsK p e below _ (T2.setTop (mkF m 14 #[.val (.ref pa), .val (.int (1 : Int32)), .val (.ref r)] []))
    refine EndsK.go (fun _ kz => XS.iloadN Y2.here hx rfl (hb hby d2_14) rfl kz) ?_
    show EndsK p e below _ (T2.setTop (mkF m 15 #[.val (.ref pa), .val (.int (1 : Int32)), .val (.ref r)] [(.int (1 : Int32))]))
    refine EndsK.go (fun _ kz => XS.iconst Y2.here hx rfl (hb hby d2_15) kz) ?_
    show EndsK p e below _ (T2.setTop (mkF m 16 #[.val (.ref pa), .val (.int (1 : Int32)), .val (.ref r)] [(.int (1 : Int32)), (.int (1 : Int32))]))
    refine EndsK.go (fun _ kz => XS.icmpYes Y2.here hx rfl (pc0 := 16) (pc' := 25) rfl (hb hby d2_16) rfl (flt (by decide : ¬ ((1 : Int32) < (1 : Int32)))).2.2.2 (by decide) (by decide) kz) ?_
    show EndsK p e below _ (T2.setTop (mkF m 25 #[.val (.ref pa), .val (.int (1 : Int32)), .val (.ref r)] []))
    refine EndsK.go (fun _ kz => XS.iloadN Y2.here hx rfl (hb hby d2_25) rfl kz) ?_
    show EndsK p e below _ (T2.setTop (mkF m 26 #[.val (.ref pa), .val (.int (1 : Int32)), .val (.ref r)] [(.int (1 : Int32))]))
    refine EndsK.go (fun _ kz => XS.iconst Y2.here hx rfl (hb hby d2_26) kz) ?_
    show EndsK p e below _ (T2.setTop (mkF m 27 #[.val (.ref pa), .val (.int (1 : Int32)), .val (.ref r)] [(.int (2 : Int32)), (.int (1 : Int32))]))
    refine EndsK.go (fun _ kz => XS.icmpYes Y2.here hx rfl (pc0 := 27) (pc' := 36) rfl (hb hby d2_27) rfl (flt (by decide : ¬ ((2 : Int32) < (1 : Int32)))).2.2.2 (by decide) (by decide) kz) ?_
    show EndsK p e below _ (T2.setTop (mkF m 36 #[.val (.ref pa), .val (.int (1 : Int32)), .val (.ref r)] []))
    refine EndsK.go (fun _ kz => XS.iloadN Y2.here hx rfl (hb hby d2_36) rfl kz) ?_
    show EndsK p e below _ (T2.setTop (mkF m 37 #[.val (.ref pa), .val (.int (1 : Int32)), .val (.ref r)] [(.int (1 : Int32))]))
    refine EndsK.go (fun _ kz => XS.iconst Y2.here hx rfl (hb hby d2_37) kz) ?_
    show EndsK p e below _ (T2.setTop (mkF m 38 #[.val (.ref pa), .val (.int (1 : Int32)), .val (.ref r)] [(.int (3 : Int32)), (.int (1 : Int32))]))
    refine EndsK.go (fun _ kz => XS.icmpYes Y2.here hx rfl (pc0 := 38) (pc' := 47) rfl (hb hby d2_38) rfl (flt (by decide : ¬ ((3 : Int32) < (1 : Int32)))).2.2.2 (by decide) (by decide) kz) ?_
    show EndsK p e below _ (T2.setTop (mkF m 47 #[.val (.ref pa), .val (.int (1 : Int32)), .val (.ref r)] []))
    refine EndsK.go (fun _ kz => XS.aloadN Y2.here hx rfl (hb hby d2_47) rfl rfl kz) ?_
    show EndsK p e below _ (T2.setTop (mkF m 48 #[.val (.ref pa), .val (.int (1 : Int32)), .val (.ref r)] [(.ref r)]))
    exact endR Y2 hx Bd.returns rfl rfl (hb hby d2_48) hlk ⟨r, c1, rfl, N0, by rw [e2]; exact P2, by rw [e2]; exact V2⟩ (by decide) (by decide)
  · show EndsK p e below _ (s₁.setTop (mkF m 0 #[.val (.ref pa), .val (.int (2 : Int32)), .unset] []))
    refine EndsK.go (fun _ kz => XS.iloadN X0.here hx rfl (hb hby d2_0) rfl kz) ?_
    show EndsK p e below _ (s₁.setTop (mkF m 1 #[.val (.ref pa), .val (.int (2 : Int32)), .unset] [(.int (2 : Int32))]))
    obtain ⟨T1, h1, c1, X1, e1, E1, A1, st1⟩ := newP X0 hx hZ (hw _ (List.mem_of_getElem? (i := 0) rfl)) e0 (g := (mkF m 1 #[.val (.ref pa), .val (.int (2 : Int32)), .unset] [(.int (2 : Int32))])) rfl (hb hby d2_1) rfl (by decide) (cap := 2) (by decide) (by decide) (by decide) (by decide)
    obtain ⟨r, g1⟩ : ∃ z, z = h0.size := ⟨_, rfl⟩
    rw [← g1] at A1 st1
    refine EndsK.go st1 ?_
    have A1_pa := AP.ext E1
    have V1 : Arv Z h1 r c1 .int (2 : Int32) [(.int (0 : Int32)), (.int (0 : Int32))] (.int (0 : Int32)) := (Arv.new A1 (by decide)).pad (pad_rep [] (.int (0 : Int32)) 2)
    have Y1 : Stand p l e ({ frames := 0, cells := 1, slots := 4, locals := 0 } : Room) s m #[.ref pa, .int (2 : Int32)] below meth c T1 [] 1 2 := X1
    have Z1 : n0 ≤ h1.size := Nat.le_trans Z0 E1.1
    have G1 : n0 ≤ r := by rw [g1]; exact Z0
    have P1 := ext_trans P0 E1
    have sz_r : h0.size ≤ r := by rw [g1]; exact P0.1
    have ne_pa_r : pa ≠ r := Nat.ne_of_lt (by rw [g1]; exact AP.lt)
    show EndsK p e below _ (T1.setTop (mkF m 3 #[.val (.ref pa), .val (.int (2 : Int32)), .unset] [(.ref r)]))
    refine EndsK.go (fun _ kz => XS.astoreN Y1.here hx rfl (hb hby d2_3) rfl rfl (l' := #[.val (.ref pa), .val (.int (2 : Int32)), .val (.ref r)]) rfl kz) ?_
    show EndsK p e below _ (T1.setTop (mkF m 4 #[.val (.ref pa), .val (.int (2 : Int32)), .val (.ref r)] []))
    refine EndsK.go (fun _ kz => XS.iloadN Y1.here hx rfl (hb hby d2_4) rfl kz) ?_
    show EndsK p e below _ (T1.setTop (mkF m 5 #[.val (.ref pa), .val (.int (2 : Int32)), .val (.ref r)] [(.int (2 : Int32))]))
    refine EndsK.go (fun _ kz => XS.ifNo Y1.here hx rfl (hb hby d2_5) rfl ((if0 _ _).trans (tlt (by decide : (0 : Int32) < (2 : Int32))).2.2.2) kz) ?_
    show EndsK p e below _ (T1.setTop (mkF m 8 #[.val (.ref pa), .val (.int (2 : Int32)), .val (.ref r)] []))
    refine EndsK.go (fun _ kz => XS.aloadN Y1.here hx rfl (hb hby d2_8) rfl rfl kz) ?_
    show EndsK p e below _ (T1.setTop (mkF m 9 #[.val (.ref pa), .val (.int (2 : Int32)), .val (.ref r)] [(.ref r)]))
    refine EndsK.go (fun _ kz => XS.iconst Y1.here hx rfl (hb hby d2_9) kz) ?_
    show EndsK p e below _ (T1.setTop (mkF m 10 #[.val (.ref pa), .val (.int (2 : Int32)), .val (.ref r)] [(.int (0 : Int32)), (.ref r)]))
    refine EndsK.go (fun _ kz => XS.aloadN Y1.here hx rfl (hb hby d2_10) rfl rfl kz) ?_
    show EndsK p e below _ (T1.setTop (mkF m 11 #[.val (.ref pa), .val (.int (2 : Int32)), .val (.ref r)] [(.ref pa), (.int (0 : Int32)), (.ref r)]))
    refine EndsK.go (fun _ kz => XS.iconst Y1.here hx rfl (hb hby d2_11) kz) ?_
    show EndsK p e below _ (T1.setTop (mkF m 12 #[.val (.ref pa), .val (.int (2 : Int32)), .val (.ref r)] [(.int (0 : Int32)), (.ref pa), (.int (0 : Int32)), (.ref r)]))
    refine EndsK.go (fun tz kz => Y1.iaload hx (j := (0 : Int32)) (v := (.int x0)) (by rw [e1]; exact A1_pa.1) (State.isArrayOf_alike hZ.alike A1_pa.2.1) A1_pa.2.2 (inb_of qP2 ⟨by decide, by decide⟩) (Has.at HP (inb_of qP2 ⟨by decide, by decide⟩) (rfl : ([.int x0, .int x1, .int x2, .int x3] : List Value).getD (0 : Int32).toNatClampNeg (.int 0) = .int x0)) (g := (mkF m 12 #[.val (.ref pa), .val (.int (2 : Int32)), .val (.ref r)] [(.int (0 : Int32)), (.ref pa), (.int (0 : Int32)), (.ref r)])) rfl rfl (hb hby d2_12) tz kz) ?_
    show EndsK p e below _ (T1.setTop (mkF m 13 #[.val (.ref pa), .val (.int (2 : Int32)), .val (.ref r)] [(.int x0), (.int (0 : Int32)), (.ref r)]))
    obtain ⟨c2, B2, q12, Sz2, q32, Hh2, Gh2⟩ := V1
    obtain ⟨T2, h2, X2, e2, W2, st2⟩ := stI Y1 hx hZ e1 B2 (j := (0 : Int32)) (inb_of Sz2 ⟨by decide, by decide⟩) (g := (mkF m 13 #[.val (.ref pa), .val (.int (2 : Int32)), .val (.ref r)] [(.int x0), (.int (0 : Int32)), (.ref r)])) rfl rfl (hb hby d2_13)
    have V2 : Arv Z h2 r c1 .int (2 : Int32) [(.int x0), (.int (0 : Int32))] (.int (0 : Int32)) := Arv.set B2 q12 Sz2 q32 Hh2 Gh2 rfl W2 0 rfl (Nat.le_of_ble_eq_true rfl)
    refine EndsK.go st2 ?_
    have A2_pa := A1_pa.other W2 ne_pa_r
    have Z2 : n0 ≤ h2.size := Nat.le_trans Z1 (Nat.le_of_eq W2.size.symm)
    have P2 := ext_wr P1 W2 sz_r
    have Y2 : Stand p l e ({ frames := 0, cells := 1, slots := 4, locals := 0 } : Room) s m #[.ref pa, .int (2 : Int32)] below meth c T2 [] 1 2 := (X2.dropFresh (fun xz hxz => by cases List.mem_singleton.mp hxz; rw [hh]; exact sz_r)).mono (by decide) (by decide)
    show EndsK p e below _ (T2.setTop (mkF m 14 #[.val (.ref pa), .val (.int (2 : Int32)), .val (.ref r)] []))
    refine EndsK.go (fun _ kz => XS.iloadN Y2.here hx rfl (hb hby d2_14) rfl kz) ?_
    show EndsK p e below _ (T2.setTop (mkF m 15 #[.val (.ref pa), .val (.int (2 : Int32)), .val (.ref r)] [(.int (2 : Int32))]))
    refine EndsK.go (fun _ kz => XS.iconst Y2.here hx rfl (hb hby d2_15) kz) ?_
    show EndsK p e below _ (T2.setTop (mkF m 16 #[.val (.ref pa), .val (.int (2 : Int32)), .val (.ref r)] [(.int (1 : Int32)), (.int (2 : Int32))]))
    refine EndsK.go (fun _ kz => XS.icmpNo Y2.here hx rfl (hb hby d2_16) rfl (tlt (by decide : (1 : Int32) < (2 : Int32))).2.2.2 kz) ?_
    show EndsK p e below _ (T2.setTop (mkF m 19 #[.val (.ref pa), .val (.int (2 : Int32)), .val (.ref r)] []))
    refine EndsK.go (fun _ kz => XS.aloadN Y2.here hx rfl (hb hby d2_19) rfl rfl kz) ?_
    show EndsK p e below _ (T2.setTop (mkF m 20 #[.val (.ref pa), .val (.int (2 : Int32)), .val (.ref r)] [(.ref r)]))
    refine EndsK.go (fun _ kz => XS.iconst Y2.here hx rfl (hb hby d2_20) kz) ?_
    show EndsK p e below _ (T2.setTop (mkF m 21 #[.val (.ref pa), .val (.int (2 : Int32)), .val (.ref r)] [(.int (1 : Int32)), (.ref r)]))
    refine EndsK.go (fun _ kz => XS.aloadN Y2.here hx rfl (hb hby d2_21) rfl rfl kz) ?_
    show EndsK p e below _ (T2.setTop (mkF m 22 #[.val (.ref pa), .val (.int (2 : Int32)), .val (.ref r)] [(.ref pa), (.int (1 : Int32)), (.ref r)]))
    refine EndsK.go (fun _ kz => XS.iconst Y2.here hx rfl (hb hby d2_22) kz) ?_
    show EndsK p e below _ (T2.setTop (mkF m 23 #[.val (.ref pa), .val (.int (2 : Int32)), .val (.ref r)] [(.int (1 : Int32)), (.ref pa), (.int (1 : Int32)), (.ref r)]))
    refine EndsK.go (fun tz kz => Y2.iaload hx (j := (1 : Int32)) (v := (.int x1)) (by rw [e2]; exact A2_pa.1) (State.isArrayOf_alike hZ.alike A2_pa.2.1) A2_pa.2.2 (inb_of qP2 ⟨by decide, by decide⟩) (Has.at HP (inb_of qP2 ⟨by decide, by decide⟩) (rfl : ([.int x0, .int x1, .int x2, .int x3] : List Value).getD (1 : Int32).toNatClampNeg (.int 0) = .int x1)) (g := (mkF m 23 #[.val (.ref pa), .val (.int (2 : Int32)), .val (.ref r)] [(.int (1 : Int32)), (.ref pa), (.int (1 : Int32)), (.ref r)])) rfl rfl (hb hby d2_23) tz kz) ?_
    show EndsK p e below _ (T2.setTop (mkF m 24 #[.val (.ref pa), .val (.int (2 : Int32)), .val (.ref r)] [(.int x1), (.int (1 : Int32)), (.ref r)]))
    obtain ⟨c3, B3, q13, Sz3, q33, Hh3, Gh3⟩ := V2
    obtain ⟨T3, h3, X3, e3, W3, st3⟩ := stI Y2 hx hZ e2 B3 (j := (1 : Int32)) (inb_of Sz3 ⟨by decide, by decide⟩) (g := (mkF m 24 #[.val (.ref pa), .val (.int (2 : Int32)), .val (.ref r)] [(.int x1), (.int (1 : Int32)), (.ref r)])) rfl rfl (hb hby d2_24)
    have V3 : Arv Z h3 r c1 .int (2 : Int32) [(.int x0), (.int x1)] (.int (0 : Int32)) := Arv.set B3 q13 Sz3 q33 Hh3 Gh3 rfl W3 1 rfl (Nat.le_of_ble_eq_true rfl)
    refine EndsK.go st3 ?_
    have A3_pa := A2_pa.other W3 ne_pa_r
    have Z3 : n0 ≤ h3.size := Nat.le_trans Z2 (Nat.le_of_eq W3.size.symm)
    have P3 := ext_wr P2 W3 sz_r
    have Y3 : Stand p l e ({ frames := 0, cells := 1, slots := 4, locals := 0 } : Room) s m #[.ref pa, .int (2 : Int32)] below meth c T3 [] 1 2 := (X3.dropFresh (fun xz hxz => by cases List.mem_singleton.mp hxz; rw [hh]; exact sz_r)).mono (by decide) (by decide)
    show EndsK p e below _ (T3.setTop (mkF m 25 #[.val (.ref pa), .val (.int (2 : Int32)), .val (.ref r)] []))
    refine EndsK.go (fun _ kz => XS.iloadN Y3.here hx rfl (hb hby d2_25) rfl kz) ?_
    show EndsK p e below _ (T3.setTop (mkF m 26 #[.val (.ref pa), .val (.int (2 : Int32)), .val (.ref r)] [(.int (2 : Int32))]))
    refine EndsK.go (fun _ kz => XS.iconst Y3.here hx rfl (hb hby d2_26) kz) ?_
    show EndsK p e below _ (T3.setTop (mkF m 27 #[.val (.ref pa), .val (.int (2 : Int32)), .val (.ref r)] [(.int (2 : Int32)), (.int (2 : Int32))]))
    refine EndsK.go (fun _ kz => XS.icmpYes Y3.here hx rfl (pc0 := 27) (pc' := 36) rfl (hb hby d2_27) rfl (flt (by decide : ¬ ((2 : Int32) < (2 : Int32)))).2.2.2 (by decide) (by decide) kz) ?_
    show EndsK p e below _ (T3.setTop (mkF m 36 #[.val (.ref pa), .val (.int (2 : Int32)), .val (.ref r)] []))
    refine EndsK.go (fun _ kz => XS.iloadN Y3.here hx rfl (hb hby d2_36) rfl kz) ?_
    show EndsK p e below _ (T3.setTop (mkF m 37 #[.val (.ref pa), .val (.int (2 : Int32)), .val (.ref r)] [(.int (2 : Int32))]))
    refine EndsK.go (fun _ kz => XS.iconst Y3.here hx rfl (hb hby d2_37) kz) ?_
    show EndsK p e below _ (T3.setTop (mkF m 38 #[.val (.ref pa), .val (.int (2 : Int32)), .val (.ref r)] [(.int (3 : Int32)), (.int (2 : Int32))]))
    refine EndsK.go (fun _ kz => XS.icmpYes Y3.here hx rfl (pc0 := 38) (pc' := 47) rfl (hb hby d2_38) rfl (flt (by decide : ¬ ((3 : Int32) < (2 : Int32)))).2.2.2 (by decide) (by decide) kz) ?_
    show EndsK p e below _ (T3.setTop (mkF m 47 #[.val (.ref pa), .val (.int (2 : Int32)), .val (.ref r)] []))
    refine EndsK.go (fun _ kz => XS.aloadN Y3.here hx rfl (hb hby d2_47) rfl rfl kz) ?_
    show EndsK p e below _ (T3.setTop (mkF m 48 #[.val (.ref pa), .val (.int (2 : Int32)), .val (.ref r)] [(.ref r)]))
    exact endR Y3 hx Bd.returns rfl rfl (hb hby d2_48) hlk ⟨r, c1, rfl, N0, by rw [e3]; exact P3, by rw [e3]; exact V3⟩ (by decide) (by decide)
  · show EndsK p e below _ (s₁.setTop (mkF m 0 #[.val (.ref pa), .val (.int (3 : Int32)), .unset] []))
    refine EndsK.go (fun _ kz => XS.iloadN X0.here hx rfl (hb hby d2_0) rfl kz) ?_
    show EndsK p e below _ (s₁.setTop (mkF m 1 #[.val (.ref pa), .val (.int (3 : Int32)), .unset] [(.int (3 : Int32))]))
    obtain ⟨T1, h1, c1, X1, e1, E1, A1, st1⟩ := newP X0 hx hZ (hw _ (List.mem_of_getElem? (i := 0) rfl)) e0 (g := (mkF m 1 #[.val (.ref pa), .val (.int (3 : Int32)), .unset] [(.int (3 : Int32))])) rfl (hb hby d2_1) rfl (by decide) (cap := 3) (by decide) (by decide) (by decide) (by decide)
    obtain ⟨r, g1⟩ : ∃ z, z = h0.size := ⟨_, rfl⟩
    rw [← g1] at A1 st1
    refine EndsK.go st1 ?_
    have A1_pa := AP.ext E1
    have V1 : Arv Z h1 r c1 .int (3 : Int32) [(.int (0 : Int32)), (.int (0 : Int32)), (.int (0 : Int32))] (.int (0 : Int32)) := (Arv.new A1 (by decide)).pad (pad_rep [] (.int (0 : Int32)) 3)
    have Y1 : Stand p l e ({ frames := 0, cells := 1, slots := 4, locals := 0 } : Room) s m #[.ref pa, .int (3 : Int32)] below meth c T1 [] 1 3 := X1
    have Z1 : n0 ≤ h1.size := Nat.le_trans Z0 E1.1
    have G1 : n0 ≤ r := by rw [g1]; exact Z0
    have P1 := ext_trans P0 E1
    have sz_r : h0.size ≤ r := by rw [g1]; exact P0.1
    have ne_pa_r : pa ≠ r := Nat.ne_of_lt (by rw [g1]; exact AP.lt)
    show EndsK p e below _ (T1.setTop (mkF m 3 #[.val (.ref pa), .val (.int (3 : Int32)), .unset] [(.ref r)]))
    refine EndsK.go (fun _ kz => XS.astoreN Y1.here hx rfl (hb hby d2_3) rfl rfl (l' := #[.val (.ref pa), .val (.int (3 : Int32)), .val (.ref r)]) rfl kz) ?_
    show EndsK p e below _ (T1.setTop (mkF m 4 #[.val (.ref pa), .val (.int (3 : Int32)), .val (.ref r)] []))
    refine EndsK.go (fun _ kz => XS.iloadN Y1.here hx rfl (hb hby d2_4) rfl kz) ?_
    show EndsK p e below _ (T1.setTop (mkF m 5 #[.val (.ref pa), .val (.int (3 : Int32)), .val (.ref r)] [(.int (3 : Int32))]))
    refine EndsK.go (fun _ kz => XS.ifNo Y1.here hx rfl (hb hby d2_5) rfl ((if0 _ _).trans (tlt (by decide : (0 : Int32) < (3 : Int32))).2.2.2) kz) ?_
    show EndsK p e below _ (T1.setTop (mkF m 8 #[.val (.ref pa), .val (.int (3 : Int32)), .val (.ref r)] []))
    refine EndsK.go (fun _ kz => XS.aloadN Y1.here hx rfl (hb hby d2_8) rfl rfl kz) ?_
    show EndsK p e below _ (T1.setTop (mkF m 9 #[.val (.ref pa), .val (.int (3 : Int32)), .val (.ref r)] [(.ref r)]))
    refine EndsK.go (fun _ kz => XS.iconst Y1.here hx rfl (hb hby d2_9) kz) ?_
    show EndsK p e below _ (T1.setTop (mkF m 10 #[.val (.ref pa), .val (.int (3 : Int32)), .val (.ref r)] [(.int (0 : Int32)), (.ref r)]))
    refine EndsK.go (fun _ kz => XS.aloadN Y1.here hx rfl (hb hby d2_10) rfl rfl kz) ?_
    show EndsK p e below _ (T1.setTop (mkF m 11 #[.val (.ref pa), .val (.int (3 : Int32)), .val (.ref r)] [(.ref pa), (.int (0 : Int32)), (.ref r)]))
    refine EndsK.go (fun _ kz => XS.iconst Y1.here hx rfl (hb hby d2_11) kz) ?_
    show EndsK p e below _ (T1.setTop (mkF m 12 #[.val (.ref pa), .val (.int (3 : Int32)), .val (.ref r)] [(.int (0 : Int32)), (.ref pa), (.int (0 : Int32)), (.ref r)]))
    refine EndsK.go (fun tz kz => Y1.iaload hx (j := (0 : Int32)) (v := (.int x0)) (by rw [e1]; exact A1_pa.1) (State.isArrayOf_alike hZ.alike A1_pa.2.1) A1_pa.2.2 (inb_of qP2 ⟨by decide, by decide⟩) (Has.at HP (inb_of qP2 ⟨by decide, by decide⟩) (rfl : ([.int x0, .int x1, .int x2, .int x3] : List Value).getD (0 : Int32).toNatClampNeg (.int 0) = .int x0)) (g := (mkF m 12 #[.val (.ref pa), .val (.int (3 : Int32)), .val (.ref r)] [(.int (0 : Int32)), (.ref pa), (.int (0 : Int32)), (.ref r)])) rfl rfl (hb hby d2_12) tz kz) ?_
    show EndsK p e below _ (T1.setTop (mkF m 13 #[.val (.ref pa), .val (.int (3 : Int32)), .val (.ref r)] [(.int x0), (.int (0 : Int32)), (.ref r)]))
    obtain ⟨c2, B2, q12, Sz2, q32, Hh2, Gh2⟩ := V1
    obtain ⟨T2, h2, X2, e2, W2, st2⟩ := stI Y1 hx hZ e1 B2 (j := (0 : Int32)) (inb_of Sz2 ⟨by decide, by decide⟩) (g := (mkF m 13 #[.val (.ref pa), .val (.int (3 : Int32)), .val (.ref r)] [(.int x0), (.int (0 : Int32)), (.ref r)])) rfl rfl (hb hby d2_13)
    have V2 : Arv Z h2 r c1 .int (3 : Int32) [(.int x0), (.int (0 : Int32)), (.int (0 : Int32))] (.int (0 : Int32)) := Arv.set B2 q12 Sz2 q32 Hh2 Gh2 rfl W2 0 rfl (Nat.le_of_ble_eq_true rfl)
    refine EndsK.go st2 ?_
    have A2_pa := A1_pa.other W2 ne_pa_r
    have Z2 : n0 ≤ h2.size := Nat.le_trans Z1 (Nat.le_of_eq W2.size.symm)
    have P2 := ext_wr P1 W2 sz_r
    have Y2 : Stand p l e ({ frames := 0, cells := 1, slots := 4, locals := 0 } : Room) s m #[.ref pa, .int (3 : Int32)] below meth c T2 [] 1 3 := (X2.dropFresh (fun xz hxz => by cases List.mem_singleton.mp hxz; rw [hh]; exact sz_r)).mono (by decide) (by decide)
    show EndsK p e below _ (T2.setTop (mkF m 14 #[.val (.ref pa), .val (.int (3 : Int32)), .val (.ref r)] []))
    refine EndsK.go (fun _ kz => XS.iloadN Y2.here hx rfl (hb hby d2_14) rfl kz) ?_
    show EndsK p e below _ (T2.setTop (mkF m 15 #[.val (.ref pa), .val (.int (3 : Int32)), .val (.ref r)] [(.int (3 : Int32))]))
    refine EndsK.go (fun _ kz => XS.iconst Y2.here hx rfl (hb hby d2_15) kz) ?_
    show EndsK p e below _ (T2.setTop (mkF m 16 #[.val (.ref pa), .val (.int (3 : Int32)), .val (.ref r)] [(.int (1 : Int32)), (.int (3 : Int32))]))
    refine EndsK.go (fun _ kz => XS.icmpNo Y2.here hx rfl (hb hby d2_16) rfl (tlt (by decide : (1 : Int32) < (3 : Int32))).2.2.2 kz) ?_
    show EndsK p e below _ (T2.setTop (mkF m 19 #[.val (.ref pa), .val (.int (3 : Int32)), .val (.ref r)] []))
    refine EndsK.go (fun _ kz => XS.aloadN Y2.here hx rfl (hb hby d2_19) rfl rfl kz) ?_
    show EndsK p e below _ (T2.setTop (mkF m 20 #[.val (.ref pa), .val (.int (3 : Int32)), .val (.ref r)] [(.ref r)]))
    refine EndsK.go (fun _ kz => XS.iconst Y2.here hx rfl (hb hby d2_20) kz) ?_
    show EndsK p e below _ (T2.setTop (mkF m 21 #[.val (.ref pa), .val (.int (3 : Int32)), .val (.ref r)] [(.int (1 : Int32)), (.ref r)]))
    refine EndsK.go (fun _ kz => XS.aloadN Y2.here hx rfl (hb hby d2_21) rfl rfl kz) ?_
    show EndsK p e below _ (T2.setTop (mkF m 22 #[.val (.ref pa), .val (.int (3 : Int32)), .val (.ref r)] [(.ref pa), (.int (1 : Int32)), (.ref r)]))
    refine EndsK.go (fun _ kz => XS.iconst Y2.here hx rfl (hb hby d2_22) kz) ?_
    show EndsK p e below _ (T2.setTop (mkF m 23 #[.val (.ref pa), .val (.int (3 : Int32)), .val (.ref r)] [(.int (1 : Int32)), (.ref pa), (.int (1 : Int32)), (.ref r)]))
    refine EndsK.go (fun tz kz => Y2.iaload hx (j := (1 : Int32)) (v := (.int x1)) (by rw [e2]; exact A2_pa.1) (State.isArrayOf_alike hZ.alike A2_pa.2.1) A2_pa.2.2 (inb_of qP2 ⟨by decide, by decide⟩) (Has.at HP (inb_of qP2 ⟨by decide, by decide⟩) (rfl : ([.int x0, .int x1, .int x2, .int x3] : List Value).getD (1 : Int32).toNatClampNeg (.int 0) = .int x1)) (g := (mkF m 23 #[.val (.ref pa), .val (.int (3 : Int32)), .val (.ref r)] [(.int (1 : Int32)), (.ref pa), (.int (1 : Int32)), (.ref r)])) rfl rfl (hb hby d2_23) tz kz) ?_
    show EndsK p e below _ (T2.setTop (mkF m 24 #[.val (.ref pa), .val (.int (3 : Int32)), .val (.ref r)] [(.int x1), (.int (1 : Int32)), (.ref r)]))
    obtain ⟨c3, B3, q13, Sz3, q33, Hh3, Gh3⟩ := V2
    obtain ⟨T3, h3, X3, e3, W3, st3⟩ := stI Y2 hx hZ e2 B3 (j := (1 : Int32)) (inb_of Sz3 ⟨by decide, by decide⟩) (g := (mkF m 24 #[.val (.ref pa), .val (.int (3 : Int32)), .val (.ref r)] [(.int x1), (.int (1 : Int32)), (.ref r)])) rfl rfl (hb hby d2_24)
    have V3 : Arv Z h3 r c1 .int (3 : Int32) [(.int x0), (.int x1), (.int (0 : Int32))] (.int (0 : Int32)) := Arv.set B3 q13 Sz3 q33 Hh3 Gh3 rfl W3 1 rfl (Nat.le_of_ble_eq_true rfl)
    refine EndsK.go st3 ?_
    have A3_pa := A2_pa.other W3 ne_pa_r
    have Z3 : n0 ≤ h3.size := Nat.le_trans Z2 (Nat.le_of_eq W3.size.symm)
    have P3 := ext_wr P2 W3 sz_r
    have Y3 : Stand p l e ({ frames := 0, cells := 1, slots := 4, locals := 0 } : Room) s m #[.ref pa, .int (3 : Int32)] below meth c T3 [] 1 3 := (X3.dropFresh (fun xz hxz => by cases List.mem_singleton.mp hxz; rw [hh]; exact sz_r)).mono (by decide) (by decide)
    show EndsK p e below _ (T3.setTop (mkF m 25 #[.val (.ref pa), .val (.int (3 : Int32)), .val (.ref r)] []))
    refine EndsK.go (fun _ kz => XS.iloadN Y3.here hx rfl (hb hby d2_25) rfl kz) ?_
    show EndsK p e below _ (T3.setTop (mkF m 26 #[.val (.ref pa), .val (.int (3 : Int32)), .val (.ref r)] [(.int (3 : Int32))]))
    refine EndsK.go (fun _ kz => XS.iconst Y3.here hx rfl (hb hby d2_26) kz) ?_
    show EndsK p e below _ (T3.setTop (mkF m 27 #[.val (.ref pa), .val (.int (3 : Int32)), .val (.ref r)] [(.int (2 : Int32)), (.int (3 : Int32))]))
    refine EndsK.go (fun _ kz => XS.icmpNo Y3.here hx rfl (hb hby d2_27) rfl (tlt (by decide : (2 : Int32) < (3 : Int32))).2.2.2 kz) ?_
    show EndsK p e below _ (T3.setTop (mkF m 30 #[.val (.ref pa), .val (.int (3 : Int32)), .val (.ref r)] []))
    refine EndsK.go (fun _ kz => XS.aloadN Y3.here hx rfl (hb hby d2_30) rfl rfl kz) ?_
    show EndsK p e below _ (T3.setTop (mkF m 31 #[.val (.ref pa), .val (.int (3 : Int32)), .val (.ref r)] [(.ref r)]))
    refine EndsK.go (fun _ kz => XS.iconst Y3.here hx rfl (hb hby d2_31) kz) ?_
    show EndsK p e below _ (T3.setTop (mkF m 32 #[.val (.ref pa), .val (.int (3 : Int32)), .val (.ref r)] [(.int (2 : Int32)), (.ref r)]))
    refine EndsK.go (fun _ kz => XS.aloadN Y3.here hx rfl (hb hby d2_32) rfl rfl kz) ?_
    show EndsK p e below _ (T3.setTop (mkF m 33 #[.val (.ref pa), .val (.int (3 : Int32)), .val (.ref r)] [(.ref pa), (.int (2 : Int32)), (.ref r)]))
    refine EndsK.go (fun _ kz => XS.iconst Y3.here hx rfl (hb hby d2_33) kz) ?_
    show EndsK p e below _ (T3.setTop (mkF m 34 #[.val (.ref pa), .val (.int (3 : Int32)), .val (.ref r)] [(.int (2 : Int32)), (.ref pa), (.int (2 : Int32)), (.ref r)]))
    refine EndsK.go (fun tz kz => Y3.iaload hx (j := (2 : Int32)) (v := (.int x2)) (by rw [e3]; exact A3_pa.1) (State.isArrayOf_alike hZ.alike A3_pa.2.1) A3_pa.2.2 (inb_of qP2 ⟨by decide, by decide⟩) (Has.at HP (inb_of qP2 ⟨by decide, by decide⟩) (rfl : ([.int x0, .int x1, .int x2, .int x3] : List Value).getD (2 : Int32).toNatClampNeg (.int 0) = .int x2)) (g := (mkF m 34 #[.val (.ref pa), .val (.int (3 : Int32)), .val (.ref r)] [(.int (2 : Int32)), (.ref pa), (.int (2 : Int32)), (.ref r)])) rfl rfl (hb hby d2_34) tz kz) ?_
    show EndsK p e below _ (T3.setTop (mkF m 35 #[.val (.ref pa), .val (.int (3 : Int32)), .val (.ref r)] [(.int x2), (.int (2 : Int32)), (.ref r)]))
    obtain ⟨c4, B4, q14, Sz4, q34, Hh4, Gh4⟩ := V3
    obtain ⟨T4, h4, X4, e4, W4, st4⟩ := stI Y3 hx hZ e3 B4 (j := (2 : Int32)) (inb_of Sz4 ⟨by decide, by decide⟩) (g := (mkF m 35 #[.val (.ref pa), .val (.int (3 : Int32)), .val (.ref r)] [(.int x2), (.int (2 : Int32)), (.ref r)])) rfl rfl (hb hby d2_35)
    have V4 : Arv Z h4 r c1 .int (3 : Int32) [(.int x0), (.int x1), (.int x2)] (.int (0 : Int32)) := Arv.set B4 q14 Sz4 q34 Hh4 Gh4 rfl W4 2 rfl (Nat.le_of_ble_eq_true rfl)
    refine EndsK.go st4 ?_
    have A4_pa := A3_pa.other W4 ne_pa_r
    have Z4 : n0 ≤ h4.size := Nat.le_trans Z3 (Nat.le_of_eq W4.size.symm)
    have P4 := ext_wr P3 W4 sz_r
    have Y4 : Stand p l e ({ frames := 0, cells := 1, slots := 4, locals := 0 } : Room) s m #[.ref pa, .int (3 : Int32)] below meth c T4 [] 1 3 := (X4.dropFresh (fun xz hxz => by cases List.mem_singleton.mp hxz; rw [hh]; exact sz_r)).mono (by decide) (by decide)
    show EndsK p e below _ (T4.setTop (mkF m 36 #[.val (.ref pa), .val (.int (3 : Int32)), .val (.ref r)] []))
    refine EndsK.go (fun _ kz => XS.iloadN Y4.here hx rfl (hb hby d2_36) rfl kz) ?_
    show EndsK p e below _ (T4.setTop (mkF m 37 #[.val (.ref pa), .val (.int (3 : Int32)), .val (.ref r)] [(.int (3 : Int32))]))
    refine EndsK.go (fun _ kz => XS.iconst Y4.here hx rfl (hb hby d2_37) kz) ?_
    show EndsK p e below _ (T4.setTop (mkF m 38 #[.val (.ref pa), .val (.int (3 : Int32)), .val (.ref r)] [(.int (3 : Int32)), (.int (3 : Int32))]))
    refine EndsK.go (fun _ kz => XS.icmpYes Y4.here hx rfl (pc0 := 38) (pc' := 47) rfl (hb hby d2_38) rfl (flt (by decide : ¬ ((3 : Int32) < (3 : Int32)))).2.2.2 (by decide) (by decide) kz) ?_
    show EndsK p e below _ (T4.setTop (mkF m 47 #[.val (.ref pa), .val (.int (3 : Int32)), .val (.ref r)] []))
    refine EndsK.go (fun _ kz => XS.aloadN Y4.here hx rfl (hb hby d2_47) rfl rfl kz) ?_
    show EndsK p e below _ (T4.setTop (mkF m 48 #[.val (.ref pa), .val (.int (3 : Int32)), .val (.ref r)] [(.ref r)]))
    exact endR Y4 hx Bd.returns rfl rfl (hb hby d2_48) hlk ⟨r, c1, rfl, N0, by rw [e4]; exact P4, by rw [e4]; exact V4⟩ (by decide) (by decide)
  · show EndsK p e below _ (s₁.setTop (mkF m 0 #[.val (.ref pa), .val (.int (4 : Int32)), .unset] []))
    refine EndsK.go (fun _ kz => XS.iloadN X0.here hx rfl (hb hby d2_0) rfl kz) ?_
    show EndsK p e below _ (s₁.setTop (mkF m 1 #[.val (.ref pa), .val (.int (4 : Int32)), .unset] [(.int (4 : Int32))]))
    obtain ⟨T1, h1, c1, X1, e1, E1, A1, st1⟩ := newP X0 hx hZ (hw _ (List.mem_of_getElem? (i := 0) rfl)) e0 (g := (mkF m 1 #[.val (.ref pa), .val (.int (4 : Int32)), .unset] [(.int (4 : Int32))])) rfl (hb hby d2_1) rfl (by decide) (cap := 4) (by decide) (by decide) (by decide) (by decide)
    obtain ⟨r, g1⟩ : ∃ z, z = h0.size := ⟨_, rfl⟩
    rw [← g1] at A1 st1
    refine EndsK.go st1 ?_
    have A1_pa := AP.ext E1
    have V1 : Arv Z h1 r c1 .int (4 : Int32) [(.int (0 : Int32)), (.int (0 : Int32)), (.int (0 : Int32)), (.int (0 : Int32))] (.int (0 : Int32)) := (Arv.new A1 (by decide)).pad (pad_rep [] (.int (0 : Int32)) 4)
    have Y1 : Stand p l e ({ frames := 0, cells := 1, slots := 4, locals := 0 } : Room) s m #[.ref pa, .int (4 : Int32)] below meth c T1 [] 1 4 := X1
    have Z1 : n0 ≤ h1.size := Nat.le_trans Z0 E1.1
    have G1 : n0 ≤ r := by rw [g1]; exact Z0
    have P1 := ext_trans P0 E1
    have sz_r : h0.size ≤ r := by rw [g1]; exact P0.1
    have ne_pa_r : pa ≠ r := Nat.ne_of_lt (by rw [g1]; exact AP.lt)
    show EndsK p e below _ (T1.setTop (mkF m 3 #[.val (.ref pa), .val (.int (4 : Int32)), .unset] [(.ref r)]))
    refine EndsK.go (fun _ kz => XS.astoreN Y1.here hx rfl (hb hby d2_3) rfl rfl (l' := #[.val (.ref pa), .val (.int (4 : Int32)), .val (.ref r)]) rfl kz) ?_
    show EndsK p e below _ (T1.setTop (mkF m 4 #[.val (.ref pa), .val (.int (4 : Int32)), .val (.ref r)] []))
    refine EndsK.go (fun _ kz => XS.iloadN Y1.here hx rfl (hb hby d2_4) rfl kz) ?_
    show EndsK p e below _ (T1.setTop (mkF m 5 #[.val (.ref pa), .val (.int (4 : Int32)), .val (.ref r)] [(.int (4 : Int32))]))
    refine EndsK.go (fun _ kz => XS.ifNo Y1.here hx rfl (hb hby d2_5) rfl ((if0 _ _).trans (tlt (by decide : (0 : Int32) < (4 : Int32))).2.2.2) kz) ?_
    show EndsK p e below _ (T1.setTop (mkF m 8 #[.val (.ref pa), .val (.int (4 : Int32)), .val (.ref r)] []))
    refine EndsK.go (fun _ kz => XS.aloadN Y1.here hx rfl (hb hby d2_8) rfl rfl kz) ?_
    show EndsK p e below _ (T1.setTop (mkF m 9 #[.val (.ref pa), .val (.int (4 : Int32)), .val (.ref r)] [(.ref r)]))
    refine EndsK.go (fun _ kz => XS.iconst Y1.here hx rfl (hb hby d2_9) kz) ?_
    show EndsK p e below _ (T1.setTop (mkF m 10 #[.val (.ref pa), .val (.int (4 : Int32)), .val (.ref r)] [(.int (0 : Int32)), (.ref r)]))
    refine EndsK.go (fun _ kz => XS.aloadN Y1.here hx rfl (hb hby d2_10) rfl rfl kz) ?_
    show EndsK p e below _ (T1.setTop (mkF m 11 #[.val (.ref pa), .val (.int (4 : Int32)), .val (.ref r)] [(.ref pa), (.int (0 : Int32)), (.ref r)]))
    refine EndsK.go (fun _ kz => XS.iconst Y1.here hx rfl (hb hby d2_11) kz) ?_
    show EndsK p e below _ (T1.setTop (mkF m 12 #[.val (.ref pa), .val (.int (4 : Int32)), .val (.ref r)] [(.int (0 : Int32)), (.ref pa), (.int (0 : Int32)), (.ref r)]))
    refine EndsK.go (fun tz kz => Y1.iaload hx (j := (0 : Int32)) (v := (.int x0)) (by rw [e1]; exact A1_pa.1) (State.isArrayOf_alike hZ.alike A1_pa.2.1) A1_pa.2.2 (inb_of qP2 ⟨by decide, by decide⟩) (Has.at HP (inb_of qP2 ⟨by decide, by decide⟩) (rfl : ([.int x0, .int x1, .int x2, .int x3] : List Value).getD (0 : Int32).toNatClampNeg (.int 0) = .int x0)) (g := (mkF m 12 #[.val (.ref pa), .val (.int (4 : Int32)), .val (.ref r)] [(.int (0 : Int32)), (.ref pa), (.int (0 : Int32)), (.ref r)])) rfl rfl (hb hby d2_12) tz kz) ?_
    show EndsK p e below _ (T1.setTop (mkF m 13 #[.val (.ref pa), .val (.int (4 : Int32)), .val (.ref r)] [(.int x0), (.int (0 : Int32)), (.ref r)]))
    obtain ⟨c2, B2, q12, Sz2, q32, Hh2, Gh2⟩ := V1
    obtain ⟨T2, h2, X2, e2, W2, st2⟩ := stI Y1 hx hZ e1 B2 (j := (0 : Int32)) (inb_of Sz2 ⟨by decide, by decide⟩) (g := (mkF m 13 #[.val (.ref pa), .val (.int (4 : Int32)), .val (.ref r)] [(.int x0), (.int (0 : Int32)), (.ref r)])) rfl rfl (hb hby d2_13)
    have V2 : Arv Z h2 r c1 .int (4 : Int32) [(.int x0), (.int (0 : Int32)), (.int (0 : Int32)), (.int (0 : Int32))] (.int (0 : Int32)) := Arv.set B2 q12 Sz2 q32 Hh2 Gh2 rfl W2 0 rfl (Nat.le_of_ble_eq_true rfl)
    refine EndsK.go st2 ?_
    have A2_pa := A1_pa.other W2 ne_pa_r
    have Z2 : n0 ≤ h2.size := Nat.le_trans Z1 (Nat.le_of_eq W2.size.symm)
    have P2 := ext_wr P1 W2 sz_r
    have Y2 : Stand p l e ({ frames := 0, cells := 1, slots := 4, locals := 0 } : Room) s m #[.ref pa, .int (4 : Int32)] below meth c T2 [] 1 4 := (X2.dropFresh (fun xz hxz => by cases List.mem_singleton.mp hxz; rw [hh]; exact sz_r)).mono (by decide) (by decide)
    show EndsK p e below _ (T2.setTop (mkF m 14 #[.val (.ref pa), .val (.int (4 : Int32)), .val (.ref r)] []))
    refine EndsK.go (fun _ kz => XS.iloadN Y2.here hx rfl (hb hby d2_14) rfl kz) ?_
    show EndsK p e below _ (T2.setTop (mkF m 15 #[.val (.ref pa), .val (.int (4 : Int32)), .val (.ref r)] [(.int (4 : Int32))]))
    refine EndsK.go (fun _ kz => XS.iconst Y2.here hx rfl (hb hby d2_15) kz) ?_
    show EndsK p e below _ (T2.setTop (mkF m 16 #[.val (.ref pa), .val (.int (4 : Int32)), .val (.ref r)] [(.int (1 : Int32)), (.int (4 : Int32))]))
    refine EndsK.go (fun _ kz => XS.icmpNo Y2.here hx rfl (hb hby d2_16) rfl (tlt (by decide : (1 : Int32) < (4 : Int32))).2.2.2 kz) ?_
    show EndsK p e below _ (T2.setTop (mkF m 19 #[.val (.ref pa), .val (.int (4 : Int32)), .val (.ref r)] []))
    refine EndsK.go (fun _ kz => XS.aloadN Y2.here hx rfl (hb hby d2_19) rfl rfl kz) ?_
    show EndsK p e below _ (T2.setTop (mkF m 20 #[.val (.ref pa), .val (.int (4 : Int32)), .val (.ref r)] [(.ref r)]))
    refine EndsK.go (fun _ kz => XS.iconst Y2.here hx rfl (hb hby d2_20) kz) ?_
    show EndsK p e below _ (T2.setTop (mkF m 21 #[.val (.ref pa), .val (.int (4 : Int32)), .val (.ref r)] [(.int (1 : Int32)), (.ref r)]))
    refine EndsK.go (fun _ kz => XS.aloadN Y2.here hx rfl (hb hby d2_21) rfl rfl kz) ?_
    show EndsK p e below _ (T2.setTop (mkF m 22 #[.val (.ref pa), .val (.int (4 : Int32)), .val (.ref r)] [(.ref pa), (.int (1 : Int32)), (.ref r)]))
    refine EndsK.go (fun _ kz => XS.iconst Y2.here hx rfl (hb hby d2_22) kz) ?_
    show EndsK p e below _ (T2.setTop (mkF m 23 #[.val (.ref pa), .val (.int (4 : Int32)), .val (.ref r)] [(.int (1 : Int32)), (.ref pa), (.int (1 : Int32)), (.ref r)]))
    refine EndsK.go (fun tz kz => Y2.iaload hx (j := (1 : Int32)) (v := (.int x1)) (by rw [e2]; exact A2_pa.1) (State.isArrayOf_alike hZ.alike A2_pa.2.1) A2_pa.2.2 (inb_of qP2 ⟨by decide, by decide⟩) (Has.at HP (inb_of qP2 ⟨by decide, by decide⟩) (rfl : ([.int x0, .int x1, .int x2, .int x3] : List Value).getD (1 : Int32).toNatClampNeg (.int 0) = .int x1)) (g := (mkF m 23 #[.val (.ref pa), .val (.int (4 : Int32)), .val (.ref r)] [(.int (1 : Int32)), (.ref pa), (.int (1 : Int32)), (.ref r)])) rfl rfl (hb hby d2_23) tz kz) ?_
    show EndsK p e below _ (T2.setTop (mkF m 24 #[.val (.ref pa), .val (.int (4 : Int32)), .val (.ref r)] [(.int x1), (.int (1 : Int32)), (.ref r)]))
    obtain ⟨c3, B3, q13, Sz3, q33, Hh3, Gh3⟩ := V2
    obtain ⟨T3, h3, X3, e3, W3, st3⟩ := stI Y2 hx hZ e2 B3 (j := (1 : Int32)) (inb_of Sz3 ⟨by decide, by decide⟩) (g := (mkF m 24 #[.val (.ref pa), .val (.int (4 : Int32)), .val (.ref r)] [(.int x1), (.int (1 : Int32)), (.ref r)])) rfl rfl (hb hby d2_24)
    have V3 : Arv Z h3 r c1 .int (4 : Int32) [(.int x0), (.int x1), (.int (0 : Int32)), (.int (0 : Int32))] (.int (0 : Int32)) := Arv.set B3 q13 Sz3 q33 Hh3 Gh3 rfl W3 1 rfl (Nat.le_of_ble_eq_true rfl)
    refine EndsK.go st3 ?_
    have A3_pa := A2_pa.other W3 ne_pa_r
    have Z3 : n0 ≤ h3.size := Nat.le_trans Z2 (Nat.le_of_eq W3.size.symm)
    have P3 := ext_wr P2 W3 sz_r
    have Y3 : Stand p l e ({ frames := 0, cells := 1, slots := 4, locals := 0 } : Room) s m #[.ref pa, .int (4 : Int32)] below meth c T3 [] 1 4 := (X3.dropFresh (fun xz hxz => by cases List.mem_singleton.mp hxz; rw [hh]; exact sz_r)).mono (by decide) (by decide)
    show EndsK p e below _ (T3.setTop (mkF m 25 #[.val (.ref pa), .val (.int (4 : Int32)), .val (.ref r)] []))
    refine EndsK.go (fun _ kz => XS.iloadN Y3.here hx rfl (hb hby d2_25) rfl kz) ?_
    show EndsK p e below _ (T3.setTop (mkF m 26 #[.val (.ref pa), .val (.int (4 : Int32)), .val (.ref r)] [(.int (4 : Int32))]))
    refine EndsK.go (fun _ kz => XS.iconst Y3.here hx rfl (hb hby d2_26) kz) ?_
    show EndsK p e below _ (T3.setTop (mkF m 27 #[.val (.ref pa), .val (.int (4 : Int32)), .val (.ref r)] [(.int (2 : Int32)), (.int (4 : Int32))]))
    refine EndsK.go (fun _ kz => XS.icmpNo Y3.here hx rfl (hb hby d2_27) rfl (tlt (by decide : (2 : Int32) < (4 : Int32))).2.2.2 kz) ?_
    show EndsK p e below _ (T3.setTop (mkF m 30 #[.val (.ref pa), .val (.int (4 : Int32)), .val (.ref r)] []))
    refine EndsK.go (fun _ kz => XS.aloadN Y3.here hx rfl (hb hby d2_30) rfl rfl kz) ?_
    show EndsK p e below _ (T3.setTop (mkF m 31 #[.val (.ref pa), .val (.int (4 : Int32)), .val (.ref r)] [(.ref r)]))
    refine EndsK.go (fun _ kz => XS.iconst Y3.here hx rfl (hb hby d2_31) kz) ?_
    show EndsK p e below _ (T3.setTop (mkF m 32 #[.val (.ref pa), .val (.int (4 : Int32)), .val (.ref r)] [(.int (2 : Int32)), (.ref r)]))
    refine EndsK.go (fun _ kz => XS.aloadN Y3.here hx rfl (hb hby d2_32) rfl rfl kz) ?_
    show EndsK p e below _ (T3.setTop (mkF m 33 #[.val (.ref pa), .val (.int (4 : Int32)), .val (.ref r)] [(.ref pa), (.int (2 : Int32)), (.ref r)]))
    refine EndsK.go (fun _ kz => XS.iconst Y3.here hx rfl (hb hby d2_33) kz) ?_
    show EndsK p e below _ (T3.setTop (mkF m 34 #[.val (.ref pa), .val (.int (4 : Int32)), .val (.ref r)] [(.int (2 : Int32)), (.ref pa), (.int (2 : Int32)), (.ref r)]))
    refine EndsK.go (fun tz kz => Y3.iaload hx (j := (2 : Int32)) (v := (.int x2)) (by rw [e3]; exact A3_pa.1) (State.isArrayOf_alike hZ.alike A3_pa.2.1) A3_pa.2.2 (inb_of qP2 ⟨by decide, by decide⟩) (Has.at HP (inb_of qP2 ⟨by decide, by decide⟩) (rfl : ([.int x0, .int x1, .int x2, .int x3] : List Value).getD (2 : Int32).toNatClampNeg (.int 0) = .int x2)) (g := (mkF m 34 #[.val (.ref pa), .val (.int (4 : Int32)), .val (.ref r)] [(.int (2 : Int32)), (.ref pa), (.int (2 : Int32)), (.ref r)])) rfl rfl (hb hby d2_34) tz kz) ?_
    show EndsK p e below _ (T3.setTop (mkF m 35 #[.val (.ref pa), .val (.int (4 : Int32)), .val (.ref r)] [(.int x2), (.int (2 : Int32)), (.ref r)]))
    obtain ⟨c4, B4, q14, Sz4, q34, Hh4, Gh4⟩ := V3
    obtain ⟨T4, h4, X4, e4, W4, st4⟩ := stI Y3 hx hZ e3 B4 (j := (2 : Int32)) (inb_of Sz4 ⟨by decide, by decide⟩) (g := (mkF m 35 #[.val (.ref pa), .val (.int (4 : Int32)), .val (.ref r)] [(.int x2), (.int (2 : Int32)), (.ref r)])) rfl rfl (hb hby d2_35)
    have V4 : Arv Z h4 r c1 .int (4 : Int32) [(.int x0), (.int x1), (.int x2), (.int (0 : Int32))] (.int (0 : Int32)) := Arv.set B4 q14 Sz4 q34 Hh4 Gh4 rfl W4 2 rfl (Nat.le_of_ble_eq_true rfl)
    refine EndsK.go st4 ?_
    have A4_pa := A3_pa.other W4 ne_pa_r
    have Z4 : n0 ≤ h4.size := Nat.le_trans Z3 (Nat.le_of_eq W4.size.symm)
    have P4 := ext_wr P3 W4 sz_r
    have Y4 : Stand p l e ({ frames := 0, cells := 1, slots := 4, locals := 0 } : Room) s m #[.ref pa, .int (4 : Int32)] below meth c T4 [] 1 4 := (X4.dropFresh (fun xz hxz => by cases List.mem_singleton.mp hxz; rw [hh]; exact sz_r)).mono (by decide) (by decide)
    show EndsK p e below _ (T4.setTop (mkF m 36 #[.val (.ref pa), .val (.int (4 : Int32)), .val (.ref r)] []))
    refine EndsK.go (fun _ kz => XS.iloadN Y4.here hx rfl (hb hby d2_36) rfl kz) ?_
    show EndsK p e below _ (T4.setTop (mkF m 37 #[.val (.ref pa), .val (.int (4 : Int32)), .val (.ref r)] [(.int (4 : Int32))]))
    refine EndsK.go (fun _ kz => XS.iconst Y4.here hx rfl (hb hby d2_37) kz) ?_
    show EndsK p e below _ (T4.setTop (mkF m 38 #[.val (.ref pa), .val (.int (4 : Int32)), .val (.ref r)] [(.int (3 : Int32)), (.int (4 : Int32))]))
    refine EndsK.go (fun _ kz => XS.icmpNo Y4.here hx rfl (hb hby d2_38) rfl (tlt (by decide : (3 : Int32) < (4 : Int32))).2.2.2 kz) ?_
    show EndsK p e below _ (T4.setTop (mkF m 41 #[.val (.ref pa), .val (.int (4 : Int32)), .val (.ref r)] []))
    refine EndsK.go (fun _ kz => XS.aloadN Y4.here hx rfl (hb hby d2_41) rfl rfl kz) ?_
    show EndsK p e below _ (T4.setTop (mkF m 42 #[.val (.ref pa), .val (.int (4 : Int32)), .val (.ref r)] [(.ref r)]))
    refine EndsK.go (fun _ kz => XS.iconst Y4.here hx rfl (hb hby d2_42) kz) ?_
    show EndsK p e below _ (T4.setTop (mkF m 43 #[.val (.ref pa), .val (.int (4 : Int32)), .val (.ref r)] [(.int (3 : Int32)), (.ref r)]))
    refine EndsK.go (fun _ kz => XS.aloadN Y4.here hx rfl (hb hby d2_43) rfl rfl kz) ?_
    show EndsK p e below _ (T4.setTop (mkF m 44 #[.val (.ref pa), .val (.int (4 : Int32)), .val (.ref r)] [(.ref pa), (.int (3 : Int32)), (.ref r)]))
    refine EndsK.go (fun _ kz => XS.iconst Y4.here hx rfl (hb hby d2_44) kz) ?_
    show EndsK p e below _ (T4.setTop (mkF m 45 #[.val (.ref pa), .val (.int (4 : Int32)), .val (.ref r)] [(.int (3 : Int32)), (.ref pa), (.int (3 : Int32)), (.ref r)]))
    refine EndsK.go (fun tz kz => Y4.iaload hx (j := (3 : Int32)) (v := (.int x3)) (by rw [e4]; exact A4_pa.1) (State.isArrayOf_alike hZ.alike A4_pa.2.1) A4_pa.2.2 (inb_of qP2 ⟨by decide, by decide⟩) (Has.at HP (inb_of qP2 ⟨by decide, by decide⟩) (rfl : ([.int x0, .int x1, .int x2, .int x3] : List Value).getD (3 : Int32).toNatClampNeg (.int 0) = .int x3)) (g := (mkF m 45 #[.val (.ref pa), .val (.int (4 : Int32)), .val (.ref r)] [(.int (3 : Int32)), (.ref pa), (.int (3 : Int32)), (.ref r)])) rfl rfl (hb hby d2_45) tz kz) ?_
    show EndsK p e below _ (T4.setTop (mkF m 46 #[.val (.ref pa), .val (.int (4 : Int32)), .val (.ref r)] [(.int x3), (.int (3 : Int32)), (.ref r)]))
    obtain ⟨c5, B5, q15, Sz5, q35, Hh5, Gh5⟩ := V4
    obtain ⟨T5, h5, X5, e5, W5, st5⟩ := stI Y4 hx hZ e4 B5 (j := (3 : Int32)) (inb_of Sz5 ⟨by decide, by decide⟩) (g := (mkF m 46 #[.val (.ref pa), .val (.int (4 : Int32)), .val (.ref r)] [(.int x3), (.int (3 : Int32)), (.ref r)])) rfl rfl (hb hby d2_46)
    have V5 : Arv Z h5 r c1 .int (4 : Int32) [(.int x0), (.int x1), (.int x2), (.int x3)] (.int (0 : Int32)) := Arv.set B5 q15 Sz5 q35 Hh5 Gh5 rfl W5 3 rfl (Nat.le_of_ble_eq_true rfl)
    refine EndsK.go st5 ?_
    have A5_pa := A4_pa.other W5 ne_pa_r
    have Z5 : n0 ≤ h5.size := Nat.le_trans Z4 (Nat.le_of_eq W5.size.symm)
    have P5 := ext_wr P4 W5 sz_r
    have Y5 : Stand p l e ({ frames := 0, cells := 1, slots := 4, locals := 0 } : Room) s m #[.ref pa, .int (4 : Int32)] below meth c T5 [] 1 4 := (X5.dropFresh (fun xz hxz => by cases List.mem_singleton.mp hxz; rw [hh]; exact sz_r)).mono (by decide) (by decide)
    show EndsK p e below _ (T5.setTop (mkF m 47 #[.val (.ref pa), .val (.int (4 : Int32)), .val (.ref r)] []))
    refine EndsK.go (fun _ kz => XS.aloadN Y5.here hx rfl (hb hby d2_47) rfl rfl kz) ?_
    show EndsK p e below _ (T5.setTop (mkF m 48 #[.val (.ref pa), .val (.int (4 : Int32)), .val (.ref r)] [(.ref r)]))
    exact endR Y5 hx Bd.returns rfl rfl (hb hby d2_48) hlk ⟨r, c1, rfl, N0, by rw [e5]; exact P5, by rw [e5]; exact V5⟩ (by decide) (by decide)
theorem d4_0 : decode method_6_code 0 = .ok (.iload 6, 2) := by decide +kernel
theorem d4_2 : decode method_6_code 2 = .ok (.iload_n 1, 1) := by decide +kernel
theorem d4_3 : decode method_6_code 3 = .ok (.if_icmp .gt 9, 3) := by decide +kernel
theorem d4_6 : decode method_6_code 6 = .ok (.iload 7, 2) := by decide +kernel
theorem d4_8 : decode method_6_code 8 = .ok (.iload_n 3, 1) := by decide +kernel
theorem d4_9 : decode method_6_code 9 = .ok (.if_icmp .le 5, 3) := by decide +kernel
theorem d4_12 : decode method_6_code 12 = .ok (.iconst 0, 1) := by decide +kernel
theorem d4_13 : decode method_6_code 13 = .ok (.ireturn, 1) := by decide +kernel
theorem d4_14 : decode method_6_code 14 = .ok (.iload 6, 2) := by decide +kernel
theorem d4_16 : decode method_6_code 16 = .ok (.iload_n 1, 1) := by decide +kernel
theorem d4_17 : decode method_6_code 17 = .ok (.if_icmp .ne 15, 3) := by decide +kernel
theorem d4_20 : decode method_6_code 20 = .ok (.iload 7, 2) := by decide +kernel
theorem d4_22 : decode method_6_code 22 = .ok (.iload_n 3, 1) := by decide +kernel
theorem d4_23 : decode method_6_code 23 = .ok (.if_icmp .ne 7, 3) := by decide +kernel
theorem d4_26 : decode method_6_code 26 = .ok (.iconst 1, 1) := by decide +kernel
theorem d4_27 : decode method_6_code 27 = .ok (.goto 4, 3) := by decide +kernel
theorem d4_30 : decode method_6_code 30 = .ok (.iconst 0, 1) := by decide +kernel
theorem d4_31 : decode method_6_code 31 = .ok (.ireturn, 1) := by decide +kernel
theorem d4_32 : decode method_6_code 32 = .ok (.aload_n 0, 1) := by decide +kernel
theorem d4_33 : decode method_6_code 33 = .ok (.iload 6, 2) := by decide +kernel
theorem d4_35 : decode method_6_code 35 = .ok (.iaload, 1) := by decide +kernel
theorem d4_36 : decode method_6_code 36 = .ok (.bipush 37, 2) := by decide +kernel
theorem d4_38 : decode method_6_code 38 = .ok (.if_icmp .ne 41, 3) := by decide +kernel
theorem d4_41 : decode method_6_code 41 = .ok (.aload 5, 2) := by decide +kernel
theorem d4_43 : decode method_6_code 43 = .ok (.iload 6, 2) := by decide +kernel
theorem d4_45 : decode method_6_code 45 = .ok (.iconst 1, 1) := by decide +kernel
theorem d4_46 : decode method_6_code 46 = .ok (.iadd, 1) := by decide +kernel
theorem d4_47 : decode method_6_code 47 = .ok (.aaload, 1) := by decide +kernel
theorem d4_48 : decode method_6_code 48 = .ok (.iload 7, 2) := by decide +kernel
theorem d4_50 : decode method_6_code 50 = .ok (.baload, 1) := by decide +kernel
theorem d4_51 : decode method_6_code 51 = .ok (.ifCond .ne 22, 3) := by decide +kernel
theorem d4_54 : decode method_6_code 54 = .ok (.iload 7, 2) := by decide +kernel
theorem d4_56 : decode method_6_code 56 = .ok (.iload_n 3, 1) := by decide +kernel
theorem d4_57 : decode method_6_code 57 = .ok (.if_icmp .ge 20, 3) := by decide +kernel
theorem d4_60 : decode method_6_code 60 = .ok (.aload 5, 2) := by decide +kernel
theorem d4_62 : decode method_6_code 62 = .ok (.iload 6, 2) := by decide +kernel
theorem d4_64 : decode method_6_code 64 = .ok (.aaload, 1) := by decide +kernel
theorem d4_65 : decode method_6_code 65 = .ok (.iload 7, 2) := by decide +kernel
theorem d4_67 : decode method_6_code 67 = .ok (.iconst 1, 1) := by decide +kernel
theorem d4_68 : decode method_6_code 68 = .ok (.iadd, 1) := by decide +kernel
theorem d4_69 : decode method_6_code 69 = .ok (.baload, 1) := by decide +kernel
theorem d4_70 : decode method_6_code 70 = .ok (.ifCond .eq 7, 3) := by decide +kernel
theorem d4_73 : decode method_6_code 73 = .ok (.iconst 1, 1) := by decide +kernel
theorem d4_74 : decode method_6_code 74 = .ok (.goto 4, 3) := by decide +kernel
theorem d4_77 : decode method_6_code 77 = .ok (.iconst 0, 1) := by decide +kernel
theorem d4_78 : decode method_6_code 78 = .ok (.ireturn, 1) := by decide +kernel
theorem d4_79 : decode method_6_code 79 = .ok (.iload 7, 2) := by decide +kernel
theorem d4_81 : decode method_6_code 81 = .ok (.iload_n 3, 1) := by decide +kernel
theorem d4_82 : decode method_6_code 82 = .ok (.if_icmp .ne 5, 3) := by decide +kernel
theorem d4_85 : decode method_6_code 85 = .ok (.iconst 0, 1) := by decide +kernel
theorem d4_86 : decode method_6_code 86 = .ok (.ireturn, 1) := by decide +kernel
theorem d4_87 : decode method_6_code 87 = .ok (.aload_n 0, 1) := by decide +kernel
theorem d4_88 : decode method_6_code 88 = .ok (.iload 6, 2) := by decide +kernel
theorem d4_90 : decode method_6_code 90 = .ok (.iaload, 1) := by decide +kernel
theorem d4_91 : decode method_6_code 91 = .ok (.iload 4, 2) := by decide +kernel
theorem d4_93 : decode method_6_code 93 = .ok (.if_icmp .eq 14, 3) := by decide +kernel
theorem d4_96 : decode method_6_code 96 = .ok (.aload_n 0, 1) := by decide +kernel
theorem d4_97 : decode method_6_code 97 = .ok (.iload 6, 2) := by decide +kernel
theorem d4_99 : decode method_6_code 99 = .ok (.iaload, 1) := by decide +kernel
theorem d4_100 : decode method_6_code 100 = .ok (.aload_n 2, 1) := by decide +kernel
theorem d4_101 : decode method_6_code 101 = .ok (.iload 7, 2) := by decide +kernel
theorem d4_103 : decode method_6_code 103 = .ok (.iaload, 1) := by decide +kernel
theorem d4_104 : decode method_6_code 104 = .ok (.if_icmp .ne 22, 3) := by decide +kernel
theorem d4_107 : decode method_6_code 107 = .ok (.aload 5, 2) := by decide +kernel
theorem d4_109 : decode method_6_code 109 = .ok (.iload 6, 2) := by decide +kernel
theorem d4_111 : decode method_6_code 111 = .ok (.iconst 1, 1) := by decide +kernel
theorem d4_112 : decode method_6_code 112 = .ok (.iadd, 1) := by decide +kernel
theorem d4_113 : decode method_6_code 113 = .ok (.aaload, 1) := by decide +kernel
theorem d4_114 : decode method_6_code 114 = .ok (.iload 7, 2) := by decide +kernel
theorem d4_116 : decode method_6_code 116 = .ok (.iconst 1, 1) := by decide +kernel
theorem d4_117 : decode method_6_code 117 = .ok (.iadd, 1) := by decide +kernel
theorem d4_118 : decode method_6_code 118 = .ok (.baload, 1) := by decide +kernel
theorem d4_119 : decode method_6_code 119 = .ok (.ifCond .eq 7, 3) := by decide +kernel
theorem d4_122 : decode method_6_code 122 = .ok (.iconst 1, 1) := by decide +kernel
theorem d4_123 : decode method_6_code 123 = .ok (.goto 4, 3) := by decide +kernel
theorem d4_126 : decode method_6_code 126 = .ok (.iconst 0, 1) := by decide +kernel
theorem d4_127 : decode method_6_code 127 = .ok (.ireturn, 1) := by decide +kernel
theorem ef_cell (m : MethodId) (pa : Nat) (np : Int32) (ta : Nat) (nt : Int32) (any : Int32) (da : Nat) (xi : Int32) (xj : Int32) (kP : ClassId) (kT : ClassId) (cA : ClassId) (PL : List Int32) (TL : List Int32) (xs : List Addr) (f : Nat → Nat → Int32) : entryFrame m #[(.ref pa), (.int np), (.ref ta), (.int nt), (.int any), (.ref da), (.int xi), (.int xj)] 8 = mkF m 0 #[.val (.ref pa), .val (.int np), .val (.ref ta), .val (.int nt), .val (.int any), .val (.ref da), .val (.int xi), .val (.int xj)] [] := by first | (simp [entryFrame, mkF, argsToLocals, Value.category]; done) | rfl
def Q_cell (Z : State) (pa : Nat) (np : Int32) (ta : Nat) (nt : Int32) (any : Int32) (da : Nat) (xi : Int32) (xj : Int32) (kP : ClassId) (kT : ClassId) (cA : ClassId) (PL : List Int32) (TL : List Int32) (xs : List Addr) (f : Nat → Nat → Int32) (h0 : Heap) (n0 : Nat) (vz : Option Value) (hz : Heap) (Lz : List Loc) : Prop := vz = some (.int (cellAt any np nt PL TL f xi xj)) ∧ Fr n0 Lz ∧ hz = h0
set_option maxRecDepth 65536 in
set_option maxHeartbeats 40000000 in
theorem rm_cell (l : Launch) (Z : State) (a0 : Array Value) (hw : ∀ d ∈ tables_1, d.before a0 Z = true) (ws : List Jvm.Cond) (pa : Nat) (np : Int32) (ta : Nat) (nt : Int32) (any : Int32) (da : Nat) (xi : Int32) (xj : Int32) (kP : ClassId) (kT : ClassId) (cA : ClassId) (PL : List Int32) (TL : List Int32) (xs : List Addr) (f : Nat → Nat → Int32) (h0 : Heap) (n0 : Nat) (Z0 : n0 ≤ h0.size) (bp0 : 0 ≤ np.toInt) (bp1 : np.toInt ≤ 4) (bt0 : 0 ≤ nt.toInt) (bt1 : nt.toInt ≤ 4) (bi0 : 0 ≤ xi.toInt) (bi1 : xi.toInt ≤ 4) (bj0 : 0 ≤ xj.toInt) (bj1 : xj.toInt ≤ 4) (VP : Arv Z h0 pa kP .int 4 (PL.map .int) (.int 0)) (VT : Arv Z h0 ta kT .int 4 (TL.map .int) (.int 0)) (hxs : xs = (List.range 5).map fun j => da + 1 + j) (TG : TabP Z h0 da cA xs f) :
    MetFree l (⟨"com/example/seshat/seshat/registry/WildcardsMatchesPinLaw", "cell", "([II[III[[ZII)Z"⟩ : MethodName) (head1 (Jvm.Cond.code (⟨"com/example/seshat/seshat/registry/WildcardsMatchesPinLaw", "cell", "([II[III[[ZII)Z"⟩ : MethodName) method_6_code 8 (some .boolean) :: ws) ({ frames := 0, cells := 0, slots := 0, locals := 0 } : Room)) (fun az Uz => az = #[(.ref pa), (.int np), (.ref ta), (.int nt), (.int any), (.ref da), (.int xi), (.int xj)] ∧ Z.Warmed39 Uz.vm ∧ Uz.heap = h0) (fun _ _ _ _ _ => True) (fun _ Uz oz Ut => ∃ vz Lz, oz = .returned vz ∧ Q_cell Z pa np ta nt any da xi xj kP kT cA PL TL xs f h0 n0 vz Ut.heap Lz ∧ FrameEnd Uz oz Ut Lz (({ frames := 0, cells := 0, slots := 0, locals := 0 } : Room)).cells (({ frames := 0, cells := 0, slots := 0, locals := 0 } : Room)).slots) := by
  refine MetFree.of_bodySF (plainFor_of_name pn0) hisR ?_
  intro p e s m args below meth c s₁ Bd hml0 hP hK
  obtain ⟨rfl, hZ, hh⟩ := hP
  have hx := Bd.exec
  have hby := Bd.bytes
  have hml : c.maxLocals = 8 := hml0
  have hown : s.vm.findClass "com/example/seshat/seshat/registry/WildcardsMatchesPinLaw" = some m.cls := findClass_of_methodNamed Bd.named
  have hnm := (name_of_methodNamed Bd.named Bd.method).1
  have hlk : meth.locks = false := Bd.notSynchronized
  have X0 : Stand p l e ({ frames := 0, cells := 0, slots := 0, locals := 0 } : Room) s m #[(.ref pa), (.int np), (.ref ta), (.int nt), (.int any), (.ref da), (.int xi), (.int xj)] below meth c s₁ [] 0 0 := Stand.of_body Bd
  have e0 : s₁.heap = h0 := by rw [← hh, Bd.state]; rfl
  have N0 := Fr.nil n0
  show EndsK p e below (OQ s (Q_cell Z pa np ta nt any da xi xj kP kT cA PL TL xs f h0 n0) (({ frames := 0, cells := 0, slots := 0, locals := 0 } : Room)).cells (({ frames := 0, cells := 0, slots := 0, locals := 0 } : Room)).slots) (s₁.setTop (entryFrame m #[(.ref pa), (.int np), (.ref ta), (.int nt), (.int any), (.ref da), (.int xi), (.int xj)] 8))
  refine EndsK.start (ef_cell m pa np ta nt any da xi xj kP kT cA PL TL xs f) ?_
  have z0 : (0 : Int32).toInt = 0 := rfl
  have z1 : (1 : Int32).toInt = 1 := rfl
  have z4 : (4 : Int32).toInt = 4 := rfl
  have z5 : (5 : Int32).toInt = 5 := rfl
  obtain ⟨cP, AP, qP1, qP2, qP3, HP, GP⟩ := VP
  obtain ⟨cT, AT, qT1, qT2, qT3, HT, GT⟩ := VT
  obtain ⟨cD, AD, qD1, qD2, qD3, HD, GD⟩ := id TG.1
  show EndsK p e below _ (s₁.setTop (mkF m 0 #[.val (.ref pa), .val (.int np), .val (.ref ta), .val (.int nt), .val (.int any), .val (.ref da), .val (.int xi), .val (.int xj)] []))
  refine EndsK.go (fun _ kz => XS.iload X0.here hx rfl (hb hby d4_0) rfl kz) ?_
  show EndsK p e below _ (s₁.setTop (mkF m 2 #[.val (.ref pa), .val (.int np), .val (.ref ta), .val (.int nt), .val (.int any), .val (.ref da), .val (.int xi), .val (.int xj)] [(.int xi)]))
  refine EndsK.go (fun _ kz => XS.iloadN X0.here hx rfl (hb hby d4_2) rfl kz) ?_
  show EndsK p e below _ (s₁.setTop (mkF m 3 #[.val (.ref pa), .val (.int np), .val (.ref ta), .val (.int nt), .val (.int any), .val (.ref da), .val (.int xi), .val (.int xj)] [(.int np), (.int xi)]))
  by_cases H3_1 : np < xi
  · refine EndsK.go (fun _ kz => XS.icmpYes X0.here hx rfl (pc0 := 3) (pc' := 12) rfl (hb hby d4_3) rfl (tlt H3_1).2.2.1 (by decide) (by decide) kz) ?_
    show EndsK p e below _ (s₁.setTop (mkF m 12 #[.val (.ref pa), .val (.int np), .val (.ref ta), .val (.int nt), .val (.int any), .val (.ref da), .val (.int xi), .val (.int xj)] []))
    refine EndsK.go (fun _ kz => XS.iconst X0.here hx rfl (hb hby d4_12) kz) ?_
    show EndsK p e below _ (s₁.setTop (mkF m 13 #[.val (.ref pa), .val (.int np), .val (.ref ta), .val (.int nt), .val (.int any), .val (.ref da), .val (.int xi), .val (.int xj)] [(.int (0 : Int32))]))
    exact endN X0 hx (t := .boolean) Bd.returns (by simp) (hb hby d4_13) hlk ⟨(congrArg (fun z => some (Value.int z)) (by unfold cellAt cellF; rw [if_pos H3_1] : cellAt any np nt PL TL f xi xj = (0 : Int32))).symm, N0, e0⟩ (by decide) (by decide)
  · refine EndsK.go (fun _ kz => XS.icmpNo X0.here hx rfl (hb hby d4_3) rfl (flt H3_1).2.2.1 kz) ?_
    show EndsK p e below _ (s₁.setTop (mkF m 6 #[.val (.ref pa), .val (.int np), .val (.ref ta), .val (.int nt), .val (.int any), .val (.ref da), .val (.int xi), .val (.int xj)] []))
    refine EndsK.go (fun _ kz => XS.iload X0.here hx rfl (hb hby d4_6) rfl kz) ?_
    show EndsK p e below _ (s₁.setTop (mkF m 8 #[.val (.ref pa), .val (.int np), .val (.ref ta), .val (.int nt), .val (.int any), .val (.ref da), .val (.int xi), .val (.int xj)] [(.int xj)]))
    refine EndsK.go (fun _ kz => XS.iloadN X0.here hx rfl (hb hby d4_8) rfl kz) ?_
    show EndsK p e below _ (s₁.setTop (mkF m 9 #[.val (.ref pa), .val (.int np), .val (.ref ta), .val (.int nt), .val (.int any), .val (.ref da), .val (.int xi), .val (.int xj)] [(.int nt), (.int xj)]))
    by_cases H9_2 : nt < xj
    · refine EndsK.go (fun _ kz => XS.icmpNo X0.here hx rfl (hb hby d4_9) rfl (tlt H9_2).2.2.2 kz) ?_
      show EndsK p e below _ (s₁.setTop (mkF m 12 #[.val (.ref pa), .val (.int np), .val (.ref ta), .val (.int nt), .val (.int any), .val (.ref da), .val (.int xi), .val (.int xj)] []))
      refine EndsK.go (fun _ kz => XS.iconst X0.here hx rfl (hb hby d4_12) kz) ?_
      show EndsK p e below _ (s₁.setTop (mkF m 13 #[.val (.ref pa), .val (.int np), .val (.ref ta), .val (.int nt), .val (.int any), .val (.ref da), .val (.int xi), .val (.int xj)] [(.int (0 : Int32))]))
      exact endN X0 hx (t := .boolean) Bd.returns (by simp) (hb hby d4_13) hlk ⟨(congrArg (fun z => some (Value.int z)) (by unfold cellAt cellF; rw [if_neg H3_1, if_pos H9_2] : cellAt any np nt PL TL f xi xj = (0 : Int32))).symm, N0, e0⟩ (by decide) (by decide)
    · refine EndsK.go (fun _ kz => XS.icmpYes X0.here hx rfl (pc0 := 9) (pc' := 14) rfl (hb hby d4_9) rfl (flt H9_2).2.2.2 (by decide) (by decide) kz) ?_
      show EndsK p e below _ (s₁.setTop (mkF m 14 #[.val (.ref pa), .val (.int np), .val (.ref ta), .val (.int nt), .val (.int any), .val (.ref da), .val (.int xi), .val (.int xj)] []))
      refine EndsK.go (fun _ kz => XS.iload X0.here hx rfl (hb hby d4_14) rfl kz) ?_
      show EndsK p e below _ (s₁.setTop (mkF m 16 #[.val (.ref pa), .val (.int np), .val (.ref ta), .val (.int nt), .val (.int any), .val (.ref da), .val (.int xi), .val (.int xj)] [(.int xi)]))
      refine EndsK.go (fun _ kz => XS.iloadN X0.here hx rfl (hb hby d4_16) rfl kz) ?_
      show EndsK p e below _ (s₁.setTop (mkF m 17 #[.val (.ref pa), .val (.int np), .val (.ref ta), .val (.int nt), .val (.int any), .val (.ref da), .val (.int xi), .val (.int xj)] [(.int np), (.int xi)]))
      by_cases H17_3 : xi = np
      · refine EndsK.go (fun _ kz => XS.icmpNo X0.here hx rfl (hb hby d4_17) rfl (teq H17_3).2 kz) ?_
        show EndsK p e below _ (s₁.setTop (mkF m 20 #[.val (.ref pa), .val (.int np), .val (.ref ta), .val (.int nt), .val (.int any), .val (.ref da), .val (.int xi), .val (.int xj)] []))
        refine EndsK.go (fun _ kz => XS.iload X0.here hx rfl (hb hby d4_20) rfl kz) ?_
        show EndsK p e below _ (s₁.setTop (mkF m 22 #[.val (.ref pa), .val (.int np), .val (.ref ta), .val (.int nt), .val (.int any), .val (.ref da), .val (.int xi), .val (.int xj)] [(.int xj)]))
        refine EndsK.go (fun _ kz => XS.iloadN X0.here hx rfl (hb hby d4_22) rfl kz) ?_
        show EndsK p e below _ (s₁.setTop (mkF m 23 #[.val (.ref pa), .val (.int np), .val (.ref ta), .val (.int nt), .val (.int any), .val (.ref da), .val (.int xi), .val (.int xj)] [(.int nt), (.int xj)]))
        by_cases H23_4 : xj = nt
        · refine EndsK.go (fun _ kz => XS.icmpNo X0.here hx rfl (hb hby d4_23) rfl (teq H23_4).2 kz) ?_
          show EndsK p e below _ (s₁.setTop (mkF m 26 #[.val (.ref pa), .val (.int np), .val (.ref ta), .val (.int nt), .val (.int any), .val (.ref da), .val (.int xi), .val (.int xj)] []))
          refine EndsK.go (fun _ kz => XS.iconst X0.here hx rfl (hb hby d4_26) kz) ?_
          show EndsK p e below _ (s₁.setTop (mkF m 27 #[.val (.ref pa), .val (.int np), .val (.ref ta), .val (.int nt), .val (.int any), .val (.ref da), .val (.int xi), .val (.int xj)] [(.int (1 : Int32))]))
          refine EndsK.go (fun _ kz => XS.goto X0.here hx rfl (pc0 := 27) (pc' := 31) rfl (hb hby d4_27) (by decide) (by decide) kz) ?_
          show EndsK p e below _ (s₁.setTop (mkF m 31 #[.val (.ref pa), .val (.int np), .val (.ref ta), .val (.int nt), .val (.int any), .val (.ref da), .val (.int xi), .val (.int xj)] [(.int (1 : Int32))]))
          exact endN X0 hx (t := .boolean) Bd.returns (by simp) (hb hby d4_31) hlk ⟨(congrArg (fun z => some (Value.int z)) (by unfold cellAt cellF; rw [if_neg H3_1, if_neg H9_2, if_pos H17_3, if_pos H23_4] : cellAt any np nt PL TL f xi xj = (1 : Int32))).symm, N0, e0⟩ (by decide) (by decide)
        · refine EndsK.go (fun _ kz => XS.icmpYes X0.here hx rfl (pc0 := 23) (pc' := 30) rfl (hb hby d4_23) rfl (feq H23_4).2 (by decide) (by decide) kz) ?_
          show EndsK p e below _ (s₁.setTop (mkF m 30 #[.val (.ref pa), .val (.int np), .val (.ref ta), .val (.int nt), .val (.int any), .val (.ref da), .val (.int xi), .val (.int xj)] []))
          refine EndsK.go (fun _ kz => XS.iconst X0.here hx rfl (hb hby d4_30) kz) ?_
          show EndsK p e below _ (s₁.setTop (mkF m 31 #[.val (.ref pa), .val (.int np), .val (.ref ta), .val (.int nt), .val (.int any), .val (.ref da), .val (.int xi), .val (.int xj)] [(.int (0 : Int32))]))
          exact endN X0 hx (t := .boolean) Bd.returns (by simp) (hb hby d4_31) hlk ⟨(congrArg (fun z => some (Value.int z)) (by unfold cellAt cellF; rw [if_neg H3_1, if_neg H9_2, if_pos H17_3, if_neg H23_4] : cellAt any np nt PL TL f xi xj = (0 : Int32))).symm, N0, e0⟩ (by decide) (by decide)
      · refine EndsK.go (fun _ kz => XS.icmpYes X0.here hx rfl (pc0 := 17) (pc' := 32) rfl (hb hby d4_17) rfl (feq H17_3).2 (by decide) (by decide) kz) ?_
        show EndsK p e below _ (s₁.setTop (mkF m 32 #[.val (.ref pa), .val (.int np), .val (.ref ta), .val (.int nt), .val (.int any), .val (.ref da), .val (.int xi), .val (.int xj)] []))
        have fz1 := rng32 np
        have fz2 := rng32 xi
        have fz3 : ¬ ((np).toInt < (xi).toInt) := fun qz => H3_1 (Int32.lt_iff_toInt_lt.mpr qz)
        have fz4 := rng32 nt
        have fz5 := rng32 xj
        have fz6 : ¬ ((nt).toInt < (xj).toInt) := fun qz => H9_2 (Int32.lt_iff_toInt_lt.mpr qz)
        have fz7 : ¬ ((xi).toInt = (np).toInt) := fun qz => H17_3 (Int32.toInt_inj.mp qz)
        have f1 := c_iadd xi 1
        have f1r := rng32 (xi + 1)
        have inP : ¬ xi < 0 ∧ xi < 4 := by simp only [Int32.lt_iff_toInt_lt]; omega
        have inD0 : ¬ xi < 0 ∧ xi < 5 := by simp only [Int32.lt_iff_toInt_lt]; omega
        have inD1 : ¬ (xi + (1 : Int32)) < 0 ∧ (xi + (1 : Int32)) < 5 := by simp only [Int32.lt_iff_toInt_lt]; omega
        have inJ : ¬ xj < 0 ∧ xj < 5 := by simp only [Int32.lt_iff_toInt_lt]; omega
        have k0 := own_nat bi0
        have k1 : (xi + (1 : Int32)).toNatClampNeg = xi.toNatClampNeg + 1 := by have q := own_nat (x := xi + (1 : Int32)) (by omega); omega
        have kj := own_nat bj0
        obtain ⟨v1, v2⟩ := own_row hxs (k := xi.toNatClampNeg) (by omega)
        obtain ⟨w1, w2⟩ := own_row hxs (k := (xi + (1 : Int32)).toNatClampNeg) (by omega)
        obtain ⟨y0, ey0⟩ : ∃ z, z = da + 1 + xi.toNatClampNeg := ⟨_, rfl⟩
        obtain ⟨y1, ey1⟩ : ∃ z, z = da + 1 + (xi + (1 : Int32)).toNatClampNeg := ⟨_, rfl⟩
        rw [← ey0] at v1 v2
        rw [← ey1] at w1 w2
        obtain ⟨c0, A0, S0, R0⟩ := TG.2 _ _ v1
        obtain ⟨c1, A1, S1, R1⟩ := TG.2 _ _ w1
        have hg1 := R1 xj.toNatClampNeg (by omega)
        rw [k1] at hg1
        show EndsK p e below _ (s₁.setTop (mkF m 32 #[.val (.ref pa), .val (.int np), .val (.ref ta), .val (.int nt), .val (.int any), .val (.ref da), .val (.int xi), .val (.int xj)] []))
        refine EndsK.go (fun _ kz => XS.aloadN X0.here hx rfl (hb hby d4_32) rfl rfl kz) ?_
        show EndsK p e below _ (s₁.setTop (mkF m 33 #[.val (.ref pa), .val (.int np), .val (.ref ta), .val (.int nt), .val (.int any), .val (.ref da), .val (.int xi), .val (.int xj)] [(.ref pa)]))
        refine EndsK.go (fun _ kz => XS.iload X0.here hx rfl (hb hby d4_33) rfl kz) ?_
        show EndsK p e below _ (s₁.setTop (mkF m 35 #[.val (.ref pa), .val (.int np), .val (.ref ta), .val (.int nt), .val (.int any), .val (.ref da), .val (.int xi), .val (.int xj)] [(.int xi), (.ref pa)]))
        refine EndsK.go (fun tz kz => X0.iaload hx (j := xi) (v := (.int (PL.getD xi.toNatClampNeg 0))) (by rw [e0]; exact AP.1) (State.isArrayOf_alike hZ.alike AP.2.1) AP.2.2 (inb_of qP2 inP) (Has.at HP (inb_of qP2 inP) (own_getD PL xi.toNatClampNeg)) (g := (mkF m 35 #[.val (.ref pa), .val (.int np), .val (.ref ta), .val (.int nt), .val (.int any), .val (.ref da), .val (.int xi), .val (.int xj)] [(.int xi), (.ref pa)])) rfl rfl (hb hby d4_35) tz kz) ?_
        show EndsK p e below _ (s₁.setTop (mkF m 36 #[.val (.ref pa), .val (.int np), .val (.ref ta), .val (.int nt), .val (.int any), .val (.ref da), .val (.int xi), .val (.int xj)] [(.int (PL.getD xi.toNatClampNeg 0))]))
        refine EndsK.go (fun _ kz => XS.bipush X0.here hx rfl (hb hby d4_36) kz) ?_
        show EndsK p e below _ (s₁.setTop (mkF m 38 #[.val (.ref pa), .val (.int np), .val (.ref ta), .val (.int nt), .val (.int any), .val (.ref da), .val (.int xi), .val (.int xj)] [(.int (37 : Int32)), (.int (PL.getD xi.toNatClampNeg 0))]))
        by_cases H38_5 : (PL.getD xi.toNatClampNeg 0) = (37 : Int32)
        · refine EndsK.go (fun _ kz => XS.icmpNo X0.here hx rfl (hb hby d4_38) rfl (teq H38_5).2 kz) ?_
          show EndsK p e below _ (s₁.setTop (mkF m 41 #[.val (.ref pa), .val (.int np), .val (.ref ta), .val (.int nt), .val (.int any), .val (.ref da), .val (.int xi), .val (.int xj)] []))
          refine EndsK.go (fun _ kz => XS.aload X0.here hx rfl (hb hby d4_41) rfl rfl kz) ?_
          show EndsK p e below _ (s₁.setTop (mkF m 43 #[.val (.ref pa), .val (.int np), .val (.ref ta), .val (.int nt), .val (.int any), .val (.ref da), .val (.int xi), .val (.int xj)] [(.ref da)]))
          refine EndsK.go (fun _ kz => XS.iload X0.here hx rfl (hb hby d4_43) rfl kz) ?_
          show EndsK p e below _ (s₁.setTop (mkF m 45 #[.val (.ref pa), .val (.int np), .val (.ref ta), .val (.int nt), .val (.int any), .val (.ref da), .val (.int xi), .val (.int xj)] [(.int xi), (.ref da)]))
          refine EndsK.go (fun _ kz => XS.iconst X0.here hx rfl (hb hby d4_45) kz) ?_
          show EndsK p e below _ (s₁.setTop (mkF m 46 #[.val (.ref pa), .val (.int np), .val (.ref ta), .val (.int nt), .val (.int any), .val (.ref da), .val (.int xi), .val (.int xj)] [(.int (1 : Int32)), (.int xi), (.ref da)]))
          refine EndsK.go (fun _ kz => XS.iadd X0.here hx rfl (hb hby d4_46) rfl kz) ?_
          show EndsK p e below _ (s₁.setTop (mkF m 47 #[.val (.ref pa), .val (.int np), .val (.ref ta), .val (.int nt), .val (.int any), .val (.ref da), .val (.int xi), .val (.int xj)] [(.int (xi + (1 : Int32))), (.ref da)]))
          refine EndsK.go (fun tz kz => X0.aaload hx (j := (xi + (1 : Int32))) (v := (.ref y1)) (by rw [e0]; exact AD.1) (State.isArrayOf_alike hZ.alike AD.2.1) rfl AD.2.2 (inb_of qD2 inD1) (Has.at HD (inb_of qD2 inD1) w2) (g := (mkF m 47 #[.val (.ref pa), .val (.int np), .val (.ref ta), .val (.int nt), .val (.int any), .val (.ref da), .val (.int xi), .val (.int xj)] [(.int (xi + (1 : Int32))), (.ref da)])) rfl rfl (hb hby d4_47) tz kz) ?_
          show EndsK p e below _ (s₁.setTop (mkF m 48 #[.val (.ref pa), .val (.int np), .val (.ref ta), .val (.int nt), .val (.int any), .val (.ref da), .val (.int xi), .val (.int xj)] [(.ref y1)]))
          refine EndsK.go (fun _ kz => XS.iload X0.here hx rfl (hb hby d4_48) rfl kz) ?_
          show EndsK p e below _ (s₁.setTop (mkF m 50 #[.val (.ref pa), .val (.int np), .val (.ref ta), .val (.int nt), .val (.int any), .val (.ref da), .val (.int xi), .val (.int xj)] [(.int xj), (.ref y1)]))
          refine EndsK.go (fun tz kz => X0.baloadBooleans hx (j := xj) (v := (.int (f (xi.toNatClampNeg + 1) xj.toNatClampNeg))) (by rw [e0]; exact A1.1) (State.isArrayOf_alike hZ.alike A1.2.1) A1.2.2 (inb_of S1 inJ) hg1 (g := (mkF m 50 #[.val (.ref pa), .val (.int np), .val (.ref ta), .val (.int nt), .val (.int any), .val (.ref da), .val (.int xi), .val (.int xj)] [(.int xj), (.ref y1)])) rfl rfl (hb hby d4_50) tz kz) ?_
          show EndsK p e below _ (s₁.setTop (mkF m 51 #[.val (.ref pa), .val (.int np), .val (.ref ta), .val (.int nt), .val (.int any), .val (.ref da), .val (.int xi), .val (.int xj)] [(.int (f (xi.toNatClampNeg + 1) xj.toNatClampNeg))]))
          by_cases H51_6 : (f (xi.toNatClampNeg + 1) xj.toNatClampNeg) = (0 : Int32)
          · refine EndsK.go (fun _ kz => XS.ifNo X0.here hx rfl (hb hby d4_51) rfl ((if0 _ _).trans (teq H51_6).2) kz) ?_
            show EndsK p e below _ (s₁.setTop (mkF m 54 #[.val (.ref pa), .val (.int np), .val (.ref ta), .val (.int nt), .val (.int any), .val (.ref da), .val (.int xi), .val (.int xj)] []))
            refine EndsK.go (fun _ kz => XS.iload X0.here hx rfl (hb hby d4_54) rfl kz) ?_
            show EndsK p e below _ (s₁.setTop (mkF m 56 #[.val (.ref pa), .val (.int np), .val (.ref ta), .val (.int nt), .val (.int any), .val (.ref da), .val (.int xi), .val (.int xj)] [(.int xj)]))
            refine EndsK.go (fun _ kz => XS.iloadN X0.here hx rfl (hb hby d4_56) rfl kz) ?_
            show EndsK p e below _ (s₁.setTop (mkF m 57 #[.val (.ref pa), .val (.int np), .val (.ref ta), .val (.int nt), .val (.int any), .val (.ref da), .val (.int xi), .val (.int xj)] [(.int nt), (.int xj)]))
            by_cases H57_7 : xj < nt
            · refine EndsK.go (fun _ kz => XS.icmpNo X0.here hx rfl (hb hby d4_57) rfl (tlt H57_7).2.1 kz) ?_
              show EndsK p e below _ (s₁.setTop (mkF m 60 #[.val (.ref pa), .val (.int np), .val (.ref ta), .val (.int nt), .val (.int any), .val (.ref da), .val (.int xi), .val (.int xj)] []))
              have fz1 := rng32 np
              have fz2 := rng32 xi
              have fz3 : ¬ ((np).toInt < (xi).toInt) := fun qz => H3_1 (Int32.lt_iff_toInt_lt.mpr qz)
              have fz4 := rng32 nt
              have fz5 := rng32 xj
              have fz6 : ¬ ((nt).toInt < (xj).toInt) := fun qz => H9_2 (Int32.lt_iff_toInt_lt.mpr qz)
              have fz7 : ¬ ((xi).toInt = (np).toInt) := fun qz => H17_3 (Int32.toInt_inj.mp qz)
              have fz8 : (xj).toInt < (nt).toInt := Int32.lt_iff_toInt_lt.mp H57_7
              have f2 := c_iadd xj 1
              have f2r := rng32 (xj + 1)
              have inJ1 : ¬ (xj + (1 : Int32)) < 0 ∧ (xj + (1 : Int32)) < 5 := by simp only [Int32.lt_iff_toInt_lt]; omega
              have k2 : (xj + (1 : Int32)).toNatClampNeg = xj.toNatClampNeg + 1 := by have q := own_nat (x := xj + (1 : Int32)) (by omega); omega
              have hg2 : c0.slots[(xj + (1 : Int32)).toNatClampNeg]? = some (Value.int (f xi.toNatClampNeg (xj.toNatClampNeg + 1))) := by rw [R0 (xj + (1 : Int32)).toNatClampNeg (by omega), k2]
              show EndsK p e below _ (s₁.setTop (mkF m 60 #[.val (.ref pa), .val (.int np), .val (.ref ta), .val (.int nt), .val (.int any), .val (.ref da), .val (.int xi), .val (.int xj)] []))
              refine EndsK.go (fun _ kz => XS.aload X0.here hx rfl (hb hby d4_60) rfl rfl kz) ?_
              show EndsK p e below _ (s₁.setTop (mkF m 62 #[.val (.ref pa), .val (.int np), .val (.ref ta), .val (.int nt), .val (.int any), .val (.ref da), .val (.int xi), .val (.int xj)] [(.ref da)]))
              refine EndsK.go (fun _ kz => XS.iload X0.here hx rfl (hb hby d4_62) rfl kz) ?_
              show EndsK p e below _ (s₁.setTop (mkF m 64 #[.val (.ref pa), .val (.int np), .val (.ref ta), .val (.int nt), .val (.int any), .val (.ref da), .val (.int xi), .val (.int xj)] [(.int xi), (.ref da)]))
              refine EndsK.go (fun tz kz => X0.aaload hx (j := xi) (v := (.ref y0)) (by rw [e0]; exact AD.1) (State.isArrayOf_alike hZ.alike AD.2.1) rfl AD.2.2 (inb_of qD2 inD0) (Has.at HD (inb_of qD2 inD0) v2) (g := (mkF m 64 #[.val (.ref pa), .val (.int np), .val (.ref ta), .val (.int nt), .val (.int any), .val (.ref da), .val (.int xi), .val (.int xj)] [(.int xi), (.ref da)])) rfl rfl (hb hby d4_64) tz kz) ?_
              show EndsK p e below _ (s₁.setTop (mkF m 65 #[.val (.ref pa), .val (.int np), .val (.ref ta), .val (.int nt), .val (.int any), .val (.ref da), .val (.int xi), .val (.int xj)] [(.ref y0)]))
              refine EndsK.go (fun _ kz => XS.iload X0.here hx rfl (hb hby d4_65) rfl kz) ?_
              show EndsK p e below _ (s₁.setTop (mkF m 67 #[.val (.ref pa), .val (.int np), .val (.ref ta), .val (.int nt), .val (.int any), .val (.ref da), .val (.int xi), .val (.int xj)] [(.int xj), (.ref y0)]))
              refine EndsK.go (fun _ kz => XS.iconst X0.here hx rfl (hb hby d4_67) kz) ?_
              show EndsK p e below _ (s₁.setTop (mkF m 68 #[.val (.ref pa), .val (.int np), .val (.ref ta), .val (.int nt), .val (.int any), .val (.ref da), .val (.int xi), .val (.int xj)] [(.int (1 : Int32)), (.int xj), (.ref y0)]))
              refine EndsK.go (fun _ kz => XS.iadd X0.here hx rfl (hb hby d4_68) rfl kz) ?_
              show EndsK p e below _ (s₁.setTop (mkF m 69 #[.val (.ref pa), .val (.int np), .val (.ref ta), .val (.int nt), .val (.int any), .val (.ref da), .val (.int xi), .val (.int xj)] [(.int (xj + (1 : Int32))), (.ref y0)]))
              refine EndsK.go (fun tz kz => X0.baloadBooleans hx (j := (xj + (1 : Int32))) (v := (.int (f xi.toNatClampNeg (xj.toNatClampNeg + 1)))) (by rw [e0]; exact A0.1) (State.isArrayOf_alike hZ.alike A0.2.1) A0.2.2 (inb_of S0 inJ1) hg2 (g := (mkF m 69 #[.val (.ref pa), .val (.int np), .val (.ref ta), .val (.int nt), .val (.int any), .val (.ref da), .val (.int xi), .val (.int xj)] [(.int (xj + (1 : Int32))), (.ref y0)])) rfl rfl (hb hby d4_69) tz kz) ?_
              show EndsK p e below _ (s₁.setTop (mkF m 70 #[.val (.ref pa), .val (.int np), .val (.ref ta), .val (.int nt), .val (.int any), .val (.ref da), .val (.int xi), .val (.int xj)] [(.int (f xi.toNatClampNeg (xj.toNatClampNeg + 1)))]))
              by_cases H70_8 : (f xi.toNatClampNeg (xj.toNatClampNeg + 1)) = (0 : Int32)
              · refine EndsK.go (fun _ kz => XS.ifYes X0.here hx rfl (pc0 := 70) (pc' := 77) rfl (hb hby d4_70) rfl ((if0 _ _).trans (teq H70_8).1) (by decide) (by decide) kz) ?_
                show EndsK p e below _ (s₁.setTop (mkF m 77 #[.val (.ref pa), .val (.int np), .val (.ref ta), .val (.int nt), .val (.int any), .val (.ref da), .val (.int xi), .val (.int xj)] []))
                refine EndsK.go (fun _ kz => XS.iconst X0.here hx rfl (hb hby d4_77) kz) ?_
                show EndsK p e below _ (s₁.setTop (mkF m 78 #[.val (.ref pa), .val (.int np), .val (.ref ta), .val (.int nt), .val (.int any), .val (.ref da), .val (.int xi), .val (.int xj)] [(.int (0 : Int32))]))
                exact endN X0 hx (t := .boolean) Bd.returns (by simp) (hb hby d4_78) hlk ⟨(congrArg (fun z => some (Value.int z)) (by unfold cellAt cellF; rw [if_neg H3_1, if_neg H9_2, if_neg H17_3, if_pos H38_5, if_pos H51_6, if_pos H57_7, if_pos H70_8] : cellAt any np nt PL TL f xi xj = (0 : Int32))).symm, N0, e0⟩ (by decide) (by decide)
              · refine EndsK.go (fun _ kz => XS.ifNo X0.here hx rfl (hb hby d4_70) rfl ((if0 _ _).trans (feq H70_8).1) kz) ?_
                show EndsK p e below _ (s₁.setTop (mkF m 73 #[.val (.ref pa), .val (.int np), .val (.ref ta), .val (.int nt), .val (.int any), .val (.ref da), .val (.int xi), .val (.int xj)] []))
                refine EndsK.go (fun _ kz => XS.iconst X0.here hx rfl (hb hby d4_73) kz) ?_
                show EndsK p e below _ (s₁.setTop (mkF m 74 #[.val (.ref pa), .val (.int np), .val (.ref ta), .val (.int nt), .val (.int any), .val (.ref da), .val (.int xi), .val (.int xj)] [(.int (1 : Int32))]))
                refine EndsK.go (fun _ kz => XS.goto X0.here hx rfl (pc0 := 74) (pc' := 78) rfl (hb hby d4_74) (by decide) (by decide) kz) ?_
                show EndsK p e below _ (s₁.setTop (mkF m 78 #[.val (.ref pa), .val (.int np), .val (.ref ta), .val (.int nt), .val (.int any), .val (.ref da), .val (.int xi), .val (.int xj)] [(.int (1 : Int32))]))
                exact endN X0 hx (t := .boolean) Bd.returns (by simp) (hb hby d4_78) hlk ⟨(congrArg (fun z => some (Value.int z)) (by unfold cellAt cellF; rw [if_neg H3_1, if_neg H9_2, if_neg H17_3, if_pos H38_5, if_pos H51_6, if_pos H57_7, if_neg H70_8] : cellAt any np nt PL TL f xi xj = (1 : Int32))).symm, N0, e0⟩ (by decide) (by decide)
            · refine EndsK.go (fun _ kz => XS.icmpYes X0.here hx rfl (pc0 := 57) (pc' := 77) rfl (hb hby d4_57) rfl (flt H57_7).2.1 (by decide) (by decide) kz) ?_
              show EndsK p e below _ (s₁.setTop (mkF m 77 #[.val (.ref pa), .val (.int np), .val (.ref ta), .val (.int nt), .val (.int any), .val (.ref da), .val (.int xi), .val (.int xj)] []))
              refine EndsK.go (fun _ kz => XS.iconst X0.here hx rfl (hb hby d4_77) kz) ?_
              show EndsK p e below _ (s₁.setTop (mkF m 78 #[.val (.ref pa), .val (.int np), .val (.ref ta), .val (.int nt), .val (.int any), .val (.ref da), .val (.int xi), .val (.int xj)] [(.int (0 : Int32))]))
              exact endN X0 hx (t := .boolean) Bd.returns (by simp) (hb hby d4_78) hlk ⟨(congrArg (fun z => some (Value.int z)) (by unfold cellAt cellF; rw [if_neg H3_1, if_neg H9_2, if_neg H17_3, if_pos H38_5, if_pos H51_6, if_neg H57_7] : cellAt any np nt PL TL f xi xj = (0 : Int32))).symm, N0, e0⟩ (by decide) (by decide)
          · refine EndsK.go (fun _ kz => XS.ifYes X0.here hx rfl (pc0 := 51) (pc' := 73) rfl (hb hby d4_51) rfl ((if0 _ _).trans (feq H51_6).2) (by decide) (by decide) kz) ?_
            show EndsK p e below _ (s₁.setTop (mkF m 73 #[.val (.ref pa), .val (.int np), .val (.ref ta), .val (.int nt), .val (.int any), .val (.ref da), .val (.int xi), .val (.int xj)] []))
            refine EndsK.go (fun _ kz => XS.iconst X0.here hx rfl (hb hby d4_73) kz) ?_
            show EndsK p e below _ (s₁.setTop (mkF m 74 #[.val (.ref pa), .val (.int np), .val (.ref ta), .val (.int nt), .val (.int any), .val (.ref da), .val (.int xi), .val (.int xj)] [(.int (1 : Int32))]))
            refine EndsK.go (fun _ kz => XS.goto X0.here hx rfl (pc0 := 74) (pc' := 78) rfl (hb hby d4_74) (by decide) (by decide) kz) ?_
            show EndsK p e below _ (s₁.setTop (mkF m 78 #[.val (.ref pa), .val (.int np), .val (.ref ta), .val (.int nt), .val (.int any), .val (.ref da), .val (.int xi), .val (.int xj)] [(.int (1 : Int32))]))
            exact endN X0 hx (t := .boolean) Bd.returns (by simp) (hb hby d4_78) hlk ⟨(congrArg (fun z => some (Value.int z)) (by unfold cellAt cellF; rw [if_neg H3_1, if_neg H9_2, if_neg H17_3, if_pos H38_5, if_neg H51_6] : cellAt any np nt PL TL f xi xj = (1 : Int32))).symm, N0, e0⟩ (by decide) (by decide)
        · refine EndsK.go (fun _ kz => XS.icmpYes X0.here hx rfl (pc0 := 38) (pc' := 79) rfl (hb hby d4_38) rfl (feq H38_5).2 (by decide) (by decide) kz) ?_
          show EndsK p e below _ (s₁.setTop (mkF m 79 #[.val (.ref pa), .val (.int np), .val (.ref ta), .val (.int nt), .val (.int any), .val (.ref da), .val (.int xi), .val (.int xj)] []))
          refine EndsK.go (fun _ kz => XS.iload X0.here hx rfl (hb hby d4_79) rfl kz) ?_
          show EndsK p e below _ (s₁.setTop (mkF m 81 #[.val (.ref pa), .val (.int np), .val (.ref ta), .val (.int nt), .val (.int any), .val (.ref da), .val (.int xi), .val (.int xj)] [(.int xj)]))
          refine EndsK.go (fun _ kz => XS.iloadN X0.here hx rfl (hb hby d4_81) rfl kz) ?_
          show EndsK p e below _ (s₁.setTop (mkF m 82 #[.val (.ref pa), .val (.int np), .val (.ref ta), .val (.int nt), .val (.int any), .val (.ref da), .val (.int xi), .val (.int xj)] [(.int nt), (.int xj)]))
          by_cases H82_9 : xj = nt
          · refine EndsK.go (fun _ kz => XS.icmpNo X0.here hx rfl (hb hby d4_82) rfl (teq H82_9).2 kz) ?_
            show EndsK p e below _ (s₁.setTop (mkF m 85 #[.val (.ref pa), .val (.int np), .val (.ref ta), .val (.int nt), .val (.int any), .val (.ref da), .val (.int xi), .val (.int xj)] []))
            refine EndsK.go (fun _ kz => XS.iconst X0.here hx rfl (hb hby d4_85) kz) ?_
            show EndsK p e below _ (s₁.setTop (mkF m 86 #[.val (.ref pa), .val (.int np), .val (.ref ta), .val (.int nt), .val (.int any), .val (.ref da), .val (.int xi), .val (.int xj)] [(.int (0 : Int32))]))
            exact endN X0 hx (t := .boolean) Bd.returns (by simp) (hb hby d4_86) hlk ⟨(congrArg (fun z => some (Value.int z)) (by unfold cellAt cellF; rw [if_neg H3_1, if_neg H9_2, if_neg H17_3, if_neg H38_5, if_pos H82_9] : cellAt any np nt PL TL f xi xj = (0 : Int32))).symm, N0, e0⟩ (by decide) (by decide)
          · refine EndsK.go (fun _ kz => XS.icmpYes X0.here hx rfl (pc0 := 82) (pc' := 87) rfl (hb hby d4_82) rfl (feq H82_9).2 (by decide) (by decide) kz) ?_
            show EndsK p e below _ (s₁.setTop (mkF m 87 #[.val (.ref pa), .val (.int np), .val (.ref ta), .val (.int nt), .val (.int any), .val (.ref da), .val (.int xi), .val (.int xj)] []))
            refine EndsK.go (fun _ kz => XS.aloadN X0.here hx rfl (hb hby d4_87) rfl rfl kz) ?_
            show EndsK p e below _ (s₁.setTop (mkF m 88 #[.val (.ref pa), .val (.int np), .val (.ref ta), .val (.int nt), .val (.int any), .val (.ref da), .val (.int xi), .val (.int xj)] [(.ref pa)]))
            refine EndsK.go (fun _ kz => XS.iload X0.here hx rfl (hb hby d4_88) rfl kz) ?_
            show EndsK p e below _ (s₁.setTop (mkF m 90 #[.val (.ref pa), .val (.int np), .val (.ref ta), .val (.int nt), .val (.int any), .val (.ref da), .val (.int xi), .val (.int xj)] [(.int xi), (.ref pa)]))
            refine EndsK.go (fun tz kz => X0.iaload hx (j := xi) (v := (.int (PL.getD xi.toNatClampNeg 0))) (by rw [e0]; exact AP.1) (State.isArrayOf_alike hZ.alike AP.2.1) AP.2.2 (inb_of qP2 inP) (Has.at HP (inb_of qP2 inP) (own_getD PL xi.toNatClampNeg)) (g := (mkF m 90 #[.val (.ref pa), .val (.int np), .val (.ref ta), .val (.int nt), .val (.int any), .val (.ref da), .val (.int xi), .val (.int xj)] [(.int xi), (.ref pa)])) rfl rfl (hb hby d4_90) tz kz) ?_
            show EndsK p e below _ (s₁.setTop (mkF m 91 #[.val (.ref pa), .val (.int np), .val (.ref ta), .val (.int nt), .val (.int any), .val (.ref da), .val (.int xi), .val (.int xj)] [(.int (PL.getD xi.toNatClampNeg 0))]))
            refine EndsK.go (fun _ kz => XS.iload X0.here hx rfl (hb hby d4_91) rfl kz) ?_
            show EndsK p e below _ (s₁.setTop (mkF m 93 #[.val (.ref pa), .val (.int np), .val (.ref ta), .val (.int nt), .val (.int any), .val (.ref da), .val (.int xi), .val (.int xj)] [(.int any), (.int (PL.getD xi.toNatClampNeg 0))]))
            by_cases H93_10 : (PL.getD xi.toNatClampNeg 0) = any
            · refine EndsK.go (fun _ kz => XS.icmpYes X0.here hx rfl (pc0 := 93) (pc' := 107) rfl (hb hby d4_93) rfl (teq H93_10).1 (by decide) (by decide) kz) ?_
              show EndsK p e below _ (s₁.setTop (mkF m 107 #[.val (.ref pa), .val (.int np), .val (.ref ta), .val (.int nt), .val (.int any), .val (.ref da), .val (.int xi), .val (.int xj)] []))
              have fz1 := rng32 np
              have fz2 := rng32 xi
              have fz3 : ¬ ((np).toInt < (xi).toInt) := fun qz => H3_1 (Int32.lt_iff_toInt_lt.mpr qz)
              have fz4 := rng32 nt
              have fz5 := rng32 xj
              have fz6 : ¬ ((nt).toInt < (xj).toInt) := fun qz => H9_2 (Int32.lt_iff_toInt_lt.mpr qz)
              have fz7 : ¬ ((xi).toInt = (np).toInt) := fun qz => H17_3 (Int32.toInt_inj.mp qz)
              have fz8 : ¬ ((xj).toInt = (nt).toInt) := fun qz => H82_9 (Int32.toInt_inj.mp qz)
              have f2 := c_iadd xj 1
              have f2r := rng32 (xj + 1)
              have inJ1 : ¬ (xj + (1 : Int32)) < 0 ∧ (xj + (1 : Int32)) < 5 := by simp only [Int32.lt_iff_toInt_lt]; omega
              have k2 : (xj + (1 : Int32)).toNatClampNeg = xj.toNatClampNeg + 1 := by have q := own_nat (x := xj + (1 : Int32)) (by omega); omega
              have hg3 : c1.slots[(xj + (1 : Int32)).toNatClampNeg]? = some (Value.int (f (xi.toNatClampNeg + 1) (xj.toNatClampNeg + 1))) := by rw [R1 (xj + (1 : Int32)).toNatClampNeg (by omega), k1, k2]
              show EndsK p e below _ (s₁.setTop (mkF m 107 #[.val (.ref pa), .val (.int np), .val (.ref ta), .val (.int nt), .val (.int any), .val (.ref da), .val (.int xi), .val (.int xj)] []))
              refine EndsK.go (fun _ kz => XS.aload X0.here hx rfl (hb hby d4_107) rfl rfl kz) ?_
              show EndsK p e below _ (s₁.setTop (mkF m 109 #[.val (.ref pa), .val (.int np), .val (.ref ta), .val (.int nt), .val (.int any), .val (.ref da), .val (.int xi), .val (.int xj)] [(.ref da)]))
              refine EndsK.go (fun _ kz => XS.iload X0.here hx rfl (hb hby d4_109) rfl kz) ?_
              show EndsK p e below _ (s₁.setTop (mkF m 111 #[.val (.ref pa), .val (.int np), .val (.ref ta), .val (.int nt), .val (.int any), .val (.ref da), .val (.int xi), .val (.int xj)] [(.int xi), (.ref da)]))
              refine EndsK.go (fun _ kz => XS.iconst X0.here hx rfl (hb hby d4_111) kz) ?_
              show EndsK p e below _ (s₁.setTop (mkF m 112 #[.val (.ref pa), .val (.int np), .val (.ref ta), .val (.int nt), .val (.int any), .val (.ref da), .val (.int xi), .val (.int xj)] [(.int (1 : Int32)), (.int xi), (.ref da)]))
              refine EndsK.go (fun _ kz => XS.iadd X0.here hx rfl (hb hby d4_112) rfl kz) ?_
              show EndsK p e below _ (s₁.setTop (mkF m 113 #[.val (.ref pa), .val (.int np), .val (.ref ta), .val (.int nt), .val (.int any), .val (.ref da), .val (.int xi), .val (.int xj)] [(.int (xi + (1 : Int32))), (.ref da)]))
              refine EndsK.go (fun tz kz => X0.aaload hx (j := (xi + (1 : Int32))) (v := (.ref y1)) (by rw [e0]; exact AD.1) (State.isArrayOf_alike hZ.alike AD.2.1) rfl AD.2.2 (inb_of qD2 inD1) (Has.at HD (inb_of qD2 inD1) w2) (g := (mkF m 113 #[.val (.ref pa), .val (.int np), .val (.ref ta), .val (.int nt), .val (.int any), .val (.ref da), .val (.int xi), .val (.int xj)] [(.int (xi + (1 : Int32))), (.ref da)])) rfl rfl (hb hby d4_113) tz kz) ?_
              show EndsK p e below _ (s₁.setTop (mkF m 114 #[.val (.ref pa), .val (.int np), .val (.ref ta), .val (.int nt), .val (.int any), .val (.ref da), .val (.int xi), .val (.int xj)] [(.ref y1)]))
              refine EndsK.go (fun _ kz => XS.iload X0.here hx rfl (hb hby d4_114) rfl kz) ?_
              show EndsK p e below _ (s₁.setTop (mkF m 116 #[.val (.ref pa), .val (.int np), .val (.ref ta), .val (.int nt), .val (.int any), .val (.ref da), .val (.int xi), .val (.int xj)] [(.int xj), (.ref y1)]))
              refine EndsK.go (fun _ kz => XS.iconst X0.here hx rfl (hb hby d4_116) kz) ?_
              show EndsK p e below _ (s₁.setTop (mkF m 117 #[.val (.ref pa), .val (.int np), .val (.ref ta), .val (.int nt), .val (.int any), .val (.ref da), .val (.int xi), .val (.int xj)] [(.int (1 : Int32)), (.int xj), (.ref y1)]))
              refine EndsK.go (fun _ kz => XS.iadd X0.here hx rfl (hb hby d4_117) rfl kz) ?_
              show EndsK p e below _ (s₁.setTop (mkF m 118 #[.val (.ref pa), .val (.int np), .val (.ref ta), .val (.int nt), .val (.int any), .val (.ref da), .val (.int xi), .val (.int xj)] [(.int (xj + (1 : Int32))), (.ref y1)]))
              refine EndsK.go (fun tz kz => X0.baloadBooleans hx (j := (xj + (1 : Int32))) (v := (.int (f (xi.toNatClampNeg + 1) (xj.toNatClampNeg + 1)))) (by rw [e0]; exact A1.1) (State.isArrayOf_alike hZ.alike A1.2.1) A1.2.2 (inb_of S1 inJ1) hg3 (g := (mkF m 118 #[.val (.ref pa), .val (.int np), .val (.ref ta), .val (.int nt), .val (.int any), .val (.ref da), .val (.int xi), .val (.int xj)] [(.int (xj + (1 : Int32))), (.ref y1)])) rfl rfl (hb hby d4_118) tz kz) ?_
              show EndsK p e below _ (s₁.setTop (mkF m 119 #[.val (.ref pa), .val (.int np), .val (.ref ta), .val (.int nt), .val (.int any), .val (.ref da), .val (.int xi), .val (.int xj)] [(.int (f (xi.toNatClampNeg + 1) (xj.toNatClampNeg + 1)))]))
              by_cases H119_11 : (f (xi.toNatClampNeg + 1) (xj.toNatClampNeg + 1)) = (0 : Int32)
              · refine EndsK.go (fun _ kz => XS.ifYes X0.here hx rfl (pc0 := 119) (pc' := 126) rfl (hb hby d4_119) rfl ((if0 _ _).trans (teq H119_11).1) (by decide) (by decide) kz) ?_
                show EndsK p e below _ (s₁.setTop (mkF m 126 #[.val (.ref pa), .val (.int np), .val (.ref ta), .val (.int nt), .val (.int any), .val (.ref da), .val (.int xi), .val (.int xj)] []))
                refine EndsK.go (fun _ kz => XS.iconst X0.here hx rfl (hb hby d4_126) kz) ?_
                show EndsK p e below _ (s₁.setTop (mkF m 127 #[.val (.ref pa), .val (.int np), .val (.ref ta), .val (.int nt), .val (.int any), .val (.ref da), .val (.int xi), .val (.int xj)] [(.int (0 : Int32))]))
                exact endN X0 hx (t := .boolean) Bd.returns (by simp) (hb hby d4_127) hlk ⟨(congrArg (fun z => some (Value.int z)) (by unfold cellAt cellF; rw [if_neg H3_1, if_neg H9_2, if_neg H17_3, if_neg H38_5, if_neg H82_9, if_pos H93_10, if_pos H119_11] : cellAt any np nt PL TL f xi xj = (0 : Int32))).symm, N0, e0⟩ (by decide) (by decide)
              · refine EndsK.go (fun _ kz => XS.ifNo X0.here hx rfl (hb hby d4_119) rfl ((if0 _ _).trans (feq H119_11).1) kz) ?_
                show EndsK p e below _ (s₁.setTop (mkF m 122 #[.val (.ref pa), .val (.int np), .val (.ref ta), .val (.int nt), .val (.int any), .val (.ref da), .val (.int xi), .val (.int xj)] []))
                refine EndsK.go (fun _ kz => XS.iconst X0.here hx rfl (hb hby d4_122) kz) ?_
                show EndsK p e below _ (s₁.setTop (mkF m 123 #[.val (.ref pa), .val (.int np), .val (.ref ta), .val (.int nt), .val (.int any), .val (.ref da), .val (.int xi), .val (.int xj)] [(.int (1 : Int32))]))
                refine EndsK.go (fun _ kz => XS.goto X0.here hx rfl (pc0 := 123) (pc' := 127) rfl (hb hby d4_123) (by decide) (by decide) kz) ?_
                show EndsK p e below _ (s₁.setTop (mkF m 127 #[.val (.ref pa), .val (.int np), .val (.ref ta), .val (.int nt), .val (.int any), .val (.ref da), .val (.int xi), .val (.int xj)] [(.int (1 : Int32))]))
                exact endN X0 hx (t := .boolean) Bd.returns (by simp) (hb hby d4_127) hlk ⟨(congrArg (fun z => some (Value.int z)) (by unfold cellAt cellF; rw [if_neg H3_1, if_neg H9_2, if_neg H17_3, if_neg H38_5, if_neg H82_9, if_pos H93_10, if_neg H119_11] : cellAt any np nt PL TL f xi xj = (1 : Int32))).symm, N0, e0⟩ (by decide) (by decide)
            · refine EndsK.go (fun _ kz => XS.icmpNo X0.here hx rfl (hb hby d4_93) rfl (feq H93_10).1 kz) ?_
              show EndsK p e below _ (s₁.setTop (mkF m 96 #[.val (.ref pa), .val (.int np), .val (.ref ta), .val (.int nt), .val (.int any), .val (.ref da), .val (.int xi), .val (.int xj)] []))
              refine EndsK.go (fun _ kz => XS.aloadN X0.here hx rfl (hb hby d4_96) rfl rfl kz) ?_
              show EndsK p e below _ (s₁.setTop (mkF m 97 #[.val (.ref pa), .val (.int np), .val (.ref ta), .val (.int nt), .val (.int any), .val (.ref da), .val (.int xi), .val (.int xj)] [(.ref pa)]))
              refine EndsK.go (fun _ kz => XS.iload X0.here hx rfl (hb hby d4_97) rfl kz) ?_
              show EndsK p e below _ (s₁.setTop (mkF m 99 #[.val (.ref pa), .val (.int np), .val (.ref ta), .val (.int nt), .val (.int any), .val (.ref da), .val (.int xi), .val (.int xj)] [(.int xi), (.ref pa)]))
              refine EndsK.go (fun tz kz => X0.iaload hx (j := xi) (v := (.int (PL.getD xi.toNatClampNeg 0))) (by rw [e0]; exact AP.1) (State.isArrayOf_alike hZ.alike AP.2.1) AP.2.2 (inb_of qP2 inP) (Has.at HP (inb_of qP2 inP) (own_getD PL xi.toNatClampNeg)) (g := (mkF m 99 #[.val (.ref pa), .val (.int np), .val (.ref ta), .val (.int nt), .val (.int any), .val (.ref da), .val (.int xi), .val (.int xj)] [(.int xi), (.ref pa)])) rfl rfl (hb hby d4_99) tz kz) ?_
              show EndsK p e below _ (s₁.setTop (mkF m 100 #[.val (.ref pa), .val (.int np), .val (.ref ta), .val (.int nt), .val (.int any), .val (.ref da), .val (.int xi), .val (.int xj)] [(.int (PL.getD xi.toNatClampNeg 0))]))
              have fz1 := rng32 np
              have fz2 := rng32 xi
              have fz3 : ¬ ((np).toInt < (xi).toInt) := fun qz => H3_1 (Int32.lt_iff_toInt_lt.mpr qz)
              have fz4 := rng32 nt
              have fz5 := rng32 xj
              have fz6 : ¬ ((nt).toInt < (xj).toInt) := fun qz => H9_2 (Int32.lt_iff_toInt_lt.mpr qz)
              have fz7 : ¬ ((xi).toInt = (np).toInt) := fun qz => H17_3 (Int32.toInt_inj.mp qz)
              have fz8 : ¬ ((xj).toInt = (nt).toInt) := fun qz => H82_9 (Int32.toInt_inj.mp qz)
              have inT : ¬ xj < 0 ∧ xj < 4 := by simp only [Int32.lt_iff_toInt_lt]; omega
              show EndsK p e below _ (s₁.setTop (mkF m 100 #[.val (.ref pa), .val (.int np), .val (.ref ta), .val (.int nt), .val (.int any), .val (.ref da), .val (.int xi), .val (.int xj)] [(.int (PL.getD xi.toNatClampNeg 0))]))
              refine EndsK.go (fun _ kz => XS.aloadN X0.here hx rfl (hb hby d4_100) rfl rfl kz) ?_
              show EndsK p e below _ (s₁.setTop (mkF m 101 #[.val (.ref pa), .val (.int np), .val (.ref ta), .val (.int nt), .val (.int any), .val (.ref da), .val (.int xi), .val (.int xj)] [(.ref ta), (.int (PL.getD xi.toNatClampNeg 0))]))
              refine EndsK.go (fun _ kz => XS.iload X0.here hx rfl (hb hby d4_101) rfl kz) ?_
              show EndsK p e below _ (s₁.setTop (mkF m 103 #[.val (.ref pa), .val (.int np), .val (.ref ta), .val (.int nt), .val (.int any), .val (.ref da), .val (.int xi), .val (.int xj)] [(.int xj), (.ref ta), (.int (PL.getD xi.toNatClampNeg 0))]))
              refine EndsK.go (fun tz kz => X0.iaload hx (j := xj) (v := (.int (TL.getD xj.toNatClampNeg 0))) (by rw [e0]; exact AT.1) (State.isArrayOf_alike hZ.alike AT.2.1) AT.2.2 (inb_of qT2 inT) (Has.at HT (inb_of qT2 inT) (own_getD TL xj.toNatClampNeg)) (g := (mkF m 103 #[.val (.ref pa), .val (.int np), .val (.ref ta), .val (.int nt), .val (.int any), .val (.ref da), .val (.int xi), .val (.int xj)] [(.int xj), (.ref ta), (.int (PL.getD xi.toNatClampNeg 0))])) rfl rfl (hb hby d4_103) tz kz) ?_
              show EndsK p e below _ (s₁.setTop (mkF m 104 #[.val (.ref pa), .val (.int np), .val (.ref ta), .val (.int nt), .val (.int any), .val (.ref da), .val (.int xi), .val (.int xj)] [(.int (TL.getD xj.toNatClampNeg 0)), (.int (PL.getD xi.toNatClampNeg 0))]))
              by_cases H104_12 : (PL.getD xi.toNatClampNeg 0) = (TL.getD xj.toNatClampNeg 0)
              · refine EndsK.go (fun _ kz => XS.icmpNo X0.here hx rfl (hb hby d4_104) rfl (teq H104_12).2 kz) ?_
                show EndsK p e below _ (s₁.setTop (mkF m 107 #[.val (.ref pa), .val (.int np), .val (.ref ta), .val (.int nt), .val (.int any), .val (.ref da), .val (.int xi), .val (.int xj)] []))
                have fz1 := rng32 np
                have fz2 := rng32 xi
                have fz3 : ¬ ((np).toInt < (xi).toInt) := fun qz => H3_1 (Int32.lt_iff_toInt_lt.mpr qz)
                have fz4 := rng32 nt
                have fz5 := rng32 xj
                have fz6 : ¬ ((nt).toInt < (xj).toInt) := fun qz => H9_2 (Int32.lt_iff_toInt_lt.mpr qz)
                have fz7 : ¬ ((xi).toInt = (np).toInt) := fun qz => H17_3 (Int32.toInt_inj.mp qz)
                have fz8 : ¬ ((xj).toInt = (nt).toInt) := fun qz => H82_9 (Int32.toInt_inj.mp qz)
                have f2 := c_iadd xj 1
                have f2r := rng32 (xj + 1)
                have inJ1 : ¬ (xj + (1 : Int32)) < 0 ∧ (xj + (1 : Int32)) < 5 := by simp only [Int32.lt_iff_toInt_lt]; omega
                have k2 : (xj + (1 : Int32)).toNatClampNeg = xj.toNatClampNeg + 1 := by have q := own_nat (x := xj + (1 : Int32)) (by omega); omega
                have hg3 : c1.slots[(xj + (1 : Int32)).toNatClampNeg]? = some (Value.int (f (xi.toNatClampNeg + 1) (xj.toNatClampNeg + 1))) := by rw [R1 (xj + (1 : Int32)).toNatClampNeg (by omega), k1, k2]
                show EndsK p e below _ (s₁.setTop (mkF m 107 #[.val (.ref pa), .val (.int np), .val (.ref ta), .val (.int nt), .val (.int any), .val (.ref da), .val (.int xi), .val (.int xj)] []))
                refine EndsK.go (fun _ kz => XS.aload X0.here hx rfl (hb hby d4_107) rfl rfl kz) ?_
                show EndsK p e below _ (s₁.setTop (mkF m 109 #[.val (.ref pa), .val (.int np), .val (.ref ta), .val (.int nt), .val (.int any), .val (.ref da), .val (.int xi), .val (.int xj)] [(.ref da)]))
                refine EndsK.go (fun _ kz => XS.iload X0.here hx rfl (hb hby d4_109) rfl kz) ?_
                show EndsK p e below _ (s₁.setTop (mkF m 111 #[.val (.ref pa), .val (.int np), .val (.ref ta), .val (.int nt), .val (.int any), .val (.ref da), .val (.int xi), .val (.int xj)] [(.int xi), (.ref da)]))
                refine EndsK.go (fun _ kz => XS.iconst X0.here hx rfl (hb hby d4_111) kz) ?_
                show EndsK p e below _ (s₁.setTop (mkF m 112 #[.val (.ref pa), .val (.int np), .val (.ref ta), .val (.int nt), .val (.int any), .val (.ref da), .val (.int xi), .val (.int xj)] [(.int (1 : Int32)), (.int xi), (.ref da)]))
                refine EndsK.go (fun _ kz => XS.iadd X0.here hx rfl (hb hby d4_112) rfl kz) ?_
                show EndsK p e below _ (s₁.setTop (mkF m 113 #[.val (.ref pa), .val (.int np), .val (.ref ta), .val (.int nt), .val (.int any), .val (.ref da), .val (.int xi), .val (.int xj)] [(.int (xi + (1 : Int32))), (.ref da)]))
                refine EndsK.go (fun tz kz => X0.aaload hx (j := (xi + (1 : Int32))) (v := (.ref y1)) (by rw [e0]; exact AD.1) (State.isArrayOf_alike hZ.alike AD.2.1) rfl AD.2.2 (inb_of qD2 inD1) (Has.at HD (inb_of qD2 inD1) w2) (g := (mkF m 113 #[.val (.ref pa), .val (.int np), .val (.ref ta), .val (.int nt), .val (.int any), .val (.ref da), .val (.int xi), .val (.int xj)] [(.int (xi + (1 : Int32))), (.ref da)])) rfl rfl (hb hby d4_113) tz kz) ?_
                show EndsK p e below _ (s₁.setTop (mkF m 114 #[.val (.ref pa), .val (.int np), .val (.ref ta), .val (.int nt), .val (.int any), .val (.ref da), .val (.int xi), .val (.int xj)] [(.ref y1)]))
                refine EndsK.go (fun _ kz => XS.iload X0.here hx rfl (hb hby d4_114) rfl kz) ?_
                show EndsK p e below _ (s₁.setTop (mkF m 116 #[.val (.ref pa), .val (.int np), .val (.ref ta), .val (.int nt), .val (.int any), .val (.ref da), .val (.int xi), .val (.int xj)] [(.int xj), (.ref y1)]))
                refine EndsK.go (fun _ kz => XS.iconst X0.here hx rfl (hb hby d4_116) kz) ?_
                show EndsK p e below _ (s₁.setTop (mkF m 117 #[.val (.ref pa), .val (.int np), .val (.ref ta), .val (.int nt), .val (.int any), .val (.ref da), .val (.int xi), .val (.int xj)] [(.int (1 : Int32)), (.int xj), (.ref y1)]))
                refine EndsK.go (fun _ kz => XS.iadd X0.here hx rfl (hb hby d4_117) rfl kz) ?_
                show EndsK p e below _ (s₁.setTop (mkF m 118 #[.val (.ref pa), .val (.int np), .val (.ref ta), .val (.int nt), .val (.int any), .val (.ref da), .val (.int xi), .val (.int xj)] [(.int (xj + (1 : Int32))), (.ref y1)]))
                refine EndsK.go (fun tz kz => X0.baloadBooleans hx (j := (xj + (1 : Int32))) (v := (.int (f (xi.toNatClampNeg + 1) (xj.toNatClampNeg + 1)))) (by rw [e0]; exact A1.1) (State.isArrayOf_alike hZ.alike A1.2.1) A1.2.2 (inb_of S1 inJ1) hg3 (g := (mkF m 118 #[.val (.ref pa), .val (.int np), .val (.ref ta), .val (.int nt), .val (.int any), .val (.ref da), .val (.int xi), .val (.int xj)] [(.int (xj + (1 : Int32))), (.ref y1)])) rfl rfl (hb hby d4_118) tz kz) ?_
                show EndsK p e below _ (s₁.setTop (mkF m 119 #[.val (.ref pa), .val (.int np), .val (.ref ta), .val (.int nt), .val (.int any), .val (.ref da), .val (.int xi), .val (.int xj)] [(.int (f (xi.toNatClampNeg + 1) (xj.toNatClampNeg + 1)))]))
                by_cases H119_13 : (f (xi.toNatClampNeg + 1) (xj.toNatClampNeg + 1)) = (0 : Int32)
                · refine EndsK.go (fun _ kz => XS.ifYes X0.here hx rfl (pc0 := 119) (pc' := 126) rfl (hb hby d4_119) rfl ((if0 _ _).trans (teq H119_13).1) (by decide) (by decide) kz) ?_
                  show EndsK p e below _ (s₁.setTop (mkF m 126 #[.val (.ref pa), .val (.int np), .val (.ref ta), .val (.int nt), .val (.int any), .val (.ref da), .val (.int xi), .val (.int xj)] []))
                  refine EndsK.go (fun _ kz => XS.iconst X0.here hx rfl (hb hby d4_126) kz) ?_
                  show EndsK p e below _ (s₁.setTop (mkF m 127 #[.val (.ref pa), .val (.int np), .val (.ref ta), .val (.int nt), .val (.int any), .val (.ref da), .val (.int xi), .val (.int xj)] [(.int (0 : Int32))]))
                  exact endN X0 hx (t := .boolean) Bd.returns (by simp) (hb hby d4_127) hlk ⟨(congrArg (fun z => some (Value.int z)) (by unfold cellAt cellF; rw [if_neg H3_1, if_neg H9_2, if_neg H17_3, if_neg H38_5, if_neg H82_9, if_neg H93_10, if_pos H104_12, if_pos H119_13] : cellAt any np nt PL TL f xi xj = (0 : Int32))).symm, N0, e0⟩ (by decide) (by decide)
                · refine EndsK.go (fun _ kz => XS.ifNo X0.here hx rfl (hb hby d4_119) rfl ((if0 _ _).trans (feq H119_13).1) kz) ?_
                  show EndsK p e below _ (s₁.setTop (mkF m 122 #[.val (.ref pa), .val (.int np), .val (.ref ta), .val (.int nt), .val (.int any), .val (.ref da), .val (.int xi), .val (.int xj)] []))
                  refine EndsK.go (fun _ kz => XS.iconst X0.here hx rfl (hb hby d4_122) kz) ?_
                  show EndsK p e below _ (s₁.setTop (mkF m 123 #[.val (.ref pa), .val (.int np), .val (.ref ta), .val (.int nt), .val (.int any), .val (.ref da), .val (.int xi), .val (.int xj)] [(.int (1 : Int32))]))
                  refine EndsK.go (fun _ kz => XS.goto X0.here hx rfl (pc0 := 123) (pc' := 127) rfl (hb hby d4_123) (by decide) (by decide) kz) ?_
                  show EndsK p e below _ (s₁.setTop (mkF m 127 #[.val (.ref pa), .val (.int np), .val (.ref ta), .val (.int nt), .val (.int any), .val (.ref da), .val (.int xi), .val (.int xj)] [(.int (1 : Int32))]))
                  exact endN X0 hx (t := .boolean) Bd.returns (by simp) (hb hby d4_127) hlk ⟨(congrArg (fun z => some (Value.int z)) (by unfold cellAt cellF; rw [if_neg H3_1, if_neg H9_2, if_neg H17_3, if_neg H38_5, if_neg H82_9, if_neg H93_10, if_pos H104_12, if_neg H119_13] : cellAt any np nt PL TL f xi xj = (1 : Int32))).symm, N0, e0⟩ (by decide) (by decide)
              · refine EndsK.go (fun _ kz => XS.icmpYes X0.here hx rfl (pc0 := 104) (pc' := 126) rfl (hb hby d4_104) rfl (feq H104_12).2 (by decide) (by decide) kz) ?_
                show EndsK p e below _ (s₁.setTop (mkF m 126 #[.val (.ref pa), .val (.int np), .val (.ref ta), .val (.int nt), .val (.int any), .val (.ref da), .val (.int xi), .val (.int xj)] []))
                refine EndsK.go (fun _ kz => XS.iconst X0.here hx rfl (hb hby d4_126) kz) ?_
                show EndsK p e below _ (s₁.setTop (mkF m 127 #[.val (.ref pa), .val (.int np), .val (.ref ta), .val (.int nt), .val (.int any), .val (.ref da), .val (.int xi), .val (.int xj)] [(.int (0 : Int32))]))
                exact endN X0 hx (t := .boolean) Bd.returns (by simp) (hb hby d4_127) hlk ⟨(congrArg (fun z => some (Value.int z)) (by unfold cellAt cellF; rw [if_neg H3_1, if_neg H9_2, if_neg H17_3, if_neg H38_5, if_neg H82_9, if_neg H93_10, if_neg H104_12] : cellAt any np nt PL TL f xi xj = (0 : Int32))).symm, N0, e0⟩ (by decide) (by decide)
theorem d3_0 : decode method_5_code 0 = .ok (.aload 5, 2) := by decide +kernel
theorem d3_2 : decode method_5_code 2 = .ok (.iload 6, 2) := by decide +kernel
theorem d3_4 : decode method_5_code 4 = .ok (.aaload, 1) := by decide +kernel
theorem d3_5 : decode method_5_code 5 = .ok (.iconst 4, 1) := by decide +kernel
theorem d3_6 : decode method_5_code 6 = .ok (.aload_n 0, 1) := by decide +kernel
theorem d3_7 : decode method_5_code 7 = .ok (.iload_n 1, 1) := by decide +kernel
theorem d3_8 : decode method_5_code 8 = .ok (.aload_n 2, 1) := by decide +kernel
theorem d3_9 : decode method_5_code 9 = .ok (.iload_n 3, 1) := by decide +kernel
theorem d3_10 : decode method_5_code 10 = .ok (.iload 4, 2) := by decide +kernel
theorem d3_12 : decode method_5_code 12 = .ok (.aload 5, 2) := by decide +kernel
theorem d3_14 : decode method_5_code 14 = .ok (.iload 6, 2) := by decide +kernel
theorem d3_16 : decode method_5_code 16 = .ok (.iconst 4, 1) := by decide +kernel
theorem d3_17 : decode method_5_code 17 = .ok (.invokestatic 29, 3) := by decide +kernel
theorem d3_20 : decode method_5_code 20 = .ok (.bastore, 1) := by decide +kernel
theorem d3_21 : decode method_5_code 21 = .ok (.aload 5, 2) := by decide +kernel
theorem d3_23 : decode method_5_code 23 = .ok (.iload 6, 2) := by decide +kernel
theorem d3_25 : decode method_5_code 25 = .ok (.aaload, 1) := by decide +kernel
theorem d3_26 : decode method_5_code 26 = .ok (.iconst 3, 1) := by decide +kernel
theorem d3_27 : decode method_5_code 27 = .ok (.aload_n 0, 1) := by decide +kernel
theorem d3_28 : decode method_5_code 28 = .ok (.iload_n 1, 1) := by decide +kernel
theorem d3_29 : decode method_5_code 29 = .ok (.aload_n 2, 1) := by decide +kernel
theorem d3_30 : decode method_5_code 30 = .ok (.iload_n 3, 1) := by decide +kernel
theorem d3_31 : decode method_5_code 31 = .ok (.iload 4, 2) := by decide +kernel
theorem d3_33 : decode method_5_code 33 = .ok (.aload 5, 2) := by decide +kernel
theorem d3_35 : decode method_5_code 35 = .ok (.iload 6, 2) := by decide +kernel
theorem d3_37 : decode method_5_code 37 = .ok (.iconst 3, 1) := by decide +kernel
theorem d3_38 : decode method_5_code 38 = .ok (.invokestatic 29, 3) := by decide +kernel
theorem d3_41 : decode method_5_code 41 = .ok (.bastore, 1) := by decide +kernel
theorem d3_42 : decode method_5_code 42 = .ok (.aload 5, 2) := by decide +kernel
theorem d3_44 : decode method_5_code 44 = .ok (.iload 6, 2) := by decide +kernel
theorem d3_46 : decode method_5_code 46 = .ok (.aaload, 1) := by decide +kernel
theorem d3_47 : decode method_5_code 47 = .ok (.iconst 2, 1) := by decide +kernel
theorem d3_48 : decode method_5_code 48 = .ok (.aload_n 0, 1) := by decide +kernel
theorem d3_49 : decode method_5_code 49 = .ok (.iload_n 1, 1) := by decide +kernel
theorem d3_50 : decode method_5_code 50 = .ok (.aload_n 2, 1) := by decide +kernel
theorem d3_51 : decode method_5_code 51 = .ok (.iload_n 3, 1) := by decide +kernel
theorem d3_52 : decode method_5_code 52 = .ok (.iload 4, 2) := by decide +kernel
theorem d3_54 : decode method_5_code 54 = .ok (.aload 5, 2) := by decide +kernel
theorem d3_56 : decode method_5_code 56 = .ok (.iload 6, 2) := by decide +kernel
theorem d3_58 : decode method_5_code 58 = .ok (.iconst 2, 1) := by decide +kernel
theorem d3_59 : decode method_5_code 59 = .ok (.invokestatic 29, 3) := by decide +kernel
theorem d3_62 : decode method_5_code 62 = .ok (.bastore, 1) := by decide +kernel
theorem d3_63 : decode method_5_code 63 = .ok (.aload 5, 2) := by decide +kernel
theorem d3_65 : decode method_5_code 65 = .ok (.iload 6, 2) := by decide +kernel
theorem d3_67 : decode method_5_code 67 = .ok (.aaload, 1) := by decide +kernel
theorem d3_68 : decode method_5_code 68 = .ok (.iconst 1, 1) := by decide +kernel
theorem d3_69 : decode method_5_code 69 = .ok (.aload_n 0, 1) := by decide +kernel
theorem d3_70 : decode method_5_code 70 = .ok (.iload_n 1, 1) := by decide +kernel
theorem d3_71 : decode method_5_code 71 = .ok (.aload_n 2, 1) := by decide +kernel
theorem d3_72 : decode method_5_code 72 = .ok (.iload_n 3, 1) := by decide +kernel
theorem d3_73 : decode method_5_code 73 = .ok (.iload 4, 2) := by decide +kernel
theorem d3_75 : decode method_5_code 75 = .ok (.aload 5, 2) := by decide +kernel
theorem d3_77 : decode method_5_code 77 = .ok (.iload 6, 2) := by decide +kernel
theorem d3_79 : decode method_5_code 79 = .ok (.iconst 1, 1) := by decide +kernel
theorem d3_80 : decode method_5_code 80 = .ok (.invokestatic 29, 3) := by decide +kernel
theorem d3_83 : decode method_5_code 83 = .ok (.bastore, 1) := by decide +kernel
theorem d3_84 : decode method_5_code 84 = .ok (.aload 5, 2) := by decide +kernel
theorem d3_86 : decode method_5_code 86 = .ok (.iload 6, 2) := by decide +kernel
theorem d3_88 : decode method_5_code 88 = .ok (.aaload, 1) := by decide +kernel
theorem d3_89 : decode method_5_code 89 = .ok (.iconst 0, 1) := by decide +kernel
theorem d3_90 : decode method_5_code 90 = .ok (.aload_n 0, 1) := by decide +kernel
theorem d3_91 : decode method_5_code 91 = .ok (.iload_n 1, 1) := by decide +kernel
theorem d3_92 : decode method_5_code 92 = .ok (.aload_n 2, 1) := by decide +kernel
theorem d3_93 : decode method_5_code 93 = .ok (.iload_n 3, 1) := by decide +kernel
theorem d3_94 : decode method_5_code 94 = .ok (.iload 4, 2) := by decide +kernel
theorem d3_96 : decode method_5_code 96 = .ok (.aload 5, 2) := by decide +kernel
theorem d3_98 : decode method_5_code 98 = .ok (.iload 6, 2) := by decide +kernel
theorem d3_100 : decode method_5_code 100 = .ok (.iconst 0, 1) := by decide +kernel
theorem d3_101 : decode method_5_code 101 = .ok (.invokestatic 29, 3) := by decide +kernel
theorem d3_104 : decode method_5_code 104 = .ok (.bastore, 1) := by decide +kernel
theorem d3_105 : decode method_5_code 105 = .ok (.return_, 1) := by decide +kernel
theorem ef_row (m : MethodId) (pa : Nat) (np : Int32) (ta : Nat) (nt : Int32) (any : Int32) (da : Nat) (xi : Int32) (kP : ClassId) (kT : ClassId) (cA : ClassId) (PL : List Int32) (TL : List Int32) (xs : List Addr) (f : Nat → Nat → Int32) : entryFrame m #[(.ref pa), (.int np), (.ref ta), (.int nt), (.int any), (.ref da), (.int xi)] 7 = mkF m 0 #[.val (.ref pa), .val (.int np), .val (.ref ta), .val (.int nt), .val (.int any), .val (.ref da), .val (.int xi)] [] := by first | (simp [entryFrame, mkF, argsToLocals, Value.category]; done) | rfl
def Q_row (Z : State) (pa : Nat) (np : Int32) (ta : Nat) (nt : Int32) (any : Int32) (da : Nat) (xi : Int32) (kP : ClassId) (kT : ClassId) (cA : ClassId) (PL : List Int32) (TL : List Int32) (xs : List Addr) (f : Nat → Nat → Int32) (h0 : Heap) (n0 : Nat) (vz : Option Value) (hz : Heap) (Lz : List Loc) : Prop := vz = none ∧ Fr n0 Lz ∧ Keep h0 hz [da + 1 + xi.toNatClampNeg] ∧ TabP Z hz da cA xs (rowF any np nt PL TL f xi)
theorem pd0 : parseMethodDescriptor "([II[III[[ZII)Z" = some ⟨[(.array .int), .int, (.array .int), .int, .int, (.array (.array .boolean)), .int, .int], some .boolean⟩ := by decide +kernel
set_option maxRecDepth 65536 in
set_option maxHeartbeats 40000000 in
theorem rm_row (l : Launch) (Z : State) (a0 : Array Value) (hw : ∀ d ∈ tables_1, d.before a0 Z = true) (ws : List Jvm.Cond) (pa : Nat) (np : Int32) (ta : Nat) (nt : Int32) (any : Int32) (da : Nat) (xi : Int32) (kP : ClassId) (kT : ClassId) (cA : ClassId) (PL : List Int32) (TL : List Int32) (xs : List Addr) (f : Nat → Nat → Int32) (h0 : Heap) (n0 : Nat) (Z0 : n0 ≤ h0.size) (bp0 : 0 ≤ np.toInt) (bp1 : np.toInt ≤ 4) (bt0 : 0 ≤ nt.toInt) (bt1 : nt.toInt ≤ 4) (bi0 : 0 ≤ xi.toInt) (bi1 : xi.toInt ≤ 4) (VP : Arv Z h0 pa kP .int 4 (PL.map .int) (.int 0)) (VT : Arv Z h0 ta kT .int 4 (TL.map .int) (.int 0)) (hxs : xs = (List.range 5).map fun j => da + 1 + j) (TG : TabP Z h0 da cA xs f) (nda : n0 ≤ da) (hpa : pa < da) (hta : ta < da) :
    MetFree l (⟨"com/example/seshat/seshat/registry/WildcardsMatchesPinLaw", "row", "([II[III[[ZI)V"⟩ : MethodName) (head1 (Jvm.Cond.code (⟨"com/example/seshat/seshat/registry/WildcardsMatchesPinLaw", "row", "([II[III[[ZI)V"⟩ : MethodName) method_5_code 7 none :: ws) ({ frames := 1, cells := 0, slots := 0, locals := 24 } : Room)) (fun az Uz => az = #[(.ref pa), (.int np), (.ref ta), (.int nt), (.int any), (.ref da), (.int xi)] ∧ Z.Warmed39 Uz.vm ∧ Uz.heap = h0) (fun _ _ _ _ _ => True) (fun _ Uz oz Ut => ∃ vz Lz, oz = .returned vz ∧ Q_row Z pa np ta nt any da xi kP kT cA PL TL xs f h0 n0 vz Ut.heap Lz ∧ FrameEnd Uz oz Ut Lz (({ frames := 1, cells := 0, slots := 0, locals := 24 } : Room)).cells (({ frames := 1, cells := 0, slots := 0, locals := 24 } : Room)).slots) := by
  refine MetFree.of_bodySF (plainFor_of_name pn0) hisR ?_
  intro p e s m args below meth c s₁ Bd hml0 hP hK
  obtain ⟨rfl, hZ, hh⟩ := hP
  have hx := Bd.exec
  have hby := Bd.bytes
  have hml : c.maxLocals = 7 := hml0
  have hown : s.vm.findClass "com/example/seshat/seshat/registry/WildcardsMatchesPinLaw" = some m.cls := findClass_of_methodNamed Bd.named
  have hnm := (name_of_methodNamed Bd.named Bd.method).1
  have hlk : meth.locks = false := Bd.notSynchronized
  have X0 : Stand p l e ({ frames := 1, cells := 0, slots := 0, locals := 24 } : Room) s m #[(.ref pa), (.int np), (.ref ta), (.int nt), (.int any), (.ref da), (.int xi)] below meth c s₁ [] 0 0 := Stand.of_body Bd
  have e0 : s₁.heap = h0 := by rw [← hh, Bd.state]; rfl
  have N0 := Fr.nil n0
  show EndsK p e below (OQ s (Q_row Z pa np ta nt any da xi kP kT cA PL TL xs f h0 n0) (({ frames := 1, cells := 0, slots := 0, locals := 24 } : Room)).cells (({ frames := 1, cells := 0, slots := 0, locals := 24 } : Room)).slots) (s₁.setTop (entryFrame m #[(.ref pa), (.int np), (.ref ta), (.int nt), (.int any), (.ref da), (.int xi)] 7))
  refine EndsK.start (ef_row m pa np ta nt any da xi kP kT cA PL TL xs f) ?_
  have z0 : (0 : Int32).toInt = 0 := rfl
  have z1 : (1 : Int32).toInt = 1 := rfl
  have z4 : (4 : Int32).toInt = 4 := rfl
  have z5 : (5 : Int32).toInt = 5 := rfl
  have k0 := own_nat bi0
  have inD : ¬ xi < 0 ∧ xi < 5 := by simp only [Int32.lt_iff_toInt_lt]; omega
  obtain ⟨v1, v2⟩ := own_row hxs (k := xi.toNatClampNeg) (by omega)
  obtain ⟨y, ey⟩ : ∃ z, z = da + 1 + xi.toNatClampNeg := ⟨_, rfl⟩
  rw [← ey] at v1 v2
  have ny : n0 ≤ y := by omega
  have npy : pa ≠ y := by omega
  have nty : ta ≠ y := by omega
  show EndsK p e below (OQ s (fun vz hz Lz => vz = none ∧ Fr n0 Lz ∧ Keep h0 hz [da + 1 + xi.toNatClampNeg] ∧ TabP Z hz da cA xs (rowF any np nt PL TL f xi)) _ _) _
  rw [← ey]
  have K0 : Keep h0 h0 [y] := Keep.refl _ _
  show EndsK p e below _ (s₁.setTop (mkF m 0 #[.val (.ref pa), .val (.int np), .val (.ref ta), .val (.int nt), .val (.int any), .val (.ref da), .val (.int xi)] []))
  refine EndsK.go (fun _ kz => XS.aload X0.here hx rfl (hb hby d3_0) rfl rfl kz) ?_
  show EndsK p e below _ (s₁.setTop (mkF m 2 #[.val (.ref pa), .val (.int np), .val (.ref ta), .val (.int nt), .val (.int any), .val (.ref da), .val (.int xi)] [(.ref da)]))
  refine EndsK.go (fun _ kz => XS.iload X0.here hx rfl (hb hby d3_2) rfl kz) ?_
  show EndsK p e below _ (s₁.setTop (mkF m 4 #[.val (.ref pa), .val (.int np), .val (.ref ta), .val (.int nt), .val (.int any), .val (.ref da), .val (.int xi)] [(.int xi), (.ref da)]))
  obtain ⟨cD1, AD1, qD11, qD21, qD31, HD1, GD1⟩ := id TG.1
  refine EndsK.go (fun tz kz => X0.aaload hx (j := xi) (v := (.ref y)) (by rw [e0]; exact AD1.1) (State.isArrayOf_alike hZ.alike AD1.2.1) rfl AD1.2.2 (inb_of qD21 inD) (Has.at HD1 (inb_of qD21 inD) v2) (g := (mkF m 4 #[.val (.ref pa), .val (.int np), .val (.ref ta), .val (.int nt), .val (.int any), .val (.ref da), .val (.int xi)] [(.int xi), (.ref da)])) rfl rfl (hb hby d3_4) tz kz) ?_
  show EndsK p e below _ (s₁.setTop (mkF m 5 #[.val (.ref pa), .val (.int np), .val (.ref ta), .val (.int nt), .val (.int any), .val (.ref da), .val (.int xi)] [(.ref y)]))
  refine EndsK.go (fun _ kz => XS.iconst X0.here hx rfl (hb hby d3_5) kz) ?_
  show EndsK p e below _ (s₁.setTop (mkF m 6 #[.val (.ref pa), .val (.int np), .val (.ref ta), .val (.int nt), .val (.int any), .val (.ref da), .val (.int xi)] [(.int (4 : Int32)), (.ref y)]))
  refine EndsK.go (fun _ kz => XS.aloadN X0.here hx rfl (hb hby d3_6) rfl rfl kz) ?_
  show EndsK p e below _ (s₁.setTop (mkF m 7 #[.val (.ref pa), .val (.int np), .val (.ref ta), .val (.int nt), .val (.int any), .val (.ref da), .val (.int xi)] [(.ref pa), (.int (4 : Int32)), (.ref y)]))
  refine EndsK.go (fun _ kz => XS.iloadN X0.here hx rfl (hb hby d3_7) rfl kz) ?_
  show EndsK p e below _ (s₁.setTop (mkF m 8 #[.val (.ref pa), .val (.int np), .val (.ref ta), .val (.int nt), .val (.int any), .val (.ref da), .val (.int xi)] [(.int np), (.ref pa), (.int (4 : Int32)), (.ref y)]))
  refine EndsK.go (fun _ kz => XS.aloadN X0.here hx rfl (hb hby d3_8) rfl rfl kz) ?_
  show EndsK p e below _ (s₁.setTop (mkF m 9 #[.val (.ref pa), .val (.int np), .val (.ref ta), .val (.int nt), .val (.int any), .val (.ref da), .val (.int xi)] [(.ref ta), (.int np), (.ref pa), (.int (4 : Int32)), (.ref y)]))
  refine EndsK.go (fun _ kz => XS.iloadN X0.here hx rfl (hb hby d3_9) rfl kz) ?_
  show EndsK p e below _ (s₁.setTop (mkF m 10 #[.val (.ref pa), .val (.int np), .val (.ref ta), .val (.int nt), .val (.int any), .val (.ref da), .val (.int xi)] [(.int nt), (.ref ta), (.int np), (.ref pa), (.int (4 : Int32)), (.ref y)]))
  refine EndsK.go (fun _ kz => XS.iload X0.here hx rfl (hb hby d3_10) rfl kz) ?_
  show EndsK p e below _ (s₁.setTop (mkF m 12 #[.val (.ref pa), .val (.int np), .val (.ref ta), .val (.int nt), .val (.int any), .val (.ref da), .val (.int xi)] [(.int any), (.int nt), (.ref ta), (.int np), (.ref pa), (.int (4 : Int32)), (.ref y)]))
  refine EndsK.go (fun _ kz => XS.aload X0.here hx rfl (hb hby d3_12) rfl rfl kz) ?_
  show EndsK p e below _ (s₁.setTop (mkF m 14 #[.val (.ref pa), .val (.int np), .val (.ref ta), .val (.int nt), .val (.int any), .val (.ref da), .val (.int xi)] [(.ref da), (.int any), (.int nt), (.ref ta), (.int np), (.ref pa), (.int (4 : Int32)), (.ref y)]))
  refine EndsK.go (fun _ kz => XS.iload X0.here hx rfl (hb hby d3_14) rfl kz) ?_
  show EndsK p e below _ (s₁.setTop (mkF m 16 #[.val (.ref pa), .val (.int np), .val (.ref ta), .val (.int nt), .val (.int any), .val (.ref da), .val (.int xi)] [(.int xi), (.ref da), (.int any), (.int nt), (.ref ta), (.int np), (.ref pa), (.int (4 : Int32)), (.ref y)]))
  refine EndsK.go (fun _ kz => XS.iconst X0.here hx rfl (hb hby d3_16) kz) ?_
  show EndsK p e below _ (s₁.setTop (mkF m 17 #[.val (.ref pa), .val (.int np), .val (.ref ta), .val (.int nt), .val (.int any), .val (.ref da), .val (.int xi)] [(.int (4 : Int32)), (.int xi), (.ref da), (.int any), (.int nt), (.ref ta), (.int np), (.ref pa), (.int (4 : Int32)), (.ref y)]))
  obtain ⟨_, _, ⟨T2, L2, k2, n2⟩, -, X2, ⟨Lc2, hQ2, l2, y2, z2⟩, st2⟩ := Jvm.LawKit.callS X0 hx (y := (⟨"com/example/seshat/seshat/registry/WildcardsMatchesPinLaw", "cell", "([II[III[[ZII)Z"⟩ : MethodName)) hown (mvT hZ (hw _ (List.mem_of_getElem? (i := 14) rfl))) (mvT hZ (hw _ (List.mem_of_getElem? (i := 15) rfl))) (mvT hZ (hw _ (List.mem_of_getElem? (i := 3) rfl))) (mvT hZ (hw _ (List.mem_of_getElem? (i := 16) rfl))) (by decide) (backOf (W := 2) (rm_cell l Z a0 hw [] pa np ta nt any da xi (4 : Int32) kP kT cA PL TL xs f h0 n0 Z0 bp0 bp1 bt0 bt1 bi0 bi1 (by decide) (by decide) VP VT hxs TG) hZ (hw _ (List.mem_of_getElem? (i := 16) rfl)) (hw _ (List.mem_of_getElem? (i := 3) rfl)) (by decide) (by decide)) (g := (mkF m 17 #[.val (.ref pa), .val (.int np), .val (.ref ta), .val (.int nt), .val (.int any), .val (.ref da), .val (.int xi)] [(.int (4 : Int32)), (.int xi), (.ref da), (.int any), (.int nt), (.ref ta), (.int np), (.ref pa), (.int (4 : Int32)), (.ref y)])) rfl (by rw [hml]; rfl) (argsL := [(.ref pa), (.int np), (.ref ta), (.int nt), (.int any), (.ref da), (.int xi), (.int (4 : Int32))]) (rest := [(.int (4 : Int32)), (.ref y)]) (lenOf pd0 rfl) rfl (by show 2 * 0 + _ ≤ _; exact Nat.le_of_eq rfl) (hb hby d3_17) (fun _ _ => ⟨rfl, e0, (by decide : 0 + 0 ≤ _), (by decide : 0 + 0 ≤ _)⟩)
  dsimp only [Pt.U, Pt.locs, Pt.cells, Pt.slots] at X2 l2 y2 z2 st2 hQ2
  subst l2 y2 z2
  obtain ⟨rfl, N2, e2⟩ := hQ2
  have M2 := Fr.app N0 N2
  refine EndsK.go st2 ?_
  show EndsK p e below _ (T2.setTop (mkF m 20 #[.val (.ref pa), .val (.int np), .val (.ref ta), .val (.int nt), .val (.int any), .val (.ref da), .val (.int xi)] [(.int (cellAt any np nt PL TL f xi (4 : Int32))), (.int (4 : Int32)), (.ref y)]))
  obtain ⟨cl3, AR3, SR3, RR3⟩ := TG.2 _ _ v1
  obtain ⟨T3, h3, X3, e3, W3, st3⟩ := stZ X2 hx hZ e2 AR3 (j := (4 : Int32)) (inb_of SR3 ⟨by decide, by decide⟩) (g := (mkF m 20 #[.val (.ref pa), .val (.int np), .val (.ref ta), .val (.int nt), .val (.int any), .val (.ref da), .val (.int xi)] [(.int (cellAt any np nt PL TL f xi (4 : Int32))), (.int (4 : Int32)), (.ref y)])) rfl rfl (hb hby d3_20)
  rw [own_nar] at W3
  have TG3 : TabP Z h3 da cA xs (step1 any np nt PL TL f xi (4 : Int32)) := TabP.set hxs TG v1 (c := (4 : Int32).toNatClampNeg) (by decide) W3
  have N3 := Fr.snoc X3 M2 ny
  have K3 := K0.wr W3 (Or.inl (List.mem_of_getElem? (i := 0) rfl))
  have Z3 : n0 ≤ h3.size := Nat.le_trans Z0 (Nat.le_of_eq W3.size.symm)
  have VP3 := VP.other W3 npy
  have VT3 := VT.other W3 nty
  refine EndsK.go st3 ?_
  show EndsK p e below _ (T3.setTop (mkF m 21 #[.val (.ref pa), .val (.int np), .val (.ref ta), .val (.int nt), .val (.int any), .val (.ref da), .val (.int xi)] []))
  refine EndsK.go (fun _ kz => XS.aload X3.here hx rfl (hb hby d3_21) rfl rfl kz) ?_
  show EndsK p e below _ (T3.setTop (mkF m 23 #[.val (.ref pa), .val (.int np), .val (.ref ta), .val (.int nt), .val (.int any), .val (.ref da), .val (.int xi)] [(.ref da)]))
  refine EndsK.go (fun _ kz => XS.iload X3.here hx rfl (hb hby d3_23) rfl kz) ?_
  show EndsK p e below _ (T3.setTop (mkF m 25 #[.val (.ref pa), .val (.int np), .val (.ref ta), .val (.int nt), .val (.int any), .val (.ref da), .val (.int xi)] [(.int xi), (.ref da)]))
  obtain ⟨cD4, AD4, qD14, qD24, qD34, HD4, GD4⟩ := id TG3.1
  refine EndsK.go (fun tz kz => X3.aaload hx (j := xi) (v := (.ref y)) (by rw [e3]; exact AD4.1) (State.isArrayOf_alike hZ.alike AD4.2.1) rfl AD4.2.2 (inb_of qD24 inD) (Has.at HD4 (inb_of qD24 inD) v2) (g := (mkF m 25 #[.val (.ref pa), .val (.int np), .val (.ref ta), .val (.int nt), .val (.int any), .val (.ref da), .val (.int xi)] [(.int xi), (.ref da)])) rfl rfl (hb hby d3_25) tz kz) ?_
  show EndsK p e below _ (T3.setTop (mkF m 26 #[.val (.ref pa), .val (.int np), .val (.ref ta), .val (.int nt), .val (.int any), .val (.ref da), .val (.int xi)] [(.ref y)]))
  refine EndsK.go (fun _ kz => XS.iconst X3.here hx rfl (hb hby d3_26) kz) ?_
  show EndsK p e below _ (T3.setTop (mkF m 27 #[.val (.ref pa), .val (.int np), .val (.ref ta), .val (.int nt), .val (.int any), .val (.ref da), .val (.int xi)] [(.int (3 : Int32)), (.ref y)]))
  refine EndsK.go (fun _ kz => XS.aloadN X3.here hx rfl (hb hby d3_27) rfl rfl kz) ?_
  show EndsK p e below _ (T3.setTop (mkF m 28 #[.val (.ref pa), .val (.int np), .val (.ref ta), .val (.int nt), .val (.int any), .val (.ref da), .val (.int xi)] [(.ref pa), (.int (3 : Int32)), (.ref y)]))
  refine EndsK.go (fun _ kz => XS.iloadN X3.here hx rfl (hb hby d3_28) rfl kz) ?_
  show EndsK p e below _ (T3.setTop (mkF m 29 #[.val (.ref pa), .val (.int np), .val (.ref ta), .val (.int nt), .val (.int any), .val (.ref da), .val (.int xi)] [(.int np), (.ref pa), (.int (3 : Int32)), (.ref y)]))
  refine EndsK.go (fun _ kz => XS.aloadN X3.here hx rfl (hb hby d3_29) rfl rfl kz) ?_
  show EndsK p e below _ (T3.setTop (mkF m 30 #[.val (.ref pa), .val (.int np), .val (.ref ta), .val (.int nt), .val (.int any), .val (.ref da), .val (.int xi)] [(.ref ta), (.int np), (.ref pa), (.int (3 : Int32)), (.ref y)]))
  refine EndsK.go (fun _ kz => XS.iloadN X3.here hx rfl (hb hby d3_30) rfl kz) ?_
  show EndsK p e below _ (T3.setTop (mkF m 31 #[.val (.ref pa), .val (.int np), .val (.ref ta), .val (.int nt), .val (.int any), .val (.ref da), .val (.int xi)] [(.int nt), (.ref ta), (.int np), (.ref pa), (.int (3 : Int32)), (.ref y)]))
  refine EndsK.go (fun _ kz => XS.iload X3.here hx rfl (hb hby d3_31) rfl kz) ?_
  show EndsK p e below _ (T3.setTop (mkF m 33 #[.val (.ref pa), .val (.int np), .val (.ref ta), .val (.int nt), .val (.int any), .val (.ref da), .val (.int xi)] [(.int any), (.int nt), (.ref ta), (.int np), (.ref pa), (.int (3 : Int32)), (.ref y)]))
  refine EndsK.go (fun _ kz => XS.aload X3.here hx rfl (hb hby d3_33) rfl rfl kz) ?_
  show EndsK p e below _ (T3.setTop (mkF m 35 #[.val (.ref pa), .val (.int np), .val (.ref ta), .val (.int nt), .val (.int any), .val (.ref da), .val (.int xi)] [(.ref da), (.int any), (.int nt), (.ref ta), (.int np), (.ref pa), (.int (3 : Int32)), (.ref y)]))
  refine EndsK.go (fun _ kz => XS.iload X3.here hx rfl (hb hby d3_35) rfl kz) ?_
  show EndsK p e below _ (T3.setTop (mkF m 37 #[.val (.ref pa), .val (.int np), .val (.ref ta), .val (.int nt), .val (.int any), .val (.ref da), .val (.int xi)] [(.int xi), (.ref da), (.int any), (.int nt), (.ref ta), (.int np), (.ref pa), (.int (3 : Int32)), (.ref y)]))
  refine EndsK.go (fun _ kz => XS.iconst X3.here hx rfl (hb hby d3_37) kz) ?_
  show EndsK p e below _ (T3.setTop (mkF m 38 #[.val (.ref pa), .val (.int np), .val (.ref ta), .val (.int nt), .val (.int any), .val (.ref da), .val (.int xi)] [(.int (3 : Int32)), (.int xi), (.ref da), (.int any), (.int nt), (.ref ta), (.int np), (.ref pa), (.int (3 : Int32)), (.ref y)]))
  obtain ⟨_, _, ⟨T5, L5, k5, n5⟩, -, X5, ⟨Lc5, hQ5, l5, y5, z5⟩, st5⟩ := Jvm.LawKit.callS X3 hx (y := (⟨"com/example/seshat/seshat/registry/WildcardsMatchesPinLaw", "cell", "([II[III[[ZII)Z"⟩ : MethodName)) hown (mvT hZ (hw _ (List.mem_of_getElem? (i := 14) rfl))) (mvT hZ (hw _ (List.mem_of_getElem? (i := 15) rfl))) (mvT hZ (hw _ (List.mem_of_getElem? (i := 3) rfl))) (mvT hZ (hw _ (List.mem_of_getElem? (i := 16) rfl))) (by decide) (backOf (W := 2) (rm_cell l Z a0 hw [] pa np ta nt any da xi (3 : Int32) kP kT cA PL TL xs (step1 any np nt PL TL f xi (4 : Int32)) h3 n0 Z3 bp0 bp1 bt0 bt1 bi0 bi1 (by decide) (by decide) VP3 VT3 hxs TG3) hZ (hw _ (List.mem_of_getElem? (i := 16) rfl)) (hw _ (List.mem_of_getElem? (i := 3) rfl)) (by decide) (by decide)) (g := (mkF m 38 #[.val (.ref pa), .val (.int np), .val (.ref ta), .val (.int nt), .val (.int any), .val (.ref da), .val (.int xi)] [(.int (3 : Int32)), (.int xi), (.ref da), (.int any), (.int nt), (.ref ta), (.int np), (.ref pa), (.int (3 : Int32)), (.ref y)])) rfl (by rw [hml]; rfl) (argsL := [(.ref pa), (.int np), (.ref ta), (.int nt), (.int any), (.ref da), (.int xi), (.int (3 : Int32))]) (rest := [(.int (3 : Int32)), (.ref y)]) (lenOf pd0 rfl) rfl (by show 2 * 0 + _ ≤ _; exact Nat.le_of_eq rfl) (hb hby d3_38) (fun _ _ => ⟨rfl, e3, (by decide : 0 + 0 + 0 ≤ _), (by decide : 0 + 0 + 0 ≤ _)⟩)
  dsimp only [Pt.U, Pt.locs, Pt.cells, Pt.slots] at X5 l5 y5 z5 st5 hQ5
  subst l5 y5 z5
  obtain ⟨rfl, N5, e5⟩ := hQ5
  have M5 := Fr.app N3 N5
  refine EndsK.go st5 ?_
  show EndsK p e below _ (T5.setTop (mkF m 41 #[.val (.ref pa), .val (.int np), .val (.ref ta), .val (.int nt), .val (.int any), .val (.ref da), .val (.int xi)] [(.int (cellAt any np nt PL TL (step1 any np nt PL TL f xi (4 : Int32)) xi (3 : Int32))), (.int (3 : Int32)), (.ref y)]))
  obtain ⟨cl6, AR6, SR6, RR6⟩ := TG3.2 _ _ v1
  obtain ⟨T6, h6, X6, e6, W6, st6⟩ := stZ X5 hx hZ e5 AR6 (j := (3 : Int32)) (inb_of SR6 ⟨by decide, by decide⟩) (g := (mkF m 41 #[.val (.ref pa), .val (.int np), .val (.ref ta), .val (.int nt), .val (.int any), .val (.ref da), .val (.int xi)] [(.int (cellAt any np nt PL TL (step1 any np nt PL TL f xi (4 : Int32)) xi (3 : Int32))), (.int (3 : Int32)), (.ref y)])) rfl rfl (hb hby d3_41)
  rw [own_nar] at W6
  have TG6 : TabP Z h6 da cA xs (step1 any np nt PL TL (step1 any np nt PL TL f xi (4 : Int32)) xi (3 : Int32)) := TabP.set hxs TG3 v1 (c := (3 : Int32).toNatClampNeg) (by decide) W6
  have N6 := Fr.snoc X6 M5 ny
  have K6 := K3.wr W6 (Or.inl (List.mem_of_getElem? (i := 0) rfl))
  have Z6 : n0 ≤ h6.size := Nat.le_trans Z3 (Nat.le_of_eq W6.size.symm)
  have VP6 := VP3.other W6 npy
  have VT6 := VT3.other W6 nty
  refine EndsK.go st6 ?_
  show EndsK p e below _ (T6.setTop (mkF m 42 #[.val (.ref pa), .val (.int np), .val (.ref ta), .val (.int nt), .val (.int any), .val (.ref da), .val (.int xi)] []))
  refine EndsK.go (fun _ kz => XS.aload X6.here hx rfl (hb hby d3_42) rfl rfl kz) ?_
  show EndsK p e below _ (T6.setTop (mkF m 44 #[.val (.ref pa), .val (.int np), .val (.ref ta), .val (.int nt), .val (.int any), .val (.ref da), .val (.int xi)] [(.ref da)]))
  refine EndsK.go (fun _ kz => XS.iload X6.here hx rfl (hb hby d3_44) rfl kz) ?_
  show EndsK p e below _ (T6.setTop (mkF m 46 #[.val (.ref pa), .val (.int np), .val (.ref ta), .val (.int nt), .val (.int any), .val (.ref da), .val (.int xi)] [(.int xi), (.ref da)]))
  obtain ⟨cD7, AD7, qD17, qD27, qD37, HD7, GD7⟩ := id TG6.1
  refine EndsK.go (fun tz kz => X6.aaload hx (j := xi) (v := (.ref y)) (by rw [e6]; exact AD7.1) (State.isArrayOf_alike hZ.alike AD7.2.1) rfl AD7.2.2 (inb_of qD27 inD) (Has.at HD7 (inb_of qD27 inD) v2) (g := (mkF m 46 #[.val (.ref pa), .val (.int np), .val (.ref ta), .val (.int nt), .val (.int any), .val (.ref da), .val (.int xi)] [(.int xi), (.ref da)])) rfl rfl (hb hby d3_46) tz kz) ?_
  show EndsK p e below _ (T6.setTop (mkF m 47 #[.val (.ref pa), .val (.int np), .val (.ref ta), .val (.int nt), .val (.int any), .val (.ref da), .val (.int xi)] [(.ref y)]))
  refine EndsK.go (fun _ kz => XS.iconst X6.here hx rfl (hb hby d3_47) kz) ?_
  show EndsK p e below _ (T6.setTop (mkF m 48 #[.val (.ref pa), .val (.int np), .val (.ref ta), .val (.int nt), .val (.int any), .val (.ref da), .val (.int xi)] [(.int (2 : Int32)), (.ref y)]))
  refine EndsK.go (fun _ kz => XS.aloadN X6.here hx rfl (hb hby d3_48) rfl rfl kz) ?_
  show EndsK p e below _ (T6.setTop (mkF m 49 #[.val (.ref pa), .val (.int np), .val (.ref ta), .val (.int nt), .val (.int any), .val (.ref da), .val (.int xi)] [(.ref pa), (.int (2 : Int32)), (.ref y)]))
  refine EndsK.go (fun _ kz => XS.iloadN X6.here hx rfl (hb hby d3_49) rfl kz) ?_
  show EndsK p e below _ (T6.setTop (mkF m 50 #[.val (.ref pa), .val (.int np), .val (.ref ta), .val (.int nt), .val (.int any), .val (.ref da), .val (.int xi)] [(.int np), (.ref pa), (.int (2 : Int32)), (.ref y)]))
  refine EndsK.go (fun _ kz => XS.aloadN X6.here hx rfl (hb hby d3_50) rfl rfl kz) ?_
  show EndsK p e below _ (T6.setTop (mkF m 51 #[.val (.ref pa), .val (.int np), .val (.ref ta), .val (.int nt), .val (.int any), .val (.ref da), .val (.int xi)] [(.ref ta), (.int np), (.ref pa), (.int (2 : Int32)), (.ref y)]))
  refine EndsK.go (fun _ kz => XS.iloadN X6.here hx rfl (hb hby d3_51) rfl kz) ?_
  show EndsK p e below _ (T6.setTop (mkF m 52 #[.val (.ref pa), .val (.int np), .val (.ref ta), .val (.int nt), .val (.int any), .val (.ref da), .val (.int xi)] [(.int nt), (.ref ta), (.int np), (.ref pa), (.int (2 : Int32)), (.ref y)]))
  refine EndsK.go (fun _ kz => XS.iload X6.here hx rfl (hb hby d3_52) rfl kz) ?_
  show EndsK p e below _ (T6.setTop (mkF m 54 #[.val (.ref pa), .val (.int np), .val (.ref ta), .val (.int nt), .val (.int any), .val (.ref da), .val (.int xi)] [(.int any), (.int nt), (.ref ta), (.int np), (.ref pa), (.int (2 : Int32)), (.ref y)]))
  refine EndsK.go (fun _ kz => XS.aload X6.here hx rfl (hb hby d3_54) rfl rfl kz) ?_
  show EndsK p e below _ (T6.setTop (mkF m 56 #[.val (.ref pa), .val (.int np), .val (.ref ta), .val (.int nt), .val (.int any), .val (.ref da), .val (.int xi)] [(.ref da), (.int any), (.int nt), (.ref ta), (.int np), (.ref pa), (.int (2 : Int32)), (.ref y)]))
  refine EndsK.go (fun _ kz => XS.iload X6.here hx rfl (hb hby d3_56) rfl kz) ?_
  show EndsK p e below _ (T6.setTop (mkF m 58 #[.val (.ref pa), .val (.int np), .val (.ref ta), .val (.int nt), .val (.int any), .val (.ref da), .val (.int xi)] [(.int xi), (.ref da), (.int any), (.int nt), (.ref ta), (.int np), (.ref pa), (.int (2 : Int32)), (.ref y)]))
  refine EndsK.go (fun _ kz => XS.iconst X6.here hx rfl (hb hby d3_58) kz) ?_
  show EndsK p e below _ (T6.setTop (mkF m 59 #[.val (.ref pa), .val (.int np), .val (.ref ta), .val (.int nt), .val (.int any), .val (.ref da), .val (.int xi)] [(.int (2 : Int32)), (.int xi), (.ref da), (.int any), (.int nt), (.ref ta), (.int np), (.ref pa), (.int (2 : Int32)), (.ref y)]))
  obtain ⟨_, _, ⟨T8, L8, k8, n8⟩, -, X8, ⟨Lc8, hQ8, l8, y8, z8⟩, st8⟩ := Jvm.LawKit.callS X6 hx (y := (⟨"com/example/seshat/seshat/registry/WildcardsMatchesPinLaw", "cell", "([II[III[[ZII)Z"⟩ : MethodName)) hown (mvT hZ (hw _ (List.mem_of_getElem? (i := 14) rfl))) (mvT hZ (hw _ (List.mem_of_getElem? (i := 15) rfl))) (mvT hZ (hw _ (List.mem_of_getElem? (i := 3) rfl))) (mvT hZ (hw _ (List.mem_of_getElem? (i := 16) rfl))) (by decide) (backOf (W := 2) (rm_cell l Z a0 hw [] pa np ta nt any da xi (2 : Int32) kP kT cA PL TL xs (step1 any np nt PL TL (step1 any np nt PL TL f xi (4 : Int32)) xi (3 : Int32)) h6 n0 Z6 bp0 bp1 bt0 bt1 bi0 bi1 (by decide) (by decide) VP6 VT6 hxs TG6) hZ (hw _ (List.mem_of_getElem? (i := 16) rfl)) (hw _ (List.mem_of_getElem? (i := 3) rfl)) (by decide) (by decide)) (g := (mkF m 59 #[.val (.ref pa), .val (.int np), .val (.ref ta), .val (.int nt), .val (.int any), .val (.ref da), .val (.int xi)] [(.int (2 : Int32)), (.int xi), (.ref da), (.int any), (.int nt), (.ref ta), (.int np), (.ref pa), (.int (2 : Int32)), (.ref y)])) rfl (by rw [hml]; rfl) (argsL := [(.ref pa), (.int np), (.ref ta), (.int nt), (.int any), (.ref da), (.int xi), (.int (2 : Int32))]) (rest := [(.int (2 : Int32)), (.ref y)]) (lenOf pd0 rfl) rfl (by show 2 * 0 + _ ≤ _; exact Nat.le_of_eq rfl) (hb hby d3_59) (fun _ _ => ⟨rfl, e6, (by decide : 0 + 0 + 0 + 0 ≤ _), (by decide : 0 + 0 + 0 + 0 ≤ _)⟩)
  dsimp only [Pt.U, Pt.locs, Pt.cells, Pt.slots] at X8 l8 y8 z8 st8 hQ8
  subst l8 y8 z8
  obtain ⟨rfl, N8, e8⟩ := hQ8
  have M8 := Fr.app N6 N8
  refine EndsK.go st8 ?_
  show EndsK p e below _ (T8.setTop (mkF m 62 #[.val (.ref pa), .val (.int np), .val (.ref ta), .val (.int nt), .val (.int any), .val (.ref da), .val (.int xi)] [(.int (cellAt any np nt PL TL (step1 any np nt PL TL (step1 any np nt PL TL f xi (4 : Int32)) xi (3 : Int32)) xi (2 : Int32))), (.int (2 : Int32)), (.ref y)]))
  obtain ⟨cl9, AR9, SR9, RR9⟩ := TG6.2 _ _ v1
  obtain ⟨T9, h9, X9, e9, W9, st9⟩ := stZ X8 hx hZ e8 AR9 (j := (2 : Int32)) (inb_of SR9 ⟨by decide, by decide⟩) (g := (mkF m 62 #[.val (.ref pa), .val (.int np), .val (.ref ta), .val (.int nt), .val (.int any), .val (.ref da), .val (.int xi)] [(.int (cellAt any np nt PL TL (step1 any np nt PL TL (step1 any np nt PL TL f xi (4 : Int32)) xi (3 : Int32)) xi (2 : Int32))), (.int (2 : Int32)), (.ref y)])) rfl rfl (hb hby d3_62)
  rw [own_nar] at W9
  have TG9 : TabP Z h9 da cA xs (step1 any np nt PL TL (step1 any np nt PL TL (step1 any np nt PL TL f xi (4 : Int32)) xi (3 : Int32)) xi (2 : Int32)) := TabP.set hxs TG6 v1 (c := (2 : Int32).toNatClampNeg) (by decide) W9
  have N9 := Fr.snoc X9 M8 ny
  have K9 := K6.wr W9 (Or.inl (List.mem_of_getElem? (i := 0) rfl))
  have Z9 : n0 ≤ h9.size := Nat.le_trans Z6 (Nat.le_of_eq W9.size.symm)
  have VP9 := VP6.other W9 npy
  have VT9 := VT6.other W9 nty
  refine EndsK.go st9 ?_
  show EndsK p e below _ (T9.setTop (mkF m 63 #[.val (.ref pa), .val (.int np), .val (.ref ta), .val (.int nt), .val (.int any), .val (.ref da), .val (.int xi)] []))
  refine EndsK.go (fun _ kz => XS.aload X9.here hx rfl (hb hby d3_63) rfl rfl kz) ?_
  show EndsK p e below _ (T9.setTop (mkF m 65 #[.val (.ref pa), .val (.int np), .val (.ref ta), .val (.int nt), .val (.int any), .val (.ref da), .val (.int xi)] [(.ref da)]))
  refine EndsK.go (fun _ kz => XS.iload X9.here hx rfl (hb hby d3_65) rfl kz) ?_
  show EndsK p e below _ (T9.setTop (mkF m 67 #[.val (.ref pa), .val (.int np), .val (.ref ta), .val (.int nt), .val (.int any), .val (.ref da), .val (.int xi)] [(.int xi), (.ref da)]))
  obtain ⟨cD10, AD10, qD110, qD210, qD310, HD10, GD10⟩ := id TG9.1
  refine EndsK.go (fun tz kz => X9.aaload hx (j := xi) (v := (.ref y)) (by rw [e9]; exact AD10.1) (State.isArrayOf_alike hZ.alike AD10.2.1) rfl AD10.2.2 (inb_of qD210 inD) (Has.at HD10 (inb_of qD210 inD) v2) (g := (mkF m 67 #[.val (.ref pa), .val (.int np), .val (.ref ta), .val (.int nt), .val (.int any), .val (.ref da), .val (.int xi)] [(.int xi), (.ref da)])) rfl rfl (hb hby d3_67) tz kz) ?_
  show EndsK p e below _ (T9.setTop (mkF m 68 #[.val (.ref pa), .val (.int np), .val (.ref ta), .val (.int nt), .val (.int any), .val (.ref da), .val (.int xi)] [(.ref y)]))
  refine EndsK.go (fun _ kz => XS.iconst X9.here hx rfl (hb hby d3_68) kz) ?_
  show EndsK p e below _ (T9.setTop (mkF m 69 #[.val (.ref pa), .val (.int np), .val (.ref ta), .val (.int nt), .val (.int any), .val (.ref da), .val (.int xi)] [(.int (1 : Int32)), (.ref y)]))
  refine EndsK.go (fun _ kz => XS.aloadN X9.here hx rfl (hb hby d3_69) rfl rfl kz) ?_
  show EndsK p e below _ (T9.setTop (mkF m 70 #[.val (.ref pa), .val (.int np), .val (.ref ta), .val (.int nt), .val (.int any), .val (.ref da), .val (.int xi)] [(.ref pa), (.int (1 : Int32)), (.ref y)]))
  refine EndsK.go (fun _ kz => XS.iloadN X9.here hx rfl (hb hby d3_70) rfl kz) ?_
  show EndsK p e below _ (T9.setTop (mkF m 71 #[.val (.ref pa), .val (.int np), .val (.ref ta), .val (.int nt), .val (.int any), .val (.ref da), .val (.int xi)] [(.int np), (.ref pa), (.int (1 : Int32)), (.ref y)]))
  refine EndsK.go (fun _ kz => XS.aloadN X9.here hx rfl (hb hby d3_71) rfl rfl kz) ?_
  show EndsK p e below _ (T9.setTop (mkF m 72 #[.val (.ref pa), .val (.int np), .val (.ref ta), .val (.int nt), .val (.int any), .val (.ref da), .val (.int xi)] [(.ref ta), (.int np), (.ref pa), (.int (1 : Int32)), (.ref y)]))
  refine EndsK.go (fun _ kz => XS.iloadN X9.here hx rfl (hb hby d3_72) rfl kz) ?_
  show EndsK p e below _ (T9.setTop (mkF m 73 #[.val (.ref pa), .val (.int np), .val (.ref ta), .val (.int nt), .val (.int any), .val (.ref da), .val (.int xi)] [(.int nt), (.ref ta), (.int np), (.ref pa), (.int (1 : Int32)), (.ref y)]))
  refine EndsK.go (fun _ kz => XS.iload X9.here hx rfl (hb hby d3_73) rfl kz) ?_
  show EndsK p e below _ (T9.setTop (mkF m 75 #[.val (.ref pa), .val (.int np), .val (.ref ta), .val (.int nt), .val (.int any), .val (.ref da), .val (.int xi)] [(.int any), (.int nt), (.ref ta), (.int np), (.ref pa), (.int (1 : Int32)), (.ref y)]))
  refine EndsK.go (fun _ kz => XS.aload X9.here hx rfl (hb hby d3_75) rfl rfl kz) ?_
  show EndsK p e below _ (T9.setTop (mkF m 77 #[.val (.ref pa), .val (.int np), .val (.ref ta), .val (.int nt), .val (.int any), .val (.ref da), .val (.int xi)] [(.ref da), (.int any), (.int nt), (.ref ta), (.int np), (.ref pa), (.int (1 : Int32)), (.ref y)]))
  refine EndsK.go (fun _ kz => XS.iload X9.here hx rfl (hb hby d3_77) rfl kz) ?_
  show EndsK p e below _ (T9.setTop (mkF m 79 #[.val (.ref pa), .val (.int np), .val (.ref ta), .val (.int nt), .val (.int any), .val (.ref da), .val (.int xi)] [(.int xi), (.ref da), (.int any), (.int nt), (.ref ta), (.int np), (.ref pa), (.int (1 : Int32)), (.ref y)]))
  refine EndsK.go (fun _ kz => XS.iconst X9.here hx rfl (hb hby d3_79) kz) ?_
  show EndsK p e below _ (T9.setTop (mkF m 80 #[.val (.ref pa), .val (.int np), .val (.ref ta), .val (.int nt), .val (.int any), .val (.ref da), .val (.int xi)] [(.int (1 : Int32)), (.int xi), (.ref da), (.int any), (.int nt), (.ref ta), (.int np), (.ref pa), (.int (1 : Int32)), (.ref y)]))
  obtain ⟨_, _, ⟨T11, L11, k11, n11⟩, -, X11, ⟨Lc11, hQ11, l11, y11, z11⟩, st11⟩ := Jvm.LawKit.callS X9 hx (y := (⟨"com/example/seshat/seshat/registry/WildcardsMatchesPinLaw", "cell", "([II[III[[ZII)Z"⟩ : MethodName)) hown (mvT hZ (hw _ (List.mem_of_getElem? (i := 14) rfl))) (mvT hZ (hw _ (List.mem_of_getElem? (i := 15) rfl))) (mvT hZ (hw _ (List.mem_of_getElem? (i := 3) rfl))) (mvT hZ (hw _ (List.mem_of_getElem? (i := 16) rfl))) (by decide) (backOf (W := 2) (rm_cell l Z a0 hw [] pa np ta nt any da xi (1 : Int32) kP kT cA PL TL xs (step1 any np nt PL TL (step1 any np nt PL TL (step1 any np nt PL TL f xi (4 : Int32)) xi (3 : Int32)) xi (2 : Int32)) h9 n0 Z9 bp0 bp1 bt0 bt1 bi0 bi1 (by decide) (by decide) VP9 VT9 hxs TG9) hZ (hw _ (List.mem_of_getElem? (i := 16) rfl)) (hw _ (List.mem_of_getElem? (i := 3) rfl)) (by decide) (by decide)) (g := (mkF m 80 #[.val (.ref pa), .val (.int np), .val (.ref ta), .val (.int nt), .val (.int any), .val (.ref da), .val (.int xi)] [(.int (1 : Int32)), (.int xi), (.ref da), (.int any), (.int nt), (.ref ta), (.int np), (.ref pa), (.int (1 : Int32)), (.ref y)])) rfl (by rw [hml]; rfl) (argsL := [(.ref pa), (.int np), (.ref ta), (.int nt), (.int any), (.ref da), (.int xi), (.int (1 : Int32))]) (rest := [(.int (1 : Int32)), (.ref y)]) (lenOf pd0 rfl) rfl (by show 2 * 0 + _ ≤ _; exact Nat.le_of_eq rfl) (hb hby d3_80) (fun _ _ => ⟨rfl, e9, (by decide : 0 + 0 + 0 + 0 + 0 ≤ _), (by decide : 0 + 0 + 0 + 0 + 0 ≤ _)⟩)
  dsimp only [Pt.U, Pt.locs, Pt.cells, Pt.slots] at X11 l11 y11 z11 st11 hQ11
  subst l11 y11 z11
  obtain ⟨rfl, N11, e11⟩ := hQ11
  have M11 := Fr.app N9 N11
  refine EndsK.go st11 ?_
  show EndsK p e below _ (T11.setTop (mkF m 83 #[.val (.ref pa), .val (.int np), .val (.ref ta), .val (.int nt), .val (.int any), .val (.ref da), .val (.int xi)] [(.int (cellAt any np nt PL TL (step1 any np nt PL TL (step1 any np nt PL TL (step1 any np nt PL TL f xi (4 : Int32)) xi (3 : Int32)) xi (2 : Int32)) xi (1 : Int32))), (.int (1 : Int32)), (.ref y)]))
  obtain ⟨cl12, AR12, SR12, RR12⟩ := TG9.2 _ _ v1
  obtain ⟨T12, h12, X12, e12, W12, st12⟩ := stZ X11 hx hZ e11 AR12 (j := (1 : Int32)) (inb_of SR12 ⟨by decide, by decide⟩) (g := (mkF m 83 #[.val (.ref pa), .val (.int np), .val (.ref ta), .val (.int nt), .val (.int any), .val (.ref da), .val (.int xi)] [(.int (cellAt any np nt PL TL (step1 any np nt PL TL (step1 any np nt PL TL (step1 any np nt PL TL f xi (4 : Int32)) xi (3 : Int32)) xi (2 : Int32)) xi (1 : Int32))), (.int (1 : Int32)), (.ref y)])) rfl rfl (hb hby d3_83)
  rw [own_nar] at W12
  have TG12 : TabP Z h12 da cA xs (step1 any np nt PL TL (step1 any np nt PL TL (step1 any np nt PL TL (step1 any np nt PL TL f xi (4 : Int32)) xi (3 : Int32)) xi (2 : Int32)) xi (1 : Int32)) := TabP.set hxs TG9 v1 (c := (1 : Int32).toNatClampNeg) (by decide) W12
  have N12 := Fr.snoc X12 M11 ny
  have K12 := K9.wr W12 (Or.inl (List.mem_of_getElem? (i := 0) rfl))
  have Z12 : n0 ≤ h12.size := Nat.le_trans Z9 (Nat.le_of_eq W12.size.symm)
  have VP12 := VP9.other W12 npy
  have VT12 := VT9.other W12 nty
  refine EndsK.go st12 ?_
  show EndsK p e below _ (T12.setTop (mkF m 84 #[.val (.ref pa), .val (.int np), .val (.ref ta), .val (.int nt), .val (.int any), .val (.ref da), .val (.int xi)] []))
  refine EndsK.go (fun _ kz => XS.aload X12.here hx rfl (hb hby d3_84) rfl rfl kz) ?_
  show EndsK p e below _ (T12.setTop (mkF m 86 #[.val (.ref pa), .val (.int np), .val (.ref ta), .val (.int nt), .val (.int any), .val (.ref da), .val (.int xi)] [(.ref da)]))
  refine EndsK.go (fun _ kz => XS.iload X12.here hx rfl (hb hby d3_86) rfl kz) ?_
  show EndsK p e below _ (T12.setTop (mkF m 88 #[.val (.ref pa), .val (.int np), .val (.ref ta), .val (.int nt), .val (.int any), .val (.ref da), .val (.int xi)] [(.int xi), (.ref da)]))
  obtain ⟨cD13, AD13, qD113, qD213, qD313, HD13, GD13⟩ := id TG12.1
  refine EndsK.go (fun tz kz => X12.aaload hx (j := xi) (v := (.ref y)) (by rw [e12]; exact AD13.1) (State.isArrayOf_alike hZ.alike AD13.2.1) rfl AD13.2.2 (inb_of qD213 inD) (Has.at HD13 (inb_of qD213 inD) v2) (g := (mkF m 88 #[.val (.ref pa), .val (.int np), .val (.ref ta), .val (.int nt), .val (.int any), .val (.ref da), .val (.int xi)] [(.int xi), (.ref da)])) rfl rfl (hb hby d3_88) tz kz) ?_
  show EndsK p e below _ (T12.setTop (mkF m 89 #[.val (.ref pa), .val (.int np), .val (.ref ta), .val (.int nt), .val (.int any), .val (.ref da), .val (.int xi)] [(.ref y)]))
  refine EndsK.go (fun _ kz => XS.iconst X12.here hx rfl (hb hby d3_89) kz) ?_
  show EndsK p e below _ (T12.setTop (mkF m 90 #[.val (.ref pa), .val (.int np), .val (.ref ta), .val (.int nt), .val (.int any), .val (.ref da), .val (.int xi)] [(.int (0 : Int32)), (.ref y)]))
  refine EndsK.go (fun _ kz => XS.aloadN X12.here hx rfl (hb hby d3_90) rfl rfl kz) ?_
  show EndsK p e below _ (T12.setTop (mkF m 91 #[.val (.ref pa), .val (.int np), .val (.ref ta), .val (.int nt), .val (.int any), .val (.ref da), .val (.int xi)] [(.ref pa), (.int (0 : Int32)), (.ref y)]))
  refine EndsK.go (fun _ kz => XS.iloadN X12.here hx rfl (hb hby d3_91) rfl kz) ?_
  show EndsK p e below _ (T12.setTop (mkF m 92 #[.val (.ref pa), .val (.int np), .val (.ref ta), .val (.int nt), .val (.int any), .val (.ref da), .val (.int xi)] [(.int np), (.ref pa), (.int (0 : Int32)), (.ref y)]))
  refine EndsK.go (fun _ kz => XS.aloadN X12.here hx rfl (hb hby d3_92) rfl rfl kz) ?_
  show EndsK p e below _ (T12.setTop (mkF m 93 #[.val (.ref pa), .val (.int np), .val (.ref ta), .val (.int nt), .val (.int any), .val (.ref da), .val (.int xi)] [(.ref ta), (.int np), (.ref pa), (.int (0 : Int32)), (.ref y)]))
  refine EndsK.go (fun _ kz => XS.iloadN X12.here hx rfl (hb hby d3_93) rfl kz) ?_
  show EndsK p e below _ (T12.setTop (mkF m 94 #[.val (.ref pa), .val (.int np), .val (.ref ta), .val (.int nt), .val (.int any), .val (.ref da), .val (.int xi)] [(.int nt), (.ref ta), (.int np), (.ref pa), (.int (0 : Int32)), (.ref y)]))
  refine EndsK.go (fun _ kz => XS.iload X12.here hx rfl (hb hby d3_94) rfl kz) ?_
  show EndsK p e below _ (T12.setTop (mkF m 96 #[.val (.ref pa), .val (.int np), .val (.ref ta), .val (.int nt), .val (.int any), .val (.ref da), .val (.int xi)] [(.int any), (.int nt), (.ref ta), (.int np), (.ref pa), (.int (0 : Int32)), (.ref y)]))
  refine EndsK.go (fun _ kz => XS.aload X12.here hx rfl (hb hby d3_96) rfl rfl kz) ?_
  show EndsK p e below _ (T12.setTop (mkF m 98 #[.val (.ref pa), .val (.int np), .val (.ref ta), .val (.int nt), .val (.int any), .val (.ref da), .val (.int xi)] [(.ref da), (.int any), (.int nt), (.ref ta), (.int np), (.ref pa), (.int (0 : Int32)), (.ref y)]))
  refine EndsK.go (fun _ kz => XS.iload X12.here hx rfl (hb hby d3_98) rfl kz) ?_
  show EndsK p e below _ (T12.setTop (mkF m 100 #[.val (.ref pa), .val (.int np), .val (.ref ta), .val (.int nt), .val (.int any), .val (.ref da), .val (.int xi)] [(.int xi), (.ref da), (.int any), (.int nt), (.ref ta), (.int np), (.ref pa), (.int (0 : Int32)), (.ref y)]))
  refine EndsK.go (fun _ kz => XS.iconst X12.here hx rfl (hb hby d3_100) kz) ?_
  show EndsK p e below _ (T12.setTop (mkF m 101 #[.val (.ref pa), .val (.int np), .val (.ref ta), .val (.int nt), .val (.int any), .val (.ref da), .val (.int xi)] [(.int (0 : Int32)), (.int xi), (.ref da), (.int any), (.int nt), (.ref ta), (.int np), (.ref pa), (.int (0 : Int32)), (.ref y)]))
  obtain ⟨_, _, ⟨T14, L14, k14, n14⟩, -, X14, ⟨Lc14, hQ14, l14, y14, z14⟩, st14⟩ := Jvm.LawKit.callS X12 hx (y := (⟨"com/example/seshat/seshat/registry/WildcardsMatchesPinLaw", "cell", "([II[III[[ZII)Z"⟩ : MethodName)) hown (mvT hZ (hw _ (List.mem_of_getElem? (i := 14) rfl))) (mvT hZ (hw _ (List.mem_of_getElem? (i := 15) rfl))) (mvT hZ (hw _ (List.mem_of_getElem? (i := 3) rfl))) (mvT hZ (hw _ (List.mem_of_getElem? (i := 16) rfl))) (by decide) (backOf (W := 2) (rm_cell l Z a0 hw [] pa np ta nt any da xi (0 : Int32) kP kT cA PL TL xs (step1 any np nt PL TL (step1 any np nt PL TL (step1 any np nt PL TL (step1 any np nt PL TL f xi (4 : Int32)) xi (3 : Int32)) xi (2 : Int32)) xi (1 : Int32)) h12 n0 Z12 bp0 bp1 bt0 bt1 bi0 bi1 (by decide) (by decide) VP12 VT12 hxs TG12) hZ (hw _ (List.mem_of_getElem? (i := 16) rfl)) (hw _ (List.mem_of_getElem? (i := 3) rfl)) (by decide) (by decide)) (g := (mkF m 101 #[.val (.ref pa), .val (.int np), .val (.ref ta), .val (.int nt), .val (.int any), .val (.ref da), .val (.int xi)] [(.int (0 : Int32)), (.int xi), (.ref da), (.int any), (.int nt), (.ref ta), (.int np), (.ref pa), (.int (0 : Int32)), (.ref y)])) rfl (by rw [hml]; rfl) (argsL := [(.ref pa), (.int np), (.ref ta), (.int nt), (.int any), (.ref da), (.int xi), (.int (0 : Int32))]) (rest := [(.int (0 : Int32)), (.ref y)]) (lenOf pd0 rfl) rfl (by show 2 * 0 + _ ≤ _; exact Nat.le_of_eq rfl) (hb hby d3_101) (fun _ _ => ⟨rfl, e12, (by decide : 0 + 0 + 0 + 0 + 0 + 0 ≤ _), (by decide : 0 + 0 + 0 + 0 + 0 + 0 ≤ _)⟩)
  dsimp only [Pt.U, Pt.locs, Pt.cells, Pt.slots] at X14 l14 y14 z14 st14 hQ14
  subst l14 y14 z14
  obtain ⟨rfl, N14, e14⟩ := hQ14
  have M14 := Fr.app N12 N14
  refine EndsK.go st14 ?_
  show EndsK p e below _ (T14.setTop (mkF m 104 #[.val (.ref pa), .val (.int np), .val (.ref ta), .val (.int nt), .val (.int any), .val (.ref da), .val (.int xi)] [(.int (cellAt any np nt PL TL (step1 any np nt PL TL (step1 any np nt PL TL (step1 any np nt PL TL (step1 any np nt PL TL f xi (4 : Int32)) xi (3 : Int32)) xi (2 : Int32)) xi (1 : Int32)) xi (0 : Int32))), (.int (0 : Int32)), (.ref y)]))
  obtain ⟨cl15, AR15, SR15, RR15⟩ := TG12.2 _ _ v1
  obtain ⟨T15, h15, X15, e15, W15, st15⟩ := stZ X14 hx hZ e14 AR15 (j := (0 : Int32)) (inb_of SR15 ⟨by decide, by decide⟩) (g := (mkF m 104 #[.val (.ref pa), .val (.int np), .val (.ref ta), .val (.int nt), .val (.int any), .val (.ref da), .val (.int xi)] [(.int (cellAt any np nt PL TL (step1 any np nt PL TL (step1 any np nt PL TL (step1 any np nt PL TL (step1 any np nt PL TL f xi (4 : Int32)) xi (3 : Int32)) xi (2 : Int32)) xi (1 : Int32)) xi (0 : Int32))), (.int (0 : Int32)), (.ref y)])) rfl rfl (hb hby d3_104)
  rw [own_nar] at W15
  have TG15 : TabP Z h15 da cA xs (step1 any np nt PL TL (step1 any np nt PL TL (step1 any np nt PL TL (step1 any np nt PL TL (step1 any np nt PL TL f xi (4 : Int32)) xi (3 : Int32)) xi (2 : Int32)) xi (1 : Int32)) xi (0 : Int32)) := TabP.set hxs TG12 v1 (c := (0 : Int32).toNatClampNeg) (by decide) W15
  have N15 := Fr.snoc X15 M14 ny
  have K15 := K12.wr W15 (Or.inl (List.mem_of_getElem? (i := 0) rfl))
  have Z15 : n0 ≤ h15.size := Nat.le_trans Z12 (Nat.le_of_eq W15.size.symm)
  have VP15 := VP12.other W15 npy
  have VT15 := VT12.other W15 nty
  refine EndsK.go st15 ?_
  show EndsK p e below _ (T15.setTop (mkF m 105 #[.val (.ref pa), .val (.int np), .val (.ref ta), .val (.int nt), .val (.int any), .val (.ref da), .val (.int xi)] []))
  exact endV X15 hx Bd.returns (hb hby d3_105) hlk ⟨rfl, N15, by rw [e15]; exact K15, by rw [e15]; exact TG15⟩ (by decide) (by decide)
theorem d5_0 : decode prog_55_method_5_code 0 = .ok (.iconst 0, 1) := by decide +kernel
theorem d5_1 : decode prog_55_method_5_code 1 = .ok (.istore_n 3, 1) := by decide +kernel
theorem d5_2 : decode prog_55_method_5_code 2 = .ok (.iconst 0, 1) := by decide +kernel
theorem d5_3 : decode prog_55_method_5_code 3 = .ok (.istore 4, 2) := by decide +kernel
theorem d5_5 : decode prog_55_method_5_code 5 = .ok (.iconst (-1), 1) := by decide +kernel
theorem d5_6 : decode prog_55_method_5_code 6 = .ok (.istore 5, 2) := by decide +kernel
theorem d5_8 : decode prog_55_method_5_code 8 = .ok (.iconst 0, 1) := by decide +kernel
theorem d5_9 : decode prog_55_method_5_code 9 = .ok (.istore 6, 2) := by decide +kernel
theorem d5_11 : decode prog_55_method_5_code 11 = .ok (.iload 4, 2) := by decide +kernel
theorem d5_13 : decode prog_55_method_5_code 13 = .ok (.aload_n 1, 1) := by decide +kernel
theorem d5_14 : decode prog_55_method_5_code 14 = .ok (.arraylength, 1) := by decide +kernel
theorem d5_15 : decode prog_55_method_5_code 15 = .ok (.if_icmp .ge 84, 3) := by decide +kernel
theorem d5_18 : decode prog_55_method_5_code 18 = .ok (.iload_n 3, 1) := by decide +kernel
theorem d5_19 : decode prog_55_method_5_code 19 = .ok (.aload_n 0, 1) := by decide +kernel
theorem d5_20 : decode prog_55_method_5_code 20 = .ok (.arraylength, 1) := by decide +kernel
theorem d5_21 : decode prog_55_method_5_code 21 = .ok (.if_icmp .ge 24, 3) := by decide +kernel
theorem d5_24 : decode prog_55_method_5_code 24 = .ok (.aload_n 0, 1) := by decide +kernel
theorem d5_25 : decode prog_55_method_5_code 25 = .ok (.iload_n 3, 1) := by decide +kernel
theorem d5_26 : decode prog_55_method_5_code 26 = .ok (.iaload, 1) := by decide +kernel
theorem d5_27 : decode prog_55_method_5_code 27 = .ok (.bipush 37, 2) := by decide +kernel
theorem d5_29 : decode prog_55_method_5_code 29 = .ok (.if_icmp .ne 16, 3) := by decide +kernel
theorem d5_32 : decode prog_55_method_5_code 32 = .ok (.iload_n 3, 1) := by decide +kernel
theorem d5_33 : decode prog_55_method_5_code 33 = .ok (.iinc 3 1, 3) := by decide +kernel
theorem d5_36 : decode prog_55_method_5_code 36 = .ok (.istore 5, 2) := by decide +kernel
theorem d5_38 : decode prog_55_method_5_code 38 = .ok (.iload 4, 2) := by decide +kernel
theorem d5_40 : decode prog_55_method_5_code 40 = .ok (.istore 6, 2) := by decide +kernel
theorem d5_42 : decode prog_55_method_5_code 42 = .ok (.goto (-31), 3) := by decide +kernel
theorem d5_45 : decode prog_55_method_5_code 45 = .ok (.iload_n 3, 1) := by decide +kernel
theorem d5_46 : decode prog_55_method_5_code 46 = .ok (.aload_n 0, 1) := by decide +kernel
theorem d5_47 : decode prog_55_method_5_code 47 = .ok (.arraylength, 1) := by decide +kernel
theorem d5_48 : decode prog_55_method_5_code 48 = .ok (.if_icmp .ge 29, 3) := by decide +kernel
theorem d5_51 : decode prog_55_method_5_code 51 = .ok (.aload_n 0, 1) := by decide +kernel
theorem d5_52 : decode prog_55_method_5_code 52 = .ok (.iload_n 3, 1) := by decide +kernel
theorem d5_53 : decode prog_55_method_5_code 53 = .ok (.iaload, 1) := by decide +kernel
theorem d5_54 : decode prog_55_method_5_code 54 = .ok (.iload_n 2, 1) := by decide +kernel
theorem d5_55 : decode prog_55_method_5_code 55 = .ok (.if_icmp .eq 13, 3) := by decide +kernel
theorem d5_58 : decode prog_55_method_5_code 58 = .ok (.aload_n 0, 1) := by decide +kernel
theorem d5_59 : decode prog_55_method_5_code 59 = .ok (.iload_n 3, 1) := by decide +kernel
theorem d5_60 : decode prog_55_method_5_code 60 = .ok (.iaload, 1) := by decide +kernel
theorem d5_61 : decode prog_55_method_5_code 61 = .ok (.aload_n 1, 1) := by decide +kernel
theorem d5_62 : decode prog_55_method_5_code 62 = .ok (.iload 4, 2) := by decide +kernel
theorem d5_64 : decode prog_55_method_5_code 64 = .ok (.iaload, 1) := by decide +kernel
theorem d5_65 : decode prog_55_method_5_code 65 = .ok (.if_icmp .ne 12, 3) := by decide +kernel
theorem d5_68 : decode prog_55_method_5_code 68 = .ok (.iinc 3 1, 3) := by decide +kernel
theorem d5_71 : decode prog_55_method_5_code 71 = .ok (.iinc 4 1, 3) := by decide +kernel
theorem d5_74 : decode prog_55_method_5_code 74 = .ok (.goto (-63), 3) := by decide +kernel
theorem d5_77 : decode prog_55_method_5_code 77 = .ok (.iload 5, 2) := by decide +kernel
theorem d5_79 : decode prog_55_method_5_code 79 = .ok (.ifCond .lt 18, 3) := by decide +kernel
theorem d5_82 : decode prog_55_method_5_code 82 = .ok (.iload 5, 2) := by decide +kernel
theorem d5_84 : decode prog_55_method_5_code 84 = .ok (.iconst 1, 1) := by decide +kernel
theorem d5_85 : decode prog_55_method_5_code 85 = .ok (.iadd, 1) := by decide +kernel
theorem d5_86 : decode prog_55_method_5_code 86 = .ok (.istore_n 3, 1) := by decide +kernel
theorem d5_87 : decode prog_55_method_5_code 87 = .ok (.iinc 6 1, 3) := by decide +kernel
theorem d5_90 : decode prog_55_method_5_code 90 = .ok (.iload 6, 2) := by decide +kernel
theorem d5_92 : decode prog_55_method_5_code 92 = .ok (.istore 4, 2) := by decide +kernel
theorem d5_94 : decode prog_55_method_5_code 94 = .ok (.goto (-83), 3) := by decide +kernel
theorem d5_97 : decode prog_55_method_5_code 97 = .ok (.iconst 0, 1) := by decide +kernel
theorem d5_98 : decode prog_55_method_5_code 98 = .ok (.ireturn, 1) := by decide +kernel
theorem d5_99 : decode prog_55_method_5_code 99 = .ok (.iload_n 3, 1) := by decide +kernel
theorem d5_100 : decode prog_55_method_5_code 100 = .ok (.aload_n 0, 1) := by decide +kernel
theorem d5_101 : decode prog_55_method_5_code 101 = .ok (.arraylength, 1) := by decide +kernel
theorem d5_102 : decode prog_55_method_5_code 102 = .ok (.if_icmp .ge 17, 3) := by decide +kernel
theorem d5_105 : decode prog_55_method_5_code 105 = .ok (.aload_n 0, 1) := by decide +kernel
theorem d5_106 : decode prog_55_method_5_code 106 = .ok (.iload_n 3, 1) := by decide +kernel
theorem d5_107 : decode prog_55_method_5_code 107 = .ok (.iaload, 1) := by decide +kernel
theorem d5_108 : decode prog_55_method_5_code 108 = .ok (.bipush 37, 2) := by decide +kernel
theorem d5_110 : decode prog_55_method_5_code 110 = .ok (.if_icmp .ne 9, 3) := by decide +kernel
theorem d5_113 : decode prog_55_method_5_code 113 = .ok (.iinc 3 1, 3) := by decide +kernel
theorem d5_116 : decode prog_55_method_5_code 116 = .ok (.goto (-17), 3) := by decide +kernel
theorem d5_119 : decode prog_55_method_5_code 119 = .ok (.iload_n 3, 1) := by decide +kernel
theorem d5_120 : decode prog_55_method_5_code 120 = .ok (.aload_n 0, 1) := by decide +kernel
theorem d5_121 : decode prog_55_method_5_code 121 = .ok (.arraylength, 1) := by decide +kernel
theorem d5_122 : decode prog_55_method_5_code 122 = .ok (.if_icmp .ne 7, 3) := by decide +kernel
theorem d5_125 : decode prog_55_method_5_code 125 = .ok (.iconst 1, 1) := by decide +kernel
theorem d5_126 : decode prog_55_method_5_code 126 = .ok (.goto 4, 3) := by decide +kernel
theorem d5_129 : decode prog_55_method_5_code 129 = .ok (.iconst 0, 1) := by decide +kernel
theorem d5_130 : decode prog_55_method_5_code 130 = .ok (.ireturn, 1) := by decide +kernel
theorem pn1 : plainName "com/example/seshat/seshat/registry/Wildcards" = true := by first | (simp [plainName, overriddenIn]; done) | decide +kernel
theorem ef_mat (m : MethodId) (pa : Addr) (ta : Addr) (any : Int32) (kP : ClassId) (kT : ClassId) (nP : Int32) (nT : Int32) (P : List Int32) (T : List Int32) : entryFrame m #[(.ref pa), (.ref ta), (.int any)] 7 = mkF m 0 #[.val (.ref pa), .val (.ref ta), .val (.int any), .unset, .unset, .unset, .unset] [] := by first | (simp [entryFrame, mkF, argsToLocals, Value.category]; done) | rfl
def Q_mat (Z : State) (pa : Addr) (ta : Addr) (any : Int32) (kP : ClassId) (kT : ClassId) (nP : Int32) (nT : Int32) (P : List Int32) (T : List Int32) (h0 : Heap) (n0 : Nat) (vz : Option Value) (hz : Heap) (Lz : List Loc) : Prop := vz = some (.int (b2i (wm any P T))) ∧ Fr n0 Lz ∧ hz = h0
set_option maxRecDepth 65536 in
set_option maxHeartbeats 40000000 in
theorem rm_mat (l : Launch) (Z : State) (a0 : Array Value) (hw : ∀ d ∈ tables_1, d.before a0 Z = true) (ws : List Jvm.Cond) (pa : Addr) (ta : Addr) (any : Int32) (kP : ClassId) (kT : ClassId) (nP : Int32) (nT : Int32) (P : List Int32) (T : List Int32) (h0 : Heap) (n0 : Nat) (Z0 : n0 ≤ h0.size) (VP : Arv Z h0 pa kP .int nP (P.map .int) (.int 0)) (VT : Arv Z h0 ta kT .int nT (T.map .int) (.int 0)) (lP : nP.toInt = P.length) (lT : nT.toInt = T.length) (uP : nP.toInt ≤ 4) (uT : nT.toInt ≤ 4) :
    MetFree l (⟨"com/example/seshat/seshat/registry/Wildcards", "matches", "([I[II)Z"⟩ : MethodName) (head1 (Jvm.Cond.code (⟨"com/example/seshat/seshat/registry/Wildcards", "matches", "([I[II)Z"⟩ : MethodName) prog_55_method_5_code 7 (some .boolean) :: ws) ({ frames := 0, cells := 0, slots := 0, locals := 0 } : Room)) (fun az Uz => az = #[(.ref pa), (.ref ta), (.int any)] ∧ Z.Warmed39 Uz.vm ∧ Uz.heap = h0) (fun _ _ _ _ _ => True) (fun _ Uz oz Ut => ∃ vz Lz, oz = .returned vz ∧ Q_mat Z pa ta any kP kT nP nT P T h0 n0 vz Ut.heap Lz ∧ FrameEnd Uz oz Ut Lz (({ frames := 0, cells := 0, slots := 0, locals := 0 } : Room)).cells (({ frames := 0, cells := 0, slots := 0, locals := 0 } : Room)).slots) := by
  refine MetFree.of_bodySF (plainFor_of_name pn1) hisR ?_
  intro p e s m args below meth c s₁ Bd hml0 hP hK
  obtain ⟨rfl, hZ, hh⟩ := hP
  have hx := Bd.exec
  have hby := Bd.bytes
  have hml : c.maxLocals = 7 := hml0
  have hown : s.vm.findClass "com/example/seshat/seshat/registry/Wildcards" = some m.cls := findClass_of_methodNamed Bd.named
  have hnm := (name_of_methodNamed Bd.named Bd.method).1
  have hlk : meth.locks = false := Bd.notSynchronized
  have X0 : Stand p l e ({ frames := 0, cells := 0, slots := 0, locals := 0 } : Room) s m #[(.ref pa), (.ref ta), (.int any)] below meth c s₁ [] 0 0 := Stand.of_body Bd
  have e0 : s₁.heap = h0 := by rw [← hh, Bd.state]; rfl
  have N0 := Fr.nil n0
  show EndsK p e below (OQ s (Q_mat Z pa ta any kP kT nP nT P T h0 n0) (({ frames := 0, cells := 0, slots := 0, locals := 0 } : Room)).cells (({ frames := 0, cells := 0, slots := 0, locals := 0 } : Room)).slots) (s₁.setTop (entryFrame m #[(.ref pa), (.ref ta), (.int any)] 7))
  refine EndsK.start (ef_mat m pa ta any kP kT nP nT P T) ?_
  have z0 : (0 : Int32).toInt = 0 := rfl
  have z1 : (1 : Int32).toInt = 1 := rfl
  have z4 : (4 : Int32).toInt = 4 := rfl
  have z5 : (5 : Int32).toInt = 5 := rfl
  have zm : (-1 : Int32).toInt = -1 := rfl
  obtain ⟨cP, AP, qP1, qP2, qP3, HP, GP⟩ := VP
  obtain ⟨cT, AT, qT1, qT2, qT3, HT, GT⟩ := VT
  have J99 : ∀ (k : Nat) (xp xt xl xr : Int32), 0 ≤ xp.toInt → xp.toInt ≤ nP.toInt → nP.toInt - xp.toInt < k → wm any P T = wm any (P.drop xp.toNatClampNeg) [] → EndsK p e below (OQ s (Q_mat Z pa ta any kP kT nP nT P T h0 n0) (({ frames := 0, cells := 0, slots := 0, locals := 0 } : Room)).cells (({ frames := 0, cells := 0, slots := 0, locals := 0 } : Room)).slots) (s₁.setTop (mkF m 99 #[.val (.ref pa), .val (.ref ta), .val (.int any), .val (.int xp), .val (.int xt), .val (.int xl), .val (.int xr)] [])) := by
    intro k
    induction k with
    | zero => intro xp xt xl xr q0 q1 q2; omega
    | succ k ih =>
      intro xp xt xl xr q0 q1 q2 hw2
      have f1 := c_iadd xp 1
      have f1r := rng32 (xp + 1)
      show EndsK p e below _ (s₁.setTop (mkF m 99 #[.val (.ref pa), .val (.ref ta), .val (.int any), .val (.int xp), .val (.int xt), .val (.int xl), .val (.int xr)] []))
      refine EndsK.go (fun _ kz => XS.iloadN X0.here hx rfl (hb hby d5_99) rfl kz) ?_
      show EndsK p e below _ (s₁.setTop (mkF m 100 #[.val (.ref pa), .val (.ref ta), .val (.int any), .val (.int xp), .val (.int xt), .val (.int xl), .val (.int xr)] [(.int xp)]))
      refine EndsK.go (fun _ kz => XS.aloadN X0.here hx rfl (hb hby d5_100) rfl rfl kz) ?_
      show EndsK p e below _ (s₁.setTop (mkF m 101 #[.val (.ref pa), .val (.ref ta), .val (.int any), .val (.int xp), .val (.int xt), .val (.int xl), .val (.int xr)] [(.ref pa), (.int xp)]))
      refine EndsK.go (fun tz kz => X0.arraylength hx (by rw [e0]; exact AP.1) (State.isArrayOf_alike hZ.alike AP.2.1) (g := (mkF m 101 #[.val (.ref pa), .val (.ref ta), .val (.int any), .val (.int xp), .val (.int xt), .val (.int xl), .val (.int xr)] [(.ref pa), (.int xp)])) rfl rfl (hb hby d5_101) tz kz) ?_
      rw [(len_of qP2 qP3)]
      show EndsK p e below _ (s₁.setTop (mkF m 102 #[.val (.ref pa), .val (.ref ta), .val (.int any), .val (.int xp), .val (.int xt), .val (.int xl), .val (.int xr)] [(.int nP), (.int xp)]))
      by_cases H102_1 : xp < nP
      · have H102_1i := Int32.lt_iff_toInt_lt.mp H102_1
        refine EndsK.go (fun _ kz => XS.icmpNo X0.here hx rfl (hb hby d5_102) rfl (tlt H102_1).2.1 kz) ?_
        show EndsK p e below _ (s₁.setTop (mkF m 105 #[.val (.ref pa), .val (.ref ta), .val (.int any), .val (.int xp), .val (.int xt), .val (.int xl), .val (.int xr)] []))
        have kp := own_nat (x := xp) (by omega)
        have inP : ¬ xp < 0 ∧ xp < nP := by simp only [Int32.lt_iff_toInt_lt]; omega
        have gp := own_at (L := P) (k := xp.toNatClampNeg) (by omega)
        show EndsK p e below _ (s₁.setTop (mkF m 105 #[.val (.ref pa), .val (.ref ta), .val (.int any), .val (.int xp), .val (.int xt), .val (.int xl), .val (.int xr)] []))
        refine EndsK.go (fun _ kz => XS.aloadN X0.here hx rfl (hb hby d5_105) rfl rfl kz) ?_
        show EndsK p e below _ (s₁.setTop (mkF m 106 #[.val (.ref pa), .val (.ref ta), .val (.int any), .val (.int xp), .val (.int xt), .val (.int xl), .val (.int xr)] [(.ref pa)]))
        refine EndsK.go (fun _ kz => XS.iloadN X0.here hx rfl (hb hby d5_106) rfl kz) ?_
        show EndsK p e below _ (s₁.setTop (mkF m 107 #[.val (.ref pa), .val (.ref ta), .val (.int any), .val (.int xp), .val (.int xt), .val (.int xl), .val (.int xr)] [(.int xp), (.ref pa)]))
        refine EndsK.go (fun tz kz => X0.iaload hx (j := xp) (v := (.int (P.getD xp.toNatClampNeg 0))) (by rw [e0]; exact AP.1) (State.isArrayOf_alike hZ.alike AP.2.1) AP.2.2 (inb_of qP2 inP) (Has.at HP (inb_of qP2 inP) (own_getD P xp.toNatClampNeg)) (g := (mkF m 107 #[.val (.ref pa), .val (.ref ta), .val (.int any), .val (.int xp), .val (.int xt), .val (.int xl), .val (.int xr)] [(.int xp), (.ref pa)])) rfl rfl (hb hby d5_107) tz kz) ?_
        show EndsK p e below _ (s₁.setTop (mkF m 108 #[.val (.ref pa), .val (.ref ta), .val (.int any), .val (.int xp), .val (.int xt), .val (.int xl), .val (.int xr)] [(.int (P.getD xp.toNatClampNeg 0))]))
        refine EndsK.go (fun _ kz => XS.bipush X0.here hx rfl (hb hby d5_108) kz) ?_
        show EndsK p e below _ (s₁.setTop (mkF m 110 #[.val (.ref pa), .val (.ref ta), .val (.int any), .val (.int xp), .val (.int xt), .val (.int xl), .val (.int xr)] [(.int (37 : Int32)), (.int (P.getD xp.toNatClampNeg 0))]))
        by_cases H110_2 : (P.getD xp.toNatClampNeg 0) = (37 : Int32)
        · refine EndsK.go (fun _ kz => XS.icmpNo X0.here hx rfl (hb hby d5_110) rfl (teq H110_2).2 kz) ?_
          show EndsK p e below _ (s₁.setTop (mkF m 113 #[.val (.ref pa), .val (.ref ta), .val (.int any), .val (.int xp), .val (.int xt), .val (.int xl), .val (.int xr)] []))
          refine EndsK.go (fun _ kz => XS.iinc X0.here hx rfl (hb hby d5_113) rfl (l' := #[.val (.ref pa), .val (.ref ta), .val (.int any), .val (.int (xp + (1 : Int32))), .val (.int xt), .val (.int xl), .val (.int xr)]) rfl kz) ?_
          show EndsK p e below _ (s₁.setTop (mkF m 116 #[.val (.ref pa), .val (.ref ta), .val (.int any), .val (.int (xp + (1 : Int32))), .val (.int xt), .val (.int xl), .val (.int xr)] []))
          refine EndsK.go (fun _ kz => XS.goto X0.here hx rfl (pc0 := 116) (pc' := 99) rfl (hb hby d5_116) (by decide) (by decide) kz) ?_
          refine ih (xp + 1) xt xl xr (by omega) (by omega) (by omega) ?_
          have e1 : (xp + (1 : Int32)).toNatClampNeg = xp.toNatClampNeg + 1 := by have q := own_nat (x := xp + (1 : Int32)) (by omega); omega
          rw [e1, hw2]
          exact tail_star (by rw [gp, H110_2])
        · refine EndsK.go (fun _ kz => XS.icmpYes X0.here hx rfl (pc0 := 110) (pc' := 119) rfl (hb hby d5_110) rfl (feq H110_2).2 (by decide) (by decide) kz) ?_
          show EndsK p e below _ (s₁.setTop (mkF m 119 #[.val (.ref pa), .val (.ref ta), .val (.int any), .val (.int xp), .val (.int xt), .val (.int xl), .val (.int xr)] []))
          refine EndsK.go (fun _ kz => XS.iloadN X0.here hx rfl (hb hby d5_119) rfl kz) ?_
          show EndsK p e below _ (s₁.setTop (mkF m 120 #[.val (.ref pa), .val (.ref ta), .val (.int any), .val (.int xp), .val (.int xt), .val (.int xl), .val (.int xr)] [(.int xp)]))
          refine EndsK.go (fun _ kz => XS.aloadN X0.here hx rfl (hb hby d5_120) rfl rfl kz) ?_
          show EndsK p e below _ (s₁.setTop (mkF m 121 #[.val (.ref pa), .val (.ref ta), .val (.int any), .val (.int xp), .val (.int xt), .val (.int xl), .val (.int xr)] [(.ref pa), (.int xp)]))
          refine EndsK.go (fun tz kz => X0.arraylength hx (by rw [e0]; exact AP.1) (State.isArrayOf_alike hZ.alike AP.2.1) (g := (mkF m 121 #[.val (.ref pa), .val (.ref ta), .val (.int any), .val (.int xp), .val (.int xt), .val (.int xl), .val (.int xr)] [(.ref pa), (.int xp)])) rfl rfl (hb hby d5_121) tz kz) ?_
          rw [(len_of qP2 qP3)]
          show EndsK p e below _ (s₁.setTop (mkF m 122 #[.val (.ref pa), .val (.ref ta), .val (.int any), .val (.int xp), .val (.int xt), .val (.int xl), .val (.int xr)] [(.int nP), (.int xp)]))
          by_cases H122_3 : xp = nP
          · have H122_3i := congrArg Int32.toInt H122_3
            refine EndsK.go (fun _ kz => XS.icmpNo X0.here hx rfl (hb hby d5_122) rfl (teq H122_3).2 kz) ?_
            show EndsK p e below _ (s₁.setTop (mkF m 125 #[.val (.ref pa), .val (.ref ta), .val (.int any), .val (.int xp), .val (.int xt), .val (.int xl), .val (.int xr)] []))
            refine EndsK.go (fun _ kz => XS.iconst X0.here hx rfl (hb hby d5_125) kz) ?_
            show EndsK p e below _ (s₁.setTop (mkF m 126 #[.val (.ref pa), .val (.ref ta), .val (.int any), .val (.int xp), .val (.int xt), .val (.int xl), .val (.int xr)] [(.int (1 : Int32))]))
            refine EndsK.go (fun _ kz => XS.goto X0.here hx rfl (pc0 := 126) (pc' := 130) rfl (hb hby d5_126) (by decide) (by decide) kz) ?_
            show EndsK p e below _ (s₁.setTop (mkF m 130 #[.val (.ref pa), .val (.ref ta), .val (.int any), .val (.int xp), .val (.int xt), .val (.int xl), .val (.int xr)] [(.int (1 : Int32))]))
            exact endN X0 hx (t := .boolean) Bd.returns (by simp) (hb hby d5_130) hlk ⟨(congrArg (fun z => some (Value.int z)) (by rw [hw2, tail_end (by have q := own_nat (x := xp) (by omega); omega)]; rfl : b2i (wm any P T) = (1 : Int32))).symm, N0, e0⟩ (by decide) (by decide)
          · have H122_3i : ¬ (xp).toInt = (nP).toInt := fun qz => H122_3 (Int32.toInt_inj.mp qz)
            refine EndsK.go (fun _ kz => XS.icmpYes X0.here hx rfl (pc0 := 122) (pc' := 129) rfl (hb hby d5_122) rfl (feq H122_3).2 (by decide) (by decide) kz) ?_
            show EndsK p e below _ (s₁.setTop (mkF m 129 #[.val (.ref pa), .val (.ref ta), .val (.int any), .val (.int xp), .val (.int xt), .val (.int xl), .val (.int xr)] []))
            refine EndsK.go (fun _ kz => XS.iconst X0.here hx rfl (hb hby d5_129) kz) ?_
            show EndsK p e below _ (s₁.setTop (mkF m 130 #[.val (.ref pa), .val (.ref ta), .val (.int any), .val (.int xp), .val (.int xt), .val (.int xl), .val (.int xr)] [(.int (0 : Int32))]))
            exact endN X0 hx (t := .boolean) Bd.returns (by simp) (hb hby d5_130) hlk ⟨(congrArg (fun z => some (Value.int z)) (by rw [hw2, tail_other gp H110_2]; rfl : b2i (wm any P T) = (0 : Int32))).symm, N0, e0⟩ (by decide) (by decide)
      · have H102_1i : ¬ (xp).toInt < (nP).toInt := fun qz => H102_1 (Int32.lt_iff_toInt_lt.mpr qz)
        refine EndsK.go (fun _ kz => XS.icmpYes X0.here hx rfl (pc0 := 102) (pc' := 119) rfl (hb hby d5_102) rfl (flt H102_1).2.1 (by decide) (by decide) kz) ?_
        show EndsK p e below _ (s₁.setTop (mkF m 119 #[.val (.ref pa), .val (.ref ta), .val (.int any), .val (.int xp), .val (.int xt), .val (.int xl), .val (.int xr)] []))
        refine EndsK.go (fun _ kz => XS.iloadN X0.here hx rfl (hb hby d5_119) rfl kz) ?_
        show EndsK p e below _ (s₁.setTop (mkF m 120 #[.val (.ref pa), .val (.ref ta), .val (.int any), .val (.int xp), .val (.int xt), .val (.int xl), .val (.int xr)] [(.int xp)]))
        refine EndsK.go (fun _ kz => XS.aloadN X0.here hx rfl (hb hby d5_120) rfl rfl kz) ?_
        show EndsK p e below _ (s₁.setTop (mkF m 121 #[.val (.ref pa), .val (.ref ta), .val (.int any), .val (.int xp), .val (.int xt), .val (.int xl), .val (.int xr)] [(.ref pa), (.int xp)]))
        refine EndsK.go (fun tz kz => X0.arraylength hx (by rw [e0]; exact AP.1) (State.isArrayOf_alike hZ.alike AP.2.1) (g := (mkF m 121 #[.val (.ref pa), .val (.ref ta), .val (.int any), .val (.int xp), .val (.int xt), .val (.int xl), .val (.int xr)] [(.ref pa), (.int xp)])) rfl rfl (hb hby d5_121) tz kz) ?_
        rw [(len_of qP2 qP3)]
        show EndsK p e below _ (s₁.setTop (mkF m 122 #[.val (.ref pa), .val (.ref ta), .val (.int any), .val (.int xp), .val (.int xt), .val (.int xl), .val (.int xr)] [(.int nP), (.int xp)]))
        by_cases H122_4 : xp = nP
        · have H122_4i := congrArg Int32.toInt H122_4
          refine EndsK.go (fun _ kz => XS.icmpNo X0.here hx rfl (hb hby d5_122) rfl (teq H122_4).2 kz) ?_
          show EndsK p e below _ (s₁.setTop (mkF m 125 #[.val (.ref pa), .val (.ref ta), .val (.int any), .val (.int xp), .val (.int xt), .val (.int xl), .val (.int xr)] []))
          refine EndsK.go (fun _ kz => XS.iconst X0.here hx rfl (hb hby d5_125) kz) ?_
          show EndsK p e below _ (s₁.setTop (mkF m 126 #[.val (.ref pa), .val (.ref ta), .val (.int any), .val (.int xp), .val (.int xt), .val (.int xl), .val (.int xr)] [(.int (1 : Int32))]))
          refine EndsK.go (fun _ kz => XS.goto X0.here hx rfl (pc0 := 126) (pc' := 130) rfl (hb hby d5_126) (by decide) (by decide) kz) ?_
          show EndsK p e below _ (s₁.setTop (mkF m 130 #[.val (.ref pa), .val (.ref ta), .val (.int any), .val (.int xp), .val (.int xt), .val (.int xl), .val (.int xr)] [(.int (1 : Int32))]))
          exact endN X0 hx (t := .boolean) Bd.returns (by simp) (hb hby d5_130) hlk ⟨(congrArg (fun z => some (Value.int z)) (by rw [hw2, tail_end (by have q := own_nat (x := xp) (by omega); omega)]; rfl : b2i (wm any P T) = (1 : Int32))).symm, N0, e0⟩ (by decide) (by decide)
        · have H122_4i : ¬ (xp).toInt = (nP).toInt := fun qz => H122_4 (Int32.toInt_inj.mp qz)
          refine EndsK.go (fun _ kz => XS.icmpYes X0.here hx rfl (pc0 := 122) (pc' := 129) rfl (hb hby d5_122) rfl (feq H122_4).2 (by decide) (by decide) kz) ?_
          show EndsK p e below _ (s₁.setTop (mkF m 129 #[.val (.ref pa), .val (.ref ta), .val (.int any), .val (.int xp), .val (.int xt), .val (.int xl), .val (.int xr)] []))
          refine EndsK.go (fun _ kz => XS.iconst X0.here hx rfl (hb hby d5_129) kz) ?_
          show EndsK p e below _ (s₁.setTop (mkF m 130 #[.val (.ref pa), .val (.ref ta), .val (.int any), .val (.int xp), .val (.int xt), .val (.int xl), .val (.int xr)] [(.int (0 : Int32))]))
          exact endN X0 hx (t := .boolean) Bd.returns (by simp) (hb hby d5_130) hlk (False.elim (by omega)) (by decide) (by decide)
  have J11 : ∀ (k : Nat) (xp xt xl xr : Int32) (lr : Option Nat), 0 ≤ xp.toInt → xp.toInt ≤ nP.toInt → 0 ≤ xr.toInt → xr.toInt ≤ xt.toInt → xt.toInt ≤ nT.toInt → ((lr = none ∧ xl = -1) ∨ ∃ q : Nat, lr = some q ∧ xl.toInt = q ∧ (q : Int) < nP.toInt) → Inv any P T xp.toNatClampNeg xt.toNatClampNeg lr xr.toNatClampNeg → (4 - xl.toInt) * 100 + (5 - xr.toInt) * 10 + (5 - xt.toInt) < k → EndsK p e below (OQ s (Q_mat Z pa ta any kP kT nP nT P T h0 n0) (({ frames := 0, cells := 0, slots := 0, locals := 0 } : Room)).cells (({ frames := 0, cells := 0, slots := 0, locals := 0 } : Room)).slots) (s₁.setTop (mkF m 11 #[.val (.ref pa), .val (.ref ta), .val (.int any), .val (.int xp), .val (.int xt), .val (.int xl), .val (.int xr)] [])) := by
    intro k
    induction k with
    | zero =>
      intro xp xt xl xr lr q0 q1 q2 q3 q4 hl hI hk
      exfalso
      rcases hl with ⟨-, q⟩ | ⟨q, -, q5, q6⟩
      · have q7 := congrArg Int32.toInt q
        omega
      · omega
    | succ k ih =>
      intro xp xt xl xr lr q0 q1 q2 q3 q4 hl hI hk
      have f1 := c_iadd xp 1
      have f1r := rng32 (xp + 1)
      have f2 := c_iadd xt 1
      have f2r := rng32 (xt + 1)
      have f3 := c_iadd xl 1
      have f3r := rng32 (xl + 1)
      have f4 := c_iadd xr 1
      have f4r := rng32 (xr + 1)
      have hlt : ∀ q : Nat, lr = some q → q < xp.toNatClampNeg := fun q e_ => by subst e_; exact hI.2.1
      have hlb : -1 ≤ xl.toInt ∧ xl.toInt < nP.toInt := by
        rcases hl with ⟨-, q⟩ | ⟨q, -, q5, q6⟩
        · have q7 := congrArg Int32.toInt q; omega
        · omega
      show EndsK p e below _ (s₁.setTop (mkF m 11 #[.val (.ref pa), .val (.ref ta), .val (.int any), .val (.int xp), .val (.int xt), .val (.int xl), .val (.int xr)] []))
      refine EndsK.go (fun _ kz => XS.iload X0.here hx rfl (hb hby d5_11) rfl kz) ?_
      show EndsK p e below _ (s₁.setTop (mkF m 13 #[.val (.ref pa), .val (.ref ta), .val (.int any), .val (.int xp), .val (.int xt), .val (.int xl), .val (.int xr)] [(.int xt)]))
      refine EndsK.go (fun _ kz => XS.aloadN X0.here hx rfl (hb hby d5_13) rfl rfl kz) ?_
      show EndsK p e below _ (s₁.setTop (mkF m 14 #[.val (.ref pa), .val (.ref ta), .val (.int any), .val (.int xp), .val (.int xt), .val (.int xl), .val (.int xr)] [(.ref ta), (.int xt)]))
      refine EndsK.go (fun tz kz => X0.arraylength hx (by rw [e0]; exact AT.1) (State.isArrayOf_alike hZ.alike AT.2.1) (g := (mkF m 14 #[.val (.ref pa), .val (.ref ta), .val (.int any), .val (.int xp), .val (.int xt), .val (.int xl), .val (.int xr)] [(.ref ta), (.int xt)])) rfl rfl (hb hby d5_14) tz kz) ?_
      rw [(len_of qT2 qT3)]
      show EndsK p e below _ (s₁.setTop (mkF m 15 #[.val (.ref pa), .val (.ref ta), .val (.int any), .val (.int xp), .val (.int xt), .val (.int xl), .val (.int xr)] [(.int nT), (.int xt)]))
      by_cases H15_1 : xt < nT
      · have H15_1i := Int32.lt_iff_toInt_lt.mp H15_1
        refine EndsK.go (fun _ kz => XS.icmpNo X0.here hx rfl (hb hby d5_15) rfl (tlt H15_1).2.1 kz) ?_
        show EndsK p e below _ (s₁.setTop (mkF m 18 #[.val (.ref pa), .val (.ref ta), .val (.int any), .val (.int xp), .val (.int xt), .val (.int xl), .val (.int xr)] []))
        have kp := own_nat (x := xp) (by omega)
        have kt := own_nat (x := xt) (by omega)
        have kr := own_nat (x := xr) (by omega)
        have inT : ¬ xt < 0 ∧ xt < nT := by simp only [Int32.lt_iff_toInt_lt]; omega
        have gt := own_at (L := T) (k := xt.toNatClampNeg) (by omega)
        show EndsK p e below _ (s₁.setTop (mkF m 18 #[.val (.ref pa), .val (.ref ta), .val (.int any), .val (.int xp), .val (.int xt), .val (.int xl), .val (.int xr)] []))
        refine EndsK.go (fun _ kz => XS.iloadN X0.here hx rfl (hb hby d5_18) rfl kz) ?_
        show EndsK p e below _ (s₁.setTop (mkF m 19 #[.val (.ref pa), .val (.ref ta), .val (.int any), .val (.int xp), .val (.int xt), .val (.int xl), .val (.int xr)] [(.int xp)]))
        refine EndsK.go (fun _ kz => XS.aloadN X0.here hx rfl (hb hby d5_19) rfl rfl kz) ?_
        show EndsK p e below _ (s₁.setTop (mkF m 20 #[.val (.ref pa), .val (.ref ta), .val (.int any), .val (.int xp), .val (.int xt), .val (.int xl), .val (.int xr)] [(.ref pa), (.int xp)]))
        refine EndsK.go (fun tz kz => X0.arraylength hx (by rw [e0]; exact AP.1) (State.isArrayOf_alike hZ.alike AP.2.1) (g := (mkF m 20 #[.val (.ref pa), .val (.ref ta), .val (.int any), .val (.int xp), .val (.int xt), .val (.int xl), .val (.int xr)] [(.ref pa), (.int xp)])) rfl rfl (hb hby d5_20) tz kz) ?_
        rw [(len_of qP2 qP3)]
        show EndsK p e below _ (s₁.setTop (mkF m 21 #[.val (.ref pa), .val (.ref ta), .val (.int any), .val (.int xp), .val (.int xt), .val (.int xl), .val (.int xr)] [(.int nP), (.int xp)]))
        by_cases H21_2 : xp < nP
        · have H21_2i := Int32.lt_iff_toInt_lt.mp H21_2
          refine EndsK.go (fun _ kz => XS.icmpNo X0.here hx rfl (hb hby d5_21) rfl (tlt H21_2).2.1 kz) ?_
          show EndsK p e below _ (s₁.setTop (mkF m 24 #[.val (.ref pa), .val (.ref ta), .val (.int any), .val (.int xp), .val (.int xt), .val (.int xl), .val (.int xr)] []))
          have inP : ¬ xp < 0 ∧ xp < nP := by simp only [Int32.lt_iff_toInt_lt]; omega
          have gp := own_at (L := P) (k := xp.toNatClampNeg) (by omega)
          show EndsK p e below _ (s₁.setTop (mkF m 24 #[.val (.ref pa), .val (.ref ta), .val (.int any), .val (.int xp), .val (.int xt), .val (.int xl), .val (.int xr)] []))
          refine EndsK.go (fun _ kz => XS.aloadN X0.here hx rfl (hb hby d5_24) rfl rfl kz) ?_
          show EndsK p e below _ (s₁.setTop (mkF m 25 #[.val (.ref pa), .val (.ref ta), .val (.int any), .val (.int xp), .val (.int xt), .val (.int xl), .val (.int xr)] [(.ref pa)]))
          refine EndsK.go (fun _ kz => XS.iloadN X0.here hx rfl (hb hby d5_25) rfl kz) ?_
          show EndsK p e below _ (s₁.setTop (mkF m 26 #[.val (.ref pa), .val (.ref ta), .val (.int any), .val (.int xp), .val (.int xt), .val (.int xl), .val (.int xr)] [(.int xp), (.ref pa)]))
          refine EndsK.go (fun tz kz => X0.iaload hx (j := xp) (v := (.int (P.getD xp.toNatClampNeg 0))) (by rw [e0]; exact AP.1) (State.isArrayOf_alike hZ.alike AP.2.1) AP.2.2 (inb_of qP2 inP) (Has.at HP (inb_of qP2 inP) (own_getD P xp.toNatClampNeg)) (g := (mkF m 26 #[.val (.ref pa), .val (.ref ta), .val (.int any), .val (.int xp), .val (.int xt), .val (.int xl), .val (.int xr)] [(.int xp), (.ref pa)])) rfl rfl (hb hby d5_26) tz kz) ?_
          show EndsK p e below _ (s₁.setTop (mkF m 27 #[.val (.ref pa), .val (.ref ta), .val (.int any), .val (.int xp), .val (.int xt), .val (.int xl), .val (.int xr)] [(.int (P.getD xp.toNatClampNeg 0))]))
          refine EndsK.go (fun _ kz => XS.bipush X0.here hx rfl (hb hby d5_27) kz) ?_
          show EndsK p e below _ (s₁.setTop (mkF m 29 #[.val (.ref pa), .val (.ref ta), .val (.int any), .val (.int xp), .val (.int xt), .val (.int xl), .val (.int xr)] [(.int (37 : Int32)), (.int (P.getD xp.toNatClampNeg 0))]))
          by_cases H29_3 : (P.getD xp.toNatClampNeg 0) = (37 : Int32)
          · refine EndsK.go (fun _ kz => XS.icmpNo X0.here hx rfl (hb hby d5_29) rfl (teq H29_3).2 kz) ?_
            show EndsK p e below _ (s₁.setTop (mkF m 32 #[.val (.ref pa), .val (.ref ta), .val (.int any), .val (.int xp), .val (.int xt), .val (.int xl), .val (.int xr)] []))
            refine EndsK.go (fun _ kz => XS.iloadN X0.here hx rfl (hb hby d5_32) rfl kz) ?_
            show EndsK p e below _ (s₁.setTop (mkF m 33 #[.val (.ref pa), .val (.ref ta), .val (.int any), .val (.int xp), .val (.int xt), .val (.int xl), .val (.int xr)] [(.int xp)]))
            refine EndsK.go (fun _ kz => XS.iinc X0.here hx rfl (hb hby d5_33) rfl (l' := #[.val (.ref pa), .val (.ref ta), .val (.int any), .val (.int (xp + (1 : Int32))), .val (.int xt), .val (.int xl), .val (.int xr)]) rfl kz) ?_
            show EndsK p e below _ (s₁.setTop (mkF m 36 #[.val (.ref pa), .val (.ref ta), .val (.int any), .val (.int (xp + (1 : Int32))), .val (.int xt), .val (.int xl), .val (.int xr)] [(.int xp)]))
            refine EndsK.go (fun _ kz => XS.istore X0.here hx rfl (hb hby d5_36) rfl (l' := #[.val (.ref pa), .val (.ref ta), .val (.int any), .val (.int (xp + (1 : Int32))), .val (.int xt), .val (.int xp), .val (.int xr)]) rfl kz) ?_
            show EndsK p e below _ (s₁.setTop (mkF m 38 #[.val (.ref pa), .val (.ref ta), .val (.int any), .val (.int (xp + (1 : Int32))), .val (.int xt), .val (.int xp), .val (.int xr)] []))
            refine EndsK.go (fun _ kz => XS.iload X0.here hx rfl (hb hby d5_38) rfl kz) ?_
            show EndsK p e below _ (s₁.setTop (mkF m 40 #[.val (.ref pa), .val (.ref ta), .val (.int any), .val (.int (xp + (1 : Int32))), .val (.int xt), .val (.int xp), .val (.int xr)] [(.int xt)]))
            refine EndsK.go (fun _ kz => XS.istore X0.here hx rfl (hb hby d5_40) rfl (l' := #[.val (.ref pa), .val (.ref ta), .val (.int any), .val (.int (xp + (1 : Int32))), .val (.int xt), .val (.int xp), .val (.int xt)]) rfl kz) ?_
            show EndsK p e below _ (s₁.setTop (mkF m 42 #[.val (.ref pa), .val (.ref ta), .val (.int any), .val (.int (xp + (1 : Int32))), .val (.int xt), .val (.int xp), .val (.int xt)] []))
            refine EndsK.go (fun _ kz => XS.goto X0.here hx rfl (pc0 := 42) (pc' := 11) rfl (hb hby d5_42) (by decide) (by decide) kz) ?_
            have ea : ((xp + (1 : Int32))).toNatClampNeg = xp.toNatClampNeg + 1 := by have q := own_nat (x := (xp + (1 : Int32))) (by omega); omega
            refine ih (xp + (1 : Int32)) xt xp xt (some xp.toNatClampNeg) (by omega) (by omega) (by omega) (by omega) (by omega) (Or.inr ⟨_, rfl, by omega, by omega⟩) ?_ ?_
            · rw [ea]
              exact inv_star hI (by rw [gp, H29_3])
            · rcases hl with ⟨-, q⟩ | ⟨q, q1, q2, -⟩
              · have q2 := congrArg Int32.toInt q
                omega
              · have q8 := hlt q q1
                omega
          · refine EndsK.go (fun _ kz => XS.icmpYes X0.here hx rfl (pc0 := 29) (pc' := 45) rfl (hb hby d5_29) rfl (feq H29_3).2 (by decide) (by decide) kz) ?_
            show EndsK p e below _ (s₁.setTop (mkF m 45 #[.val (.ref pa), .val (.ref ta), .val (.int any), .val (.int xp), .val (.int xt), .val (.int xl), .val (.int xr)] []))
            refine EndsK.go (fun _ kz => XS.iloadN X0.here hx rfl (hb hby d5_45) rfl kz) ?_
            show EndsK p e below _ (s₁.setTop (mkF m 46 #[.val (.ref pa), .val (.ref ta), .val (.int any), .val (.int xp), .val (.int xt), .val (.int xl), .val (.int xr)] [(.int xp)]))
            refine EndsK.go (fun _ kz => XS.aloadN X0.here hx rfl (hb hby d5_46) rfl rfl kz) ?_
            show EndsK p e below _ (s₁.setTop (mkF m 47 #[.val (.ref pa), .val (.ref ta), .val (.int any), .val (.int xp), .val (.int xt), .val (.int xl), .val (.int xr)] [(.ref pa), (.int xp)]))
            refine EndsK.go (fun tz kz => X0.arraylength hx (by rw [e0]; exact AP.1) (State.isArrayOf_alike hZ.alike AP.2.1) (g := (mkF m 47 #[.val (.ref pa), .val (.ref ta), .val (.int any), .val (.int xp), .val (.int xt), .val (.int xl), .val (.int xr)] [(.ref pa), (.int xp)])) rfl rfl (hb hby d5_47) tz kz) ?_
            rw [(len_of qP2 qP3)]
            show EndsK p e below _ (s₁.setTop (mkF m 48 #[.val (.ref pa), .val (.ref ta), .val (.int any), .val (.int xp), .val (.int xt), .val (.int xl), .val (.int xr)] [(.int nP), (.int xp)]))
            refine EndsK.go (fun _ kz => XS.icmpNo X0.here hx rfl (hb hby d5_48) rfl (tlt H21_2).2.1 kz) ?_
            show EndsK p e below _ (s₁.setTop (mkF m 51 #[.val (.ref pa), .val (.ref ta), .val (.int any), .val (.int xp), .val (.int xt), .val (.int xl), .val (.int xr)] []))
            have inP : ¬ xp < 0 ∧ xp < nP := by simp only [Int32.lt_iff_toInt_lt]; omega
            have gp := own_at (L := P) (k := xp.toNatClampNeg) (by omega)
            show EndsK p e below _ (s₁.setTop (mkF m 51 #[.val (.ref pa), .val (.ref ta), .val (.int any), .val (.int xp), .val (.int xt), .val (.int xl), .val (.int xr)] []))
            refine EndsK.go (fun _ kz => XS.aloadN X0.here hx rfl (hb hby d5_51) rfl rfl kz) ?_
            show EndsK p e below _ (s₁.setTop (mkF m 52 #[.val (.ref pa), .val (.ref ta), .val (.int any), .val (.int xp), .val (.int xt), .val (.int xl), .val (.int xr)] [(.ref pa)]))
            refine EndsK.go (fun _ kz => XS.iloadN X0.here hx rfl (hb hby d5_52) rfl kz) ?_
            show EndsK p e below _ (s₁.setTop (mkF m 53 #[.val (.ref pa), .val (.ref ta), .val (.int any), .val (.int xp), .val (.int xt), .val (.int xl), .val (.int xr)] [(.int xp), (.ref pa)]))
            refine EndsK.go (fun tz kz => X0.iaload hx (j := xp) (v := (.int (P.getD xp.toNatClampNeg 0))) (by rw [e0]; exact AP.1) (State.isArrayOf_alike hZ.alike AP.2.1) AP.2.2 (inb_of qP2 inP) (Has.at HP (inb_of qP2 inP) (own_getD P xp.toNatClampNeg)) (g := (mkF m 53 #[.val (.ref pa), .val (.ref ta), .val (.int any), .val (.int xp), .val (.int xt), .val (.int xl), .val (.int xr)] [(.int xp), (.ref pa)])) rfl rfl (hb hby d5_53) tz kz) ?_
            show EndsK p e below _ (s₁.setTop (mkF m 54 #[.val (.ref pa), .val (.ref ta), .val (.int any), .val (.int xp), .val (.int xt), .val (.int xl), .val (.int xr)] [(.int (P.getD xp.toNatClampNeg 0))]))
            refine EndsK.go (fun _ kz => XS.iloadN X0.here hx rfl (hb hby d5_54) rfl kz) ?_
            show EndsK p e below _ (s₁.setTop (mkF m 55 #[.val (.ref pa), .val (.ref ta), .val (.int any), .val (.int xp), .val (.int xt), .val (.int xl), .val (.int xr)] [(.int any), (.int (P.getD xp.toNatClampNeg 0))]))
            by_cases H55_4 : (P.getD xp.toNatClampNeg 0) = any
            · refine EndsK.go (fun _ kz => XS.icmpYes X0.here hx rfl (pc0 := 55) (pc' := 68) rfl (hb hby d5_55) rfl (teq H55_4).1 (by decide) (by decide) kz) ?_
              show EndsK p e below _ (s₁.setTop (mkF m 68 #[.val (.ref pa), .val (.ref ta), .val (.int any), .val (.int xp), .val (.int xt), .val (.int xl), .val (.int xr)] []))
              refine EndsK.go (fun _ kz => XS.iinc X0.here hx rfl (hb hby d5_68) rfl (l' := #[.val (.ref pa), .val (.ref ta), .val (.int any), .val (.int (xp + (1 : Int32))), .val (.int xt), .val (.int xl), .val (.int xr)]) rfl kz) ?_
              show EndsK p e below _ (s₁.setTop (mkF m 71 #[.val (.ref pa), .val (.ref ta), .val (.int any), .val (.int (xp + (1 : Int32))), .val (.int xt), .val (.int xl), .val (.int xr)] []))
              refine EndsK.go (fun _ kz => XS.iinc X0.here hx rfl (hb hby d5_71) rfl (l' := #[.val (.ref pa), .val (.ref ta), .val (.int any), .val (.int (xp + (1 : Int32))), .val (.int (xt + (1 : Int32))), .val (.int xl), .val (.int xr)]) rfl kz) ?_
              show EndsK p e below _ (s₁.setTop (mkF m 74 #[.val (.ref pa), .val (.ref ta), .val (.int any), .val (.int (xp + (1 : Int32))), .val (.int (xt + (1 : Int32))), .val (.int xl), .val (.int xr)] []))
              refine EndsK.go (fun _ kz => XS.goto X0.here hx rfl (pc0 := 74) (pc' := 11) rfl (hb hby d5_74) (by decide) (by decide) kz) ?_
              have ea : ((xp + (1 : Int32))).toNatClampNeg = xp.toNatClampNeg + 1 := by have q := own_nat (x := (xp + (1 : Int32))) (by omega); omega
              have eb : ((xt + (1 : Int32))).toNatClampNeg = xt.toNatClampNeg + 1 := by have q := own_nat (x := (xt + (1 : Int32))) (by omega); omega
              refine ih (xp + (1 : Int32)) (xt + (1 : Int32)) xl xr lr (by omega) (by omega) (by omega) (by omega) (by omega) hl ?_ (by omega)
              rw [ea, eb]
              exact inv_fit hI gp gt ⟨H29_3, Or.inl H55_4⟩
            · refine EndsK.go (fun _ kz => XS.icmpNo X0.here hx rfl (hb hby d5_55) rfl (feq H55_4).1 kz) ?_
              show EndsK p e below _ (s₁.setTop (mkF m 58 #[.val (.ref pa), .val (.ref ta), .val (.int any), .val (.int xp), .val (.int xt), .val (.int xl), .val (.int xr)] []))
              refine EndsK.go (fun _ kz => XS.aloadN X0.here hx rfl (hb hby d5_58) rfl rfl kz) ?_
              show EndsK p e below _ (s₁.setTop (mkF m 59 #[.val (.ref pa), .val (.ref ta), .val (.int any), .val (.int xp), .val (.int xt), .val (.int xl), .val (.int xr)] [(.ref pa)]))
              refine EndsK.go (fun _ kz => XS.iloadN X0.here hx rfl (hb hby d5_59) rfl kz) ?_
              show EndsK p e below _ (s₁.setTop (mkF m 60 #[.val (.ref pa), .val (.ref ta), .val (.int any), .val (.int xp), .val (.int xt), .val (.int xl), .val (.int xr)] [(.int xp), (.ref pa)]))
              refine EndsK.go (fun tz kz => X0.iaload hx (j := xp) (v := (.int (P.getD xp.toNatClampNeg 0))) (by rw [e0]; exact AP.1) (State.isArrayOf_alike hZ.alike AP.2.1) AP.2.2 (inb_of qP2 inP) (Has.at HP (inb_of qP2 inP) (own_getD P xp.toNatClampNeg)) (g := (mkF m 60 #[.val (.ref pa), .val (.ref ta), .val (.int any), .val (.int xp), .val (.int xt), .val (.int xl), .val (.int xr)] [(.int xp), (.ref pa)])) rfl rfl (hb hby d5_60) tz kz) ?_
              show EndsK p e below _ (s₁.setTop (mkF m 61 #[.val (.ref pa), .val (.ref ta), .val (.int any), .val (.int xp), .val (.int xt), .val (.int xl), .val (.int xr)] [(.int (P.getD xp.toNatClampNeg 0))]))
              refine EndsK.go (fun _ kz => XS.aloadN X0.here hx rfl (hb hby d5_61) rfl rfl kz) ?_
              show EndsK p e below _ (s₁.setTop (mkF m 62 #[.val (.ref pa), .val (.ref ta), .val (.int any), .val (.int xp), .val (.int xt), .val (.int xl), .val (.int xr)] [(.ref ta), (.int (P.getD xp.toNatClampNeg 0))]))
              refine EndsK.go (fun _ kz => XS.iload X0.here hx rfl (hb hby d5_62) rfl kz) ?_
              show EndsK p e below _ (s₁.setTop (mkF m 64 #[.val (.ref pa), .val (.ref ta), .val (.int any), .val (.int xp), .val (.int xt), .val (.int xl), .val (.int xr)] [(.int xt), (.ref ta), (.int (P.getD xp.toNatClampNeg 0))]))
              refine EndsK.go (fun tz kz => X0.iaload hx (j := xt) (v := (.int (T.getD xt.toNatClampNeg 0))) (by rw [e0]; exact AT.1) (State.isArrayOf_alike hZ.alike AT.2.1) AT.2.2 (inb_of qT2 inT) (Has.at HT (inb_of qT2 inT) (own_getD T xt.toNatClampNeg)) (g := (mkF m 64 #[.val (.ref pa), .val (.ref ta), .val (.int any), .val (.int xp), .val (.int xt), .val (.int xl), .val (.int xr)] [(.int xt), (.ref ta), (.int (P.getD xp.toNatClampNeg 0))])) rfl rfl (hb hby d5_64) tz kz) ?_
              show EndsK p e below _ (s₁.setTop (mkF m 65 #[.val (.ref pa), .val (.ref ta), .val (.int any), .val (.int xp), .val (.int xt), .val (.int xl), .val (.int xr)] [(.int (T.getD xt.toNatClampNeg 0)), (.int (P.getD xp.toNatClampNeg 0))]))
              by_cases H65_5 : (P.getD xp.toNatClampNeg 0) = (T.getD xt.toNatClampNeg 0)
              · refine EndsK.go (fun _ kz => XS.icmpNo X0.here hx rfl (hb hby d5_65) rfl (teq H65_5).2 kz) ?_
                show EndsK p e below _ (s₁.setTop (mkF m 68 #[.val (.ref pa), .val (.ref ta), .val (.int any), .val (.int xp), .val (.int xt), .val (.int xl), .val (.int xr)] []))
                refine EndsK.go (fun _ kz => XS.iinc X0.here hx rfl (hb hby d5_68) rfl (l' := #[.val (.ref pa), .val (.ref ta), .val (.int any), .val (.int (xp + (1 : Int32))), .val (.int xt), .val (.int xl), .val (.int xr)]) rfl kz) ?_
                show EndsK p e below _ (s₁.setTop (mkF m 71 #[.val (.ref pa), .val (.ref ta), .val (.int any), .val (.int (xp + (1 : Int32))), .val (.int xt), .val (.int xl), .val (.int xr)] []))
                refine EndsK.go (fun _ kz => XS.iinc X0.here hx rfl (hb hby d5_71) rfl (l' := #[.val (.ref pa), .val (.ref ta), .val (.int any), .val (.int (xp + (1 : Int32))), .val (.int (xt + (1 : Int32))), .val (.int xl), .val (.int xr)]) rfl kz) ?_
                show EndsK p e below _ (s₁.setTop (mkF m 74 #[.val (.ref pa), .val (.ref ta), .val (.int any), .val (.int (xp + (1 : Int32))), .val (.int (xt + (1 : Int32))), .val (.int xl), .val (.int xr)] []))
                refine EndsK.go (fun _ kz => XS.goto X0.here hx rfl (pc0 := 74) (pc' := 11) rfl (hb hby d5_74) (by decide) (by decide) kz) ?_
                have ea : ((xp + (1 : Int32))).toNatClampNeg = xp.toNatClampNeg + 1 := by have q := own_nat (x := (xp + (1 : Int32))) (by omega); omega
                have eb : ((xt + (1 : Int32))).toNatClampNeg = xt.toNatClampNeg + 1 := by have q := own_nat (x := (xt + (1 : Int32))) (by omega); omega
                refine ih (xp + (1 : Int32)) (xt + (1 : Int32)) xl xr lr (by omega) (by omega) (by omega) (by omega) (by omega) hl ?_ (by omega)
                rw [ea, eb]
                exact inv_fit hI gp gt ⟨H29_3, Or.inr H65_5⟩
              · refine EndsK.go (fun _ kz => XS.icmpYes X0.here hx rfl (pc0 := 65) (pc' := 77) rfl (hb hby d5_65) rfl (feq H65_5).2 (by decide) (by decide) kz) ?_
                show EndsK p e below _ (s₁.setTop (mkF m 77 #[.val (.ref pa), .val (.ref ta), .val (.int any), .val (.int xp), .val (.int xt), .val (.int xl), .val (.int xr)] []))
                have hmis : wm any (P.drop xp.toNatClampNeg) (T.drop xt.toNatClampNeg) = false := misfit_at gp gt H29_3 (fun q => q.elim H55_4 H65_5)
                show EndsK p e below _ (s₁.setTop (mkF m 77 #[.val (.ref pa), .val (.ref ta), .val (.int any), .val (.int xp), .val (.int xt), .val (.int xl), .val (.int xr)] []))
                refine EndsK.go (fun _ kz => XS.iload X0.here hx rfl (hb hby d5_77) rfl kz) ?_
                show EndsK p e below _ (s₁.setTop (mkF m 79 #[.val (.ref pa), .val (.ref ta), .val (.int any), .val (.int xp), .val (.int xt), .val (.int xl), .val (.int xr)] [(.int xl)]))
                by_cases H79_6 : xl < (0 : Int32)
                · have H79_6i := Int32.lt_iff_toInt_lt.mp H79_6
                  refine EndsK.go (fun _ kz => XS.ifYes X0.here hx rfl (pc0 := 79) (pc' := 97) rfl (hb hby d5_79) rfl ((if0 _ _).trans (tlt H79_6).1) (by decide) (by decide) kz) ?_
                  show EndsK p e below _ (s₁.setTop (mkF m 97 #[.val (.ref pa), .val (.ref ta), .val (.int any), .val (.int xp), .val (.int xt), .val (.int xl), .val (.int xr)] []))
                  refine EndsK.go (fun _ kz => XS.iconst X0.here hx rfl (hb hby d5_97) kz) ?_
                  show EndsK p e below _ (s₁.setTop (mkF m 98 #[.val (.ref pa), .val (.ref ta), .val (.int any), .val (.int xp), .val (.int xt), .val (.int xl), .val (.int xr)] [(.int (0 : Int32))]))
                  exact endN X0 hx (t := .boolean) Bd.returns (by simp) (hb hby d5_98) hlk ⟨(congrArg (fun z => some (Value.int z)) (by
                      rcases hl with ⟨rfl, -⟩ | ⟨q, -, q2, -⟩
                      · rw [show wm any P T = wm any (P.drop xp.toNatClampNeg) (T.drop xt.toNatClampNeg) from hI, hmis]; rfl
                      · omega : b2i (wm any P T) = (0 : Int32))).symm, N0, e0⟩ (by decide) (by decide)
                · have H79_6i : ¬ (xl).toInt < ((0 : Int32)).toInt := fun qz => H79_6 (Int32.lt_iff_toInt_lt.mpr qz)
                  refine EndsK.go (fun _ kz => XS.ifNo X0.here hx rfl (hb hby d5_79) rfl ((if0 _ _).trans (flt H79_6).1) kz) ?_
                  show EndsK p e below _ (s₁.setTop (mkF m 82 #[.val (.ref pa), .val (.ref ta), .val (.int any), .val (.int xp), .val (.int xt), .val (.int xl), .val (.int xr)] []))
                  refine EndsK.go (fun _ kz => XS.iload X0.here hx rfl (hb hby d5_82) rfl kz) ?_
                  show EndsK p e below _ (s₁.setTop (mkF m 84 #[.val (.ref pa), .val (.ref ta), .val (.int any), .val (.int xp), .val (.int xt), .val (.int xl), .val (.int xr)] [(.int xl)]))
                  refine EndsK.go (fun _ kz => XS.iconst X0.here hx rfl (hb hby d5_84) kz) ?_
                  show EndsK p e below _ (s₁.setTop (mkF m 85 #[.val (.ref pa), .val (.ref ta), .val (.int any), .val (.int xp), .val (.int xt), .val (.int xl), .val (.int xr)] [(.int (1 : Int32)), (.int xl)]))
                  refine EndsK.go (fun _ kz => XS.iadd X0.here hx rfl (hb hby d5_85) rfl kz) ?_
                  show EndsK p e below _ (s₁.setTop (mkF m 86 #[.val (.ref pa), .val (.ref ta), .val (.int any), .val (.int xp), .val (.int xt), .val (.int xl), .val (.int xr)] [(.int (xl + (1 : Int32)))]))
                  refine EndsK.go (fun _ kz => XS.istoreN X0.here hx rfl (hb hby d5_86) rfl (l' := #[.val (.ref pa), .val (.ref ta), .val (.int any), .val (.int (xl + (1 : Int32))), .val (.int xt), .val (.int xl), .val (.int xr)]) rfl kz) ?_
                  show EndsK p e below _ (s₁.setTop (mkF m 87 #[.val (.ref pa), .val (.ref ta), .val (.int any), .val (.int (xl + (1 : Int32))), .val (.int xt), .val (.int xl), .val (.int xr)] []))
                  refine EndsK.go (fun _ kz => XS.iinc X0.here hx rfl (hb hby d5_87) rfl (l' := #[.val (.ref pa), .val (.ref ta), .val (.int any), .val (.int (xl + (1 : Int32))), .val (.int xt), .val (.int xl), .val (.int (xr + (1 : Int32)))]) rfl kz) ?_
                  show EndsK p e below _ (s₁.setTop (mkF m 90 #[.val (.ref pa), .val (.ref ta), .val (.int any), .val (.int (xl + (1 : Int32))), .val (.int xt), .val (.int xl), .val (.int (xr + (1 : Int32)))] []))
                  refine EndsK.go (fun _ kz => XS.iload X0.here hx rfl (hb hby d5_90) rfl kz) ?_
                  show EndsK p e below _ (s₁.setTop (mkF m 92 #[.val (.ref pa), .val (.ref ta), .val (.int any), .val (.int (xl + (1 : Int32))), .val (.int xt), .val (.int xl), .val (.int (xr + (1 : Int32)))] [(.int (xr + (1 : Int32)))]))
                  refine EndsK.go (fun _ kz => XS.istore X0.here hx rfl (hb hby d5_92) rfl (l' := #[.val (.ref pa), .val (.ref ta), .val (.int any), .val (.int (xl + (1 : Int32))), .val (.int (xr + (1 : Int32))), .val (.int xl), .val (.int (xr + (1 : Int32)))]) rfl kz) ?_
                  show EndsK p e below _ (s₁.setTop (mkF m 94 #[.val (.ref pa), .val (.ref ta), .val (.int any), .val (.int (xl + (1 : Int32))), .val (.int (xr + (1 : Int32))), .val (.int xl), .val (.int (xr + (1 : Int32)))] []))
                  refine EndsK.go (fun _ kz => XS.goto X0.here hx rfl (pc0 := 94) (pc' := 11) rfl (hb hby d5_94) (by decide) (by decide) kz) ?_
                  rcases hl with ⟨-, q⟩ | ⟨q, rfl, q2, q3⟩
                  · exfalso
                    have q2 := congrArg Int32.toInt q
                    omega
                  · have ea : ((xl + (1 : Int32))).toNatClampNeg = q + 1 := by have z := own_nat (x := (xl + (1 : Int32))) (by omega); omega
                    have eb : ((xr + (1 : Int32))).toNatClampNeg = xr.toNatClampNeg + 1 := by have z := own_nat (x := (xr + (1 : Int32))) (by omega); omega
                    refine ih (xl + (1 : Int32)) (xr + (1 : Int32)) xl (xr + (1 : Int32)) (some q) (by omega) (by omega) (by omega) (by omega) (by omega) (Or.inr ⟨q, rfl, q2, q3⟩) ?_ (by omega)
                    rw [ea, eb]
                    exact inv_skip hI (by omega) hmis
        · have H21_2i : ¬ (xp).toInt < (nP).toInt := fun qz => H21_2 (Int32.lt_iff_toInt_lt.mpr qz)
          refine EndsK.go (fun _ kz => XS.icmpYes X0.here hx rfl (pc0 := 21) (pc' := 45) rfl (hb hby d5_21) rfl (flt H21_2).2.1 (by decide) (by decide) kz) ?_
          show EndsK p e below _ (s₁.setTop (mkF m 45 #[.val (.ref pa), .val (.ref ta), .val (.int any), .val (.int xp), .val (.int xt), .val (.int xl), .val (.int xr)] []))
          refine EndsK.go (fun _ kz => XS.iloadN X0.here hx rfl (hb hby d5_45) rfl kz) ?_
          show EndsK p e below _ (s₁.setTop (mkF m 46 #[.val (.ref pa), .val (.ref ta), .val (.int any), .val (.int xp), .val (.int xt), .val (.int xl), .val (.int xr)] [(.int xp)]))
          refine EndsK.go (fun _ kz => XS.aloadN X0.here hx rfl (hb hby d5_46) rfl rfl kz) ?_
          show EndsK p e below _ (s₁.setTop (mkF m 47 #[.val (.ref pa), .val (.ref ta), .val (.int any), .val (.int xp), .val (.int xt), .val (.int xl), .val (.int xr)] [(.ref pa), (.int xp)]))
          refine EndsK.go (fun tz kz => X0.arraylength hx (by rw [e0]; exact AP.1) (State.isArrayOf_alike hZ.alike AP.2.1) (g := (mkF m 47 #[.val (.ref pa), .val (.ref ta), .val (.int any), .val (.int xp), .val (.int xt), .val (.int xl), .val (.int xr)] [(.ref pa), (.int xp)])) rfl rfl (hb hby d5_47) tz kz) ?_
          rw [(len_of qP2 qP3)]
          show EndsK p e below _ (s₁.setTop (mkF m 48 #[.val (.ref pa), .val (.ref ta), .val (.int any), .val (.int xp), .val (.int xt), .val (.int xl), .val (.int xr)] [(.int nP), (.int xp)]))
          refine EndsK.go (fun _ kz => XS.icmpYes X0.here hx rfl (pc0 := 48) (pc' := 77) rfl (hb hby d5_48) rfl (flt H21_2).2.1 (by decide) (by decide) kz) ?_
          show EndsK p e below _ (s₁.setTop (mkF m 77 #[.val (.ref pa), .val (.ref ta), .val (.int any), .val (.int xp), .val (.int xt), .val (.int xl), .val (.int xr)] []))
          have hmis : wm any (P.drop xp.toNatClampNeg) (T.drop xt.toNatClampNeg) = false := misfit_end (by omega) (by omega)
          show EndsK p e below _ (s₁.setTop (mkF m 77 #[.val (.ref pa), .val (.ref ta), .val (.int any), .val (.int xp), .val (.int xt), .val (.int xl), .val (.int xr)] []))
          refine EndsK.go (fun _ kz => XS.iload X0.here hx rfl (hb hby d5_77) rfl kz) ?_
          show EndsK p e below _ (s₁.setTop (mkF m 79 #[.val (.ref pa), .val (.ref ta), .val (.int any), .val (.int xp), .val (.int xt), .val (.int xl), .val (.int xr)] [(.int xl)]))
          by_cases H79_7 : xl < (0 : Int32)
          · have H79_7i := Int32.lt_iff_toInt_lt.mp H79_7
            refine EndsK.go (fun _ kz => XS.ifYes X0.here hx rfl (pc0 := 79) (pc' := 97) rfl (hb hby d5_79) rfl ((if0 _ _).trans (tlt H79_7).1) (by decide) (by decide) kz) ?_
            show EndsK p e below _ (s₁.setTop (mkF m 97 #[.val (.ref pa), .val (.ref ta), .val (.int any), .val (.int xp), .val (.int xt), .val (.int xl), .val (.int xr)] []))
            refine EndsK.go (fun _ kz => XS.iconst X0.here hx rfl (hb hby d5_97) kz) ?_
            show EndsK p e below _ (s₁.setTop (mkF m 98 #[.val (.ref pa), .val (.ref ta), .val (.int any), .val (.int xp), .val (.int xt), .val (.int xl), .val (.int xr)] [(.int (0 : Int32))]))
            exact endN X0 hx (t := .boolean) Bd.returns (by simp) (hb hby d5_98) hlk ⟨(congrArg (fun z => some (Value.int z)) (by
                rcases hl with ⟨rfl, -⟩ | ⟨q, -, q2, -⟩
                · rw [show wm any P T = wm any (P.drop xp.toNatClampNeg) (T.drop xt.toNatClampNeg) from hI, hmis]; rfl
                · omega : b2i (wm any P T) = (0 : Int32))).symm, N0, e0⟩ (by decide) (by decide)
          · have H79_7i : ¬ (xl).toInt < ((0 : Int32)).toInt := fun qz => H79_7 (Int32.lt_iff_toInt_lt.mpr qz)
            refine EndsK.go (fun _ kz => XS.ifNo X0.here hx rfl (hb hby d5_79) rfl ((if0 _ _).trans (flt H79_7).1) kz) ?_
            show EndsK p e below _ (s₁.setTop (mkF m 82 #[.val (.ref pa), .val (.ref ta), .val (.int any), .val (.int xp), .val (.int xt), .val (.int xl), .val (.int xr)] []))
            refine EndsK.go (fun _ kz => XS.iload X0.here hx rfl (hb hby d5_82) rfl kz) ?_
            show EndsK p e below _ (s₁.setTop (mkF m 84 #[.val (.ref pa), .val (.ref ta), .val (.int any), .val (.int xp), .val (.int xt), .val (.int xl), .val (.int xr)] [(.int xl)]))
            refine EndsK.go (fun _ kz => XS.iconst X0.here hx rfl (hb hby d5_84) kz) ?_
            show EndsK p e below _ (s₁.setTop (mkF m 85 #[.val (.ref pa), .val (.ref ta), .val (.int any), .val (.int xp), .val (.int xt), .val (.int xl), .val (.int xr)] [(.int (1 : Int32)), (.int xl)]))
            refine EndsK.go (fun _ kz => XS.iadd X0.here hx rfl (hb hby d5_85) rfl kz) ?_
            show EndsK p e below _ (s₁.setTop (mkF m 86 #[.val (.ref pa), .val (.ref ta), .val (.int any), .val (.int xp), .val (.int xt), .val (.int xl), .val (.int xr)] [(.int (xl + (1 : Int32)))]))
            refine EndsK.go (fun _ kz => XS.istoreN X0.here hx rfl (hb hby d5_86) rfl (l' := #[.val (.ref pa), .val (.ref ta), .val (.int any), .val (.int (xl + (1 : Int32))), .val (.int xt), .val (.int xl), .val (.int xr)]) rfl kz) ?_
            show EndsK p e below _ (s₁.setTop (mkF m 87 #[.val (.ref pa), .val (.ref ta), .val (.int any), .val (.int (xl + (1 : Int32))), .val (.int xt), .val (.int xl), .val (.int xr)] []))
            refine EndsK.go (fun _ kz => XS.iinc X0.here hx rfl (hb hby d5_87) rfl (l' := #[.val (.ref pa), .val (.ref ta), .val (.int any), .val (.int (xl + (1 : Int32))), .val (.int xt), .val (.int xl), .val (.int (xr + (1 : Int32)))]) rfl kz) ?_
            show EndsK p e below _ (s₁.setTop (mkF m 90 #[.val (.ref pa), .val (.ref ta), .val (.int any), .val (.int (xl + (1 : Int32))), .val (.int xt), .val (.int xl), .val (.int (xr + (1 : Int32)))] []))
            refine EndsK.go (fun _ kz => XS.iload X0.here hx rfl (hb hby d5_90) rfl kz) ?_
            show EndsK p e below _ (s₁.setTop (mkF m 92 #[.val (.ref pa), .val (.ref ta), .val (.int any), .val (.int (xl + (1 : Int32))), .val (.int xt), .val (.int xl), .val (.int (xr + (1 : Int32)))] [(.int (xr + (1 : Int32)))]))
            refine EndsK.go (fun _ kz => XS.istore X0.here hx rfl (hb hby d5_92) rfl (l' := #[.val (.ref pa), .val (.ref ta), .val (.int any), .val (.int (xl + (1 : Int32))), .val (.int (xr + (1 : Int32))), .val (.int xl), .val (.int (xr + (1 : Int32)))]) rfl kz) ?_
            show EndsK p e below _ (s₁.setTop (mkF m 94 #[.val (.ref pa), .val (.ref ta), .val (.int any), .val (.int (xl + (1 : Int32))), .val (.int (xr + (1 : Int32))), .val (.int xl), .val (.int (xr + (1 : Int32)))] []))
            refine EndsK.go (fun _ kz => XS.goto X0.here hx rfl (pc0 := 94) (pc' := 11) rfl (hb hby d5_94) (by decide) (by decide) kz) ?_
            rcases hl with ⟨-, q⟩ | ⟨q, rfl, q2, q3⟩
            · exfalso
              have q2 := congrArg Int32.toInt q
              omega
            · have ea : ((xl + (1 : Int32))).toNatClampNeg = q + 1 := by have z := own_nat (x := (xl + (1 : Int32))) (by omega); omega
              have eb : ((xr + (1 : Int32))).toNatClampNeg = xr.toNatClampNeg + 1 := by have z := own_nat (x := (xr + (1 : Int32))) (by omega); omega
              refine ih (xl + (1 : Int32)) (xr + (1 : Int32)) xl (xr + (1 : Int32)) (some q) (by omega) (by omega) (by omega) (by omega) (by omega) (Or.inr ⟨q, rfl, q2, q3⟩) ?_ (by omega)
              rw [ea, eb]
              exact inv_skip hI (by omega) hmis
      · have H15_1i : ¬ (xt).toInt < (nT).toInt := fun qz => H15_1 (Int32.lt_iff_toInt_lt.mpr qz)
        refine EndsK.go (fun _ kz => XS.icmpYes X0.here hx rfl (pc0 := 15) (pc' := 99) rfl (hb hby d5_15) rfl (flt H15_1).2.1 (by decide) (by decide) kz) ?_
        have kt := own_nat (x := xt) (by omega)
        exact J99 6 xp xt xl xr (by omega) (by omega) (by omega) (inv_end hI (by omega))
  show EndsK p e below _ (s₁.setTop (mkF m 0 #[.val (.ref pa), .val (.ref ta), .val (.int any), .unset, .unset, .unset, .unset] []))
  refine EndsK.go (fun _ kz => XS.iconst X0.here hx rfl (hb hby d5_0) kz) ?_
  show EndsK p e below _ (s₁.setTop (mkF m 1 #[.val (.ref pa), .val (.ref ta), .val (.int any), .unset, .unset, .unset, .unset] [(.int (0 : Int32))]))
  refine EndsK.go (fun _ kz => XS.istoreN X0.here hx rfl (hb hby d5_1) rfl (l' := #[.val (.ref pa), .val (.ref ta), .val (.int any), .val (.int (0 : Int32)), .unset, .unset, .unset]) rfl kz) ?_
  show EndsK p e below _ (s₁.setTop (mkF m 2 #[.val (.ref pa), .val (.ref ta), .val (.int any), .val (.int (0 : Int32)), .unset, .unset, .unset] []))
  refine EndsK.go (fun _ kz => XS.iconst X0.here hx rfl (hb hby d5_2) kz) ?_
  show EndsK p e below _ (s₁.setTop (mkF m 3 #[.val (.ref pa), .val (.ref ta), .val (.int any), .val (.int (0 : Int32)), .unset, .unset, .unset] [(.int (0 : Int32))]))
  refine EndsK.go (fun _ kz => XS.istore X0.here hx rfl (hb hby d5_3) rfl (l' := #[.val (.ref pa), .val (.ref ta), .val (.int any), .val (.int (0 : Int32)), .val (.int (0 : Int32)), .unset, .unset]) rfl kz) ?_
  show EndsK p e below _ (s₁.setTop (mkF m 5 #[.val (.ref pa), .val (.ref ta), .val (.int any), .val (.int (0 : Int32)), .val (.int (0 : Int32)), .unset, .unset] []))
  refine EndsK.go (fun _ kz => XS.iconst X0.here hx rfl (hb hby d5_5) kz) ?_
  show EndsK p e below _ (s₁.setTop (mkF m 6 #[.val (.ref pa), .val (.ref ta), .val (.int any), .val (.int (0 : Int32)), .val (.int (0 : Int32)), .unset, .unset] [(.int (-1 : Int32))]))
  refine EndsK.go (fun _ kz => XS.istore X0.here hx rfl (hb hby d5_6) rfl (l' := #[.val (.ref pa), .val (.ref ta), .val (.int any), .val (.int (0 : Int32)), .val (.int (0 : Int32)), .val (.int (-1 : Int32)), .unset]) rfl kz) ?_
  show EndsK p e below _ (s₁.setTop (mkF m 8 #[.val (.ref pa), .val (.ref ta), .val (.int any), .val (.int (0 : Int32)), .val (.int (0 : Int32)), .val (.int (-1 : Int32)), .unset] []))
  refine EndsK.go (fun _ kz => XS.iconst X0.here hx rfl (hb hby d5_8) kz) ?_
  show EndsK p e below _ (s₁.setTop (mkF m 9 #[.val (.ref pa), .val (.ref ta), .val (.int any), .val (.int (0 : Int32)), .val (.int (0 : Int32)), .val (.int (-1 : Int32)), .unset] [(.int (0 : Int32))]))
  refine EndsK.go (fun _ kz => XS.istore X0.here hx rfl (hb hby d5_9) rfl (l' := #[.val (.ref pa), .val (.ref ta), .val (.int any), .val (.int (0 : Int32)), .val (.int (0 : Int32)), .val (.int (-1 : Int32)), .val (.int (0 : Int32))]) rfl kz) ?_
  refine J11 2000 (0 : Int32) (0 : Int32) (-1 : Int32) (0 : Int32) none (by omega) (by omega) (by omega) (by omega) (by omega) (Or.inl ⟨rfl, rfl⟩) ?_ (by omega)
  show wm any P T = wm any (P.drop 0) (T.drop 0)
  rfl
theorem ef_law (m : MethodId) (i0 : Int32) (i1 : Int32) (i2 : Int32) (i3 : Int32) : entryFrame m #[(.int i0), (.int i1), (.int i2), (.int i3)] maxLocals = mkF m 0 #[.val (.int i0), .val (.int i1), .val (.int i2), .val (.int i3), .unset, .unset, .unset, .unset, .unset, .unset, .unset] [] := by first | (simp [entryFrame, mkF, argsToLocals, Value.category, maxLocals]; done) | rfl
def Q_law (Z : State) (i0 : Int32) (i1 : Int32) (i2 : Int32) (i3 : Int32) (h0 : Heap) (n0 : Nat) (vz : Option Value) (hz : Heap) (Lz : List Loc) : Prop := vz = some (.int 1) ∧ Fr n0 Lz
theorem pd1 : parseMethodDescriptor "(IIII)I" = some ⟨[.int, .int, .int, .int], some .int⟩ := by decide +kernel
theorem pd2 : parseMethodDescriptor "([II)[I" = some ⟨[(.array .int), .int], some (.array .int)⟩ := by decide +kernel
theorem pd3 : parseMethodDescriptor "([II[III[[ZI)V" = some ⟨[(.array .int), .int, (.array .int), .int, .int, (.array (.array .boolean)), .int], none⟩ := by decide +kernel
theorem pd4 : parseMethodDescriptor "([I[II)Z" = some ⟨[(.array .int), (.array .int), .int], some .boolean⟩ := by decide +kernel
set_option maxRecDepth 65536 in
set_option maxHeartbeats 40000000 in
theorem rm_law (l : Launch) (Z : State) (a0 : Array Value) (hw : ∀ d ∈ tables_1, d.before a0 Z = true) (ws : List Jvm.Cond) (i0 : Int32) (i1 : Int32) (i2 : Int32) (i3 : Int32) (h0 : Heap) (n0 : Nat) (Z0 : n0 ≤ h0.size) (hn0 : n0 = h0.size) :
    MetFree l x (head1 (Jvm.Cond.code x code maxLocals ret :: ws) room_1) (fun az Uz => az = #[(.int i0), (.int i1), (.int i2), (.int i3)] ∧ Z.Warmed39 Uz.vm ∧ Uz.heap = h0) (fun _ _ _ _ _ => True) (fun _ Uz oz Ut => ∃ vz Lz, oz = .returned vz ∧ Q_law Z i0 i1 i2 i3 h0 n0 vz Ut.heap Lz ∧ FrameEnd Uz oz Ut Lz (room_1).cells (room_1).slots) := by
  refine MetFree.of_bodySF (plainFor_of_name pn0) hisR ?_
  intro p e s m args below meth c s₁ Bd hml0 hP hK
  obtain ⟨rfl, hZ, hh⟩ := hP
  have hx := Bd.exec
  have hby := Bd.bytes
  have hml : c.maxLocals = 11 := hml0
  have hown : s.vm.findClass "com/example/seshat/seshat/registry/WildcardsMatchesPinLaw" = some m.cls := findClass_of_methodNamed Bd.named
  have hnm := (name_of_methodNamed Bd.named Bd.method).1
  have hlk : meth.locks = false := Bd.notSynchronized
  have X0 : Stand p l e room_1 s m #[(.int i0), (.int i1), (.int i2), (.int i3)] below meth c s₁ [] 0 0 := Stand.of_body Bd
  have e0 : s₁.heap = h0 := by rw [← hh, Bd.state]; rfl
  have N0 := Fr.nil n0
  show EndsK p e below (OQ s (Q_law Z i0 i1 i2 i3 h0 n0) (room_1).cells (room_1).slots) (s₁.setTop (entryFrame m #[(.int i0), (.int i1), (.int i2), (.int i3)] maxLocals))
  refine EndsK.start (ef_law m i0 i1 i2 i3) ?_
  have P0 := ext_refl h0
  show EndsK p e below _ (s₁.setTop (mkF m 0 #[.val (.int i0), .val (.int i1), .val (.int i2), .val (.int i3), .unset, .unset, .unset, .unset, .unset, .unset, .unset] []))
  refine EndsK.go (fun _ kz => XS.iloadN X0.here hx rfl (hb hby at_0) rfl kz) ?_
  show EndsK p e below _ (s₁.setTop (mkF m 1 #[.val (.int i0), .val (.int i1), .val (.int i2), .val (.int i3), .unset, .unset, .unset, .unset, .unset, .unset, .unset] [(.int i0)]))
  refine EndsK.go (fun _ kz => XS.bipush X0.here hx rfl (hb hby at_1) kz) ?_
  show EndsK p e below _ (s₁.setTop (mkF m 3 #[.val (.int i0), .val (.int i1), .val (.int i2), .val (.int i3), .unset, .unset, .unset, .unset, .unset, .unset, .unset] [(.int (7 : Int32)), (.int i0)]))
  refine EndsK.go (fun _ kz => XS.iand X0.here hx rfl (hb hby at_3) rfl kz) ?_
  show EndsK p e below _ (s₁.setTop (mkF m 4 #[.val (.int i0), .val (.int i1), .val (.int i2), .val (.int i3), .unset, .unset, .unset, .unset, .unset, .unset, .unset] [(.int (i0 &&& (7 : Int32)))]))
  refine EndsK.go (fun _ kz => XS.iconst X0.here hx rfl (hb hby at_4) kz) ?_
  show EndsK p e below _ (s₁.setTop (mkF m 5 #[.val (.int i0), .val (.int i1), .val (.int i2), .val (.int i3), .unset, .unset, .unset, .unset, .unset, .unset, .unset] [(.int (5 : Int32)), (.int (i0 &&& (7 : Int32)))]))
  refine EndsK.go (fun _ kz => iremM X0 hx rfl (hb hby at_5) rfl (by decide) kz) ?_
  show EndsK p e below _ (s₁.setTop (mkF m 6 #[.val (.int i0), .val (.int i1), .val (.int i2), .val (.int i3), .unset, .unset, .unset, .unset, .unset, .unset, .unset] [(.int ((i0 &&& (7 : Int32)) % (5 : Int32)))]))
  refine EndsK.go (fun _ kz => XS.istore X0.here hx rfl (hb hby at_6) rfl (l' := #[.val (.int i0), .val (.int i1), .val (.int i2), .val (.int i3), .val (.int ((i0 &&& (7 : Int32)) % (5 : Int32))), .unset, .unset, .unset, .unset, .unset, .unset]) rfl kz) ?_
  show EndsK p e below _ (s₁.setTop (mkF m 8 #[.val (.int i0), .val (.int i1), .val (.int i2), .val (.int i3), .val (.int ((i0 &&& (7 : Int32)) % (5 : Int32))), .unset, .unset, .unset, .unset, .unset, .unset] []))
  refine EndsK.go (fun _ kz => XS.iloadN X0.here hx rfl (hb hby at_8) rfl kz) ?_
  show EndsK p e below _ (s₁.setTop (mkF m 9 #[.val (.int i0), .val (.int i1), .val (.int i2), .val (.int i3), .val (.int ((i0 &&& (7 : Int32)) % (5 : Int32))), .unset, .unset, .unset, .unset, .unset, .unset] [(.int i0)]))
  refine EndsK.go (fun _ kz => XS.iconst X0.here hx rfl (hb hby at_9) kz) ?_
  show EndsK p e below _ (s₁.setTop (mkF m 10 #[.val (.int i0), .val (.int i1), .val (.int i2), .val (.int i3), .val (.int ((i0 &&& (7 : Int32)) % (5 : Int32))), .unset, .unset, .unset, .unset, .unset, .unset] [(.int (3 : Int32)), (.int i0)]))
  refine EndsK.go (fun _ kz => XS.iushr X0.here hx rfl (hb hby at_10) rfl kz) ?_
  show EndsK p e below _ (s₁.setTop (mkF m 11 #[.val (.int i0), .val (.int i1), .val (.int i2), .val (.int i3), .val (.int ((i0 &&& (7 : Int32)) % (5 : Int32))), .unset, .unset, .unset, .unset, .unset, .unset] [(.int ((i0).toUInt32 >>> ((3 : Int32) &&& 31).toUInt32).toInt32)]))
  refine EndsK.go (fun _ kz => XS.bipush X0.here hx rfl (hb hby at_11) kz) ?_
  show EndsK p e below _ (s₁.setTop (mkF m 13 #[.val (.int i0), .val (.int i1), .val (.int i2), .val (.int i3), .val (.int ((i0 &&& (7 : Int32)) % (5 : Int32))), .unset, .unset, .unset, .unset, .unset, .unset] [(.int (7 : Int32)), (.int ((i0).toUInt32 >>> ((3 : Int32) &&& 31).toUInt32).toInt32)]))
  refine EndsK.go (fun _ kz => XS.iand X0.here hx rfl (hb hby at_13) rfl kz) ?_
  show EndsK p e below _ (s₁.setTop (mkF m 14 #[.val (.int i0), .val (.int i1), .val (.int i2), .val (.int i3), .val (.int ((i0 &&& (7 : Int32)) % (5 : Int32))), .unset, .unset, .unset, .unset, .unset, .unset] [(.int (((i0).toUInt32 >>> ((3 : Int32) &&& 31).toUInt32).toInt32 &&& (7 : Int32)))]))
  refine EndsK.go (fun _ kz => XS.iconst X0.here hx rfl (hb hby at_14) kz) ?_
  show EndsK p e below _ (s₁.setTop (mkF m 15 #[.val (.int i0), .val (.int i1), .val (.int i2), .val (.int i3), .val (.int ((i0 &&& (7 : Int32)) % (5 : Int32))), .unset, .unset, .unset, .unset, .unset, .unset] [(.int (5 : Int32)), (.int (((i0).toUInt32 >>> ((3 : Int32) &&& 31).toUInt32).toInt32 &&& (7 : Int32)))]))
  refine EndsK.go (fun _ kz => iremM X0 hx rfl (hb hby at_15) rfl (by decide) kz) ?_
  show EndsK p e below _ (s₁.setTop (mkF m 16 #[.val (.int i0), .val (.int i1), .val (.int i2), .val (.int i3), .val (.int ((i0 &&& (7 : Int32)) % (5 : Int32))), .unset, .unset, .unset, .unset, .unset, .unset] [(.int ((((i0).toUInt32 >>> ((3 : Int32) &&& 31).toUInt32).toInt32 &&& (7 : Int32)) % (5 : Int32)))]))
  refine EndsK.go (fun _ kz => XS.istore X0.here hx rfl (hb hby at_16) rfl (l' := #[.val (.int i0), .val (.int i1), .val (.int i2), .val (.int i3), .val (.int ((i0 &&& (7 : Int32)) % (5 : Int32))), .val (.int ((((i0).toUInt32 >>> ((3 : Int32) &&& 31).toUInt32).toInt32 &&& (7 : Int32)) % (5 : Int32))), .unset, .unset, .unset, .unset, .unset]) rfl kz) ?_
  show EndsK p e below _ (s₁.setTop (mkF m 18 #[.val (.int i0), .val (.int i1), .val (.int i2), .val (.int i3), .val (.int ((i0 &&& (7 : Int32)) % (5 : Int32))), .val (.int ((((i0).toUInt32 >>> ((3 : Int32) &&& 31).toUInt32).toInt32 &&& (7 : Int32)) % (5 : Int32))), .unset, .unset, .unset, .unset, .unset] []))
  have b1 := c_mask i0 7 3 (by decide) (by decide)
  have b2 := c_irem (i0 &&& (7 : Int32)) (5 : Int32) 5 rfl
  have b3 := c_mask (((i0).toUInt32 >>> ((3 : Int32) &&& 31).toUInt32).toInt32) 7 3 (by decide) (by decide)
  have b4 := c_irem ((((i0).toUInt32 >>> ((3 : Int32) &&& 31).toUInt32).toInt32) &&& (7 : Int32)) (5 : Int32) 5 rfl
  obtain ⟨np, enp⟩ : ∃ z, z = ((i0 &&& (7 : Int32)) % (5 : Int32)) := ⟨_, rfl⟩
  obtain ⟨nt, ent⟩ : ∃ z, z = ((((i0).toUInt32 >>> ((3 : Int32) &&& 31).toUInt32).toInt32 &&& (7 : Int32)) % (5 : Int32)) := ⟨_, rfl⟩
  have bp : 0 ≤ np.toInt ∧ np.toInt ≤ 4 := by rw [enp]; omega
  have bt : 0 ≤ nt.toInt ∧ nt.toInt ≤ 4 := by rw [ent]; omega
  rw [← enp, ← ent]
  show EndsK p e below _ (s₁.setTop (mkF m 18 #[.val (.int i0), .val (.int i1), .val (.int i2), .val (.int i3), .val (.int np), .val (.int nt), .unset, .unset, .unset, .unset, .unset] []))
  refine EndsK.go (fun _ kz => XS.iconst X0.here hx rfl (hb hby at_18) kz) ?_
  show EndsK p e below _ (s₁.setTop (mkF m 19 #[.val (.int i0), .val (.int i1), .val (.int i2), .val (.int i3), .val (.int np), .val (.int nt), .unset, .unset, .unset, .unset, .unset] [(.int (4 : Int32))]))
  obtain ⟨T1, h1, c1, X1, e1, E1, A1, st1⟩ := newP X0 hx hZ (hw _ (List.mem_of_getElem? (i := 0) rfl)) e0 (g := (mkF m 19 #[.val (.int i0), .val (.int i1), .val (.int i2), .val (.int i3), .val (.int np), .val (.int nt), .unset, .unset, .unset, .unset, .unset] [(.int (4 : Int32))])) rfl (hb hby at_19) rfl (by decide) (cap := 4) (by decide) (by decide) (by decide) (by decide)
  obtain ⟨pp, g1⟩ : ∃ z, z = h0.size := ⟨_, rfl⟩
  rw [← g1] at A1 st1
  refine EndsK.go st1 ?_
  have V1 : Arv Z h1 pp c1 .int (4 : Int32) [(.int (0 : Int32)), (.int (0 : Int32)), (.int (0 : Int32)), (.int (0 : Int32))] (.int (0 : Int32)) := (Arv.new A1 (by decide)).pad (pad_rep [] (.int (0 : Int32)) 4)
  have Y1 : Stand p l e room_1 s m #[.int i0, .int i1, .int i2, .int i3] below meth c T1 [] 1 4 := X1
  have Z1 : n0 ≤ h1.size := Nat.le_trans Z0 E1.1
  have G1 : n0 ≤ pp := by rw [g1]; exact Z0
  have P1 := ext_trans P0 E1
  have sz_pp : h0.size ≤ pp := by rw [g1]; exact P0.1
  show EndsK p e below _ (T1.setTop (mkF m 21 #[.val (.int i0), .val (.int i1), .val (.int i2), .val (.int i3), .val (.int np), .val (.int nt), .unset, .unset, .unset, .unset, .unset] [(.ref pp)]))
  refine EndsK.go (fun _ kz => XS.astore Y1.here hx rfl (hb hby at_21) rfl rfl (l' := #[.val (.int i0), .val (.int i1), .val (.int i2), .val (.int i3), .val (.int np), .val (.int nt), .val (.ref pp), .unset, .unset, .unset, .unset]) rfl kz) ?_
  show EndsK p e below _ (T1.setTop (mkF m 23 #[.val (.int i0), .val (.int i1), .val (.int i2), .val (.int i3), .val (.int np), .val (.int nt), .val (.ref pp), .unset, .unset, .unset, .unset] []))
  refine EndsK.go (fun _ kz => XS.iconst Y1.here hx rfl (hb hby at_23) kz) ?_
  show EndsK p e below _ (T1.setTop (mkF m 24 #[.val (.int i0), .val (.int i1), .val (.int i2), .val (.int i3), .val (.int np), .val (.int nt), .val (.ref pp), .unset, .unset, .unset, .unset] [(.int (4 : Int32))]))
  obtain ⟨T2, h2, c2, X2, e2, E2, A2, st2⟩ := newP Y1 hx hZ (hw _ (List.mem_of_getElem? (i := 0) rfl)) e1 (g := (mkF m 24 #[.val (.int i0), .val (.int i1), .val (.int i2), .val (.int i3), .val (.int np), .val (.int nt), .val (.ref pp), .unset, .unset, .unset, .unset] [(.int (4 : Int32))])) rfl (hb hby at_24) rfl (by decide) (cap := 4) (by decide) (by decide) (by decide) (by decide)
  obtain ⟨tt, g2⟩ : ∃ z, z = h1.size := ⟨_, rfl⟩
  rw [← g2] at A2 st2
  refine EndsK.go st2 ?_
  have V2_pp := V1.ext E2
  have V2 : Arv Z h2 tt c2 .int (4 : Int32) [(.int (0 : Int32)), (.int (0 : Int32)), (.int (0 : Int32)), (.int (0 : Int32))] (.int (0 : Int32)) := (Arv.new A2 (by decide)).pad (pad_rep [] (.int (0 : Int32)) 4)
  have Y2 : Stand p l e room_1 s m #[.int i0, .int i1, .int i2, .int i3] below meth c T2 [] 2 8 := X2
  have Z2 : n0 ≤ h2.size := Nat.le_trans Z1 E2.1
  have G2 : n0 ≤ tt := by rw [g2]; exact Z1
  have P2 := ext_trans P1 E2
  have sz_tt : h0.size ≤ tt := by rw [g2]; exact P1.1
  have ne_pp_tt : pp ≠ tt := Nat.ne_of_lt (by rw [g2]; exact V1.lt)
  show EndsK p e below _ (T2.setTop (mkF m 26 #[.val (.int i0), .val (.int i1), .val (.int i2), .val (.int i3), .val (.int np), .val (.int nt), .val (.ref pp), .unset, .unset, .unset, .unset] [(.ref tt)]))
  refine EndsK.go (fun _ kz => XS.astore Y2.here hx rfl (hb hby at_26) rfl rfl (l' := #[.val (.int i0), .val (.int i1), .val (.int i2), .val (.int i3), .val (.int np), .val (.int nt), .val (.ref pp), .val (.ref tt), .unset, .unset, .unset]) rfl kz) ?_
  show EndsK p e below _ (T2.setTop (mkF m 28 #[.val (.int i0), .val (.int i1), .val (.int i2), .val (.int i3), .val (.int np), .val (.int nt), .val (.ref pp), .val (.ref tt), .unset, .unset, .unset] []))
  refine EndsK.go (fun _ kz => XS.aload Y2.here hx rfl (hb hby at_28) rfl rfl kz) ?_
  show EndsK p e below _ (T2.setTop (mkF m 30 #[.val (.int i0), .val (.int i1), .val (.int i2), .val (.int i3), .val (.int np), .val (.int nt), .val (.ref pp), .val (.ref tt), .unset, .unset, .unset] [(.ref pp)]))
  refine EndsK.go (fun _ kz => XS.iconst Y2.here hx rfl (hb hby at_30) kz) ?_
  show EndsK p e below _ (T2.setTop (mkF m 31 #[.val (.int i0), .val (.int i1), .val (.int i2), .val (.int i3), .val (.int np), .val (.int nt), .val (.ref pp), .val (.ref tt), .unset, .unset, .unset] [(.int (0 : Int32)), (.ref pp)]))
  refine EndsK.go (fun _ kz => XS.iloadN Y2.here hx rfl (hb hby at_31) rfl kz) ?_
  show EndsK p e below _ (T2.setTop (mkF m 32 #[.val (.int i0), .val (.int i1), .val (.int i2), .val (.int i3), .val (.int np), .val (.int nt), .val (.ref pp), .val (.ref tt), .unset, .unset, .unset] [(.int i0), (.int (0 : Int32)), (.ref pp)]))
  refine EndsK.go (fun _ kz => XS.bipush Y2.here hx rfl (hb hby at_32) kz) ?_
  show EndsK p e below _ (T2.setTop (mkF m 34 #[.val (.int i0), .val (.int i1), .val (.int i2), .val (.int i3), .val (.int np), .val (.int nt), .val (.ref pp), .val (.ref tt), .unset, .unset, .unset] [(.int (6 : Int32)), (.int i0), (.int (0 : Int32)), (.ref pp)]))
  refine EndsK.go (fun _ kz => XS.iushr Y2.here hx rfl (hb hby at_34) rfl kz) ?_
  show EndsK p e below _ (T2.setTop (mkF m 35 #[.val (.int i0), .val (.int i1), .val (.int i2), .val (.int i3), .val (.int np), .val (.int nt), .val (.ref pp), .val (.ref tt), .unset, .unset, .unset] [(.int ((i0).toUInt32 >>> ((6 : Int32) &&& 31).toUInt32).toInt32), (.int (0 : Int32)), (.ref pp)]))
  refine EndsK.go (fun _ kz => XS.iloadN Y2.here hx rfl (hb hby at_35) rfl kz) ?_
  show EndsK p e below _ (T2.setTop (mkF m 36 #[.val (.int i0), .val (.int i1), .val (.int i2), .val (.int i3), .val (.int np), .val (.int nt), .val (.ref pp), .val (.ref tt), .unset, .unset, .unset] [(.int i1), (.int ((i0).toUInt32 >>> ((6 : Int32) &&& 31).toUInt32).toInt32), (.int (0 : Int32)), (.ref pp)]))
  refine EndsK.go (fun _ kz => XS.iloadN Y2.here hx rfl (hb hby at_36) rfl kz) ?_
  show EndsK p e below _ (T2.setTop (mkF m 37 #[.val (.int i0), .val (.int i1), .val (.int i2), .val (.int i3), .val (.int np), .val (.int nt), .val (.ref pp), .val (.ref tt), .unset, .unset, .unset] [(.int i2), (.int i1), (.int ((i0).toUInt32 >>> ((6 : Int32) &&& 31).toUInt32).toInt32), (.int (0 : Int32)), (.ref pp)]))
  refine EndsK.go (fun _ kz => XS.iloadN Y2.here hx rfl (hb hby at_37) rfl kz) ?_
  show EndsK p e below _ (T2.setTop (mkF m 38 #[.val (.int i0), .val (.int i1), .val (.int i2), .val (.int i3), .val (.int np), .val (.int nt), .val (.ref pp), .val (.ref tt), .unset, .unset, .unset] [(.int i3), (.int i2), (.int i1), (.int ((i0).toUInt32 >>> ((6 : Int32) &&& 31).toUInt32).toInt32), (.int (0 : Int32)), (.ref pp)]))
  obtain ⟨_, _, ⟨T3, L3, k3, n3⟩, -, X3, ⟨Lc3, hQ3, l3, y3, z3⟩, st3⟩ := Jvm.LawKit.callS Y2 hx (y := (⟨"com/example/seshat/seshat/registry/WildcardsMatchesPinLaw", "pick", "(IIII)I"⟩ : MethodName)) hown (mvT hZ (hw _ (List.mem_of_getElem? (i := 1) rfl))) (mvT hZ (hw _ (List.mem_of_getElem? (i := 2) rfl))) (mvT hZ (hw _ (List.mem_of_getElem? (i := 3) rfl))) (mvT hZ (hw _ (List.mem_of_getElem? (i := 4) rfl))) (by decide) (backOf (W := 2) (rm_pick l Z a0 hw [] ((i0).toUInt32 >>> ((6 : Int32) &&& 31).toUInt32).toInt32 i1 i2 i3 h2 n0 Z2) hZ (hw _ (List.mem_of_getElem? (i := 4) rfl)) (hw _ (List.mem_of_getElem? (i := 3) rfl)) (by decide) (by decide)) (g := (mkF m 38 #[.val (.int i0), .val (.int i1), .val (.int i2), .val (.int i3), .val (.int np), .val (.int nt), .val (.ref pp), .val (.ref tt), .unset, .unset, .unset] [(.int i3), (.int i2), (.int i1), (.int ((i0).toUInt32 >>> ((6 : Int32) &&& 31).toUInt32).toInt32), (.int (0 : Int32)), (.ref pp)])) rfl (by rw [hml]; rfl) (argsL := [(.int ((i0).toUInt32 >>> ((6 : Int32) &&& 31).toUInt32).toInt32), (.int i1), (.int i2), (.int i3)]) (rest := [(.int (0 : Int32)), (.ref pp)]) (lenOf pd1 rfl) rfl (by show 2 * 0 + _ ≤ _; exact Nat.le_of_eq rfl) (hb hby at_38) (fun _ _ => ⟨rfl, e2, (by decide : 2 + 0 ≤ _), (by decide : 8 + 0 ≤ _)⟩)
  dsimp only [Pt.U, Pt.locs, Pt.cells, Pt.slots] at X3 l3 y3 z3 st3 hQ3
  subst l3 y3 z3
  obtain ⟨x0, rfl, N3, e3⟩ := hQ3
  have Y3 : Stand p l e room_1 s m #[.int i0, .int i1, .int i2, .int i3] below meth c T3 [] 2 8 := (X3.dropFresh (fun xz hxz => by rw [hh, ← hn0]; exact N3 xz hxz)).mono (by decide) (by decide)
  refine EndsK.go st3 ?_
  show EndsK p e below _ (T3.setTop (mkF m 41 #[.val (.int i0), .val (.int i1), .val (.int i2), .val (.int i3), .val (.int np), .val (.int nt), .val (.ref pp), .val (.ref tt), .unset, .unset, .unset] [(.int x0), (.int (0 : Int32)), (.ref pp)]))
  obtain ⟨c4, B4, q14, Sz4, q34, Hh4, Gh4⟩ := V2_pp
  obtain ⟨T4, h4, X4, e4, W4, st4⟩ := stI Y3 hx hZ e3 B4 (j := (0 : Int32)) (inb_of Sz4 ⟨by decide, by decide⟩) (g := (mkF m 41 #[.val (.int i0), .val (.int i1), .val (.int i2), .val (.int i3), .val (.int np), .val (.int nt), .val (.ref pp), .val (.ref tt), .unset, .unset, .unset] [(.int x0), (.int (0 : Int32)), (.ref pp)])) rfl rfl (hb hby at_41)
  have V4 : Arv Z h4 pp c1 .int (4 : Int32) [(.int x0), (.int (0 : Int32)), (.int (0 : Int32)), (.int (0 : Int32))] (.int (0 : Int32)) := Arv.set B4 q14 Sz4 q34 Hh4 Gh4 rfl W4 0 rfl (Nat.le_of_ble_eq_true rfl)
  refine EndsK.go st4 ?_
  have V4_tt := V2.other W4 (Ne.symm ne_pp_tt)
  have Z4 : n0 ≤ h4.size := Nat.le_trans Z2 (Nat.le_of_eq W4.size.symm)
  have P4 := ext_wr P2 W4 sz_pp
  have Y4 : Stand p l e room_1 s m #[.int i0, .int i1, .int i2, .int i3] below meth c T4 [] 2 8 := (X4.dropFresh (fun xz hxz => by cases List.mem_singleton.mp hxz; rw [hh]; exact sz_pp)).mono (by decide) (by decide)
  show EndsK p e below _ (T4.setTop (mkF m 42 #[.val (.int i0), .val (.int i1), .val (.int i2), .val (.int i3), .val (.int np), .val (.int nt), .val (.ref pp), .val (.ref tt), .unset, .unset, .unset] []))
  refine EndsK.go (fun _ kz => XS.aload Y4.here hx rfl (hb hby at_42) rfl rfl kz) ?_
  show EndsK p e below _ (T4.setTop (mkF m 44 #[.val (.int i0), .val (.int i1), .val (.int i2), .val (.int i3), .val (.int np), .val (.int nt), .val (.ref pp), .val (.ref tt), .unset, .unset, .unset] [(.ref pp)]))
  refine EndsK.go (fun _ kz => XS.iconst Y4.here hx rfl (hb hby at_44) kz) ?_
  show EndsK p e below _ (T4.setTop (mkF m 45 #[.val (.int i0), .val (.int i1), .val (.int i2), .val (.int i3), .val (.int np), .val (.int nt), .val (.ref pp), .val (.ref tt), .unset, .unset, .unset] [(.int (1 : Int32)), (.ref pp)]))
  refine EndsK.go (fun _ kz => XS.iloadN Y4.here hx rfl (hb hby at_45) rfl kz) ?_
  show EndsK p e below _ (T4.setTop (mkF m 46 #[.val (.int i0), .val (.int i1), .val (.int i2), .val (.int i3), .val (.int np), .val (.int nt), .val (.ref pp), .val (.ref tt), .unset, .unset, .unset] [(.int i0), (.int (1 : Int32)), (.ref pp)]))
  refine EndsK.go (fun _ kz => XS.bipush Y4.here hx rfl (hb hby at_46) kz) ?_
  show EndsK p e below _ (T4.setTop (mkF m 48 #[.val (.int i0), .val (.int i1), .val (.int i2), .val (.int i3), .val (.int np), .val (.int nt), .val (.ref pp), .val (.ref tt), .unset, .unset, .unset] [(.int (8 : Int32)), (.int i0), (.int (1 : Int32)), (.ref pp)]))
  refine EndsK.go (fun _ kz => XS.iushr Y4.here hx rfl (hb hby at_48) rfl kz) ?_
  show EndsK p e below _ (T4.setTop (mkF m 49 #[.val (.int i0), .val (.int i1), .val (.int i2), .val (.int i3), .val (.int np), .val (.int nt), .val (.ref pp), .val (.ref tt), .unset, .unset, .unset] [(.int ((i0).toUInt32 >>> ((8 : Int32) &&& 31).toUInt32).toInt32), (.int (1 : Int32)), (.ref pp)]))
  refine EndsK.go (fun _ kz => XS.iloadN Y4.here hx rfl (hb hby at_49) rfl kz) ?_
  show EndsK p e below _ (T4.setTop (mkF m 50 #[.val (.int i0), .val (.int i1), .val (.int i2), .val (.int i3), .val (.int np), .val (.int nt), .val (.ref pp), .val (.ref tt), .unset, .unset, .unset] [(.int i1), (.int ((i0).toUInt32 >>> ((8 : Int32) &&& 31).toUInt32).toInt32), (.int (1 : Int32)), (.ref pp)]))
  refine EndsK.go (fun _ kz => XS.iloadN Y4.here hx rfl (hb hby at_50) rfl kz) ?_
  show EndsK p e below _ (T4.setTop (mkF m 51 #[.val (.int i0), .val (.int i1), .val (.int i2), .val (.int i3), .val (.int np), .val (.int nt), .val (.ref pp), .val (.ref tt), .unset, .unset, .unset] [(.int i2), (.int i1), (.int ((i0).toUInt32 >>> ((8 : Int32) &&& 31).toUInt32).toInt32), (.int (1 : Int32)), (.ref pp)]))
  refine EndsK.go (fun _ kz => XS.iloadN Y4.here hx rfl (hb hby at_51) rfl kz) ?_
  show EndsK p e below _ (T4.setTop (mkF m 52 #[.val (.int i0), .val (.int i1), .val (.int i2), .val (.int i3), .val (.int np), .val (.int nt), .val (.ref pp), .val (.ref tt), .unset, .unset, .unset] [(.int i3), (.int i2), (.int i1), (.int ((i0).toUInt32 >>> ((8 : Int32) &&& 31).toUInt32).toInt32), (.int (1 : Int32)), (.ref pp)]))
  obtain ⟨_, _, ⟨T5, L5, k5, n5⟩, -, X5, ⟨Lc5, hQ5, l5, y5, z5⟩, st5⟩ := Jvm.LawKit.callS Y4 hx (y := (⟨"com/example/seshat/seshat/registry/WildcardsMatchesPinLaw", "pick", "(IIII)I"⟩ : MethodName)) hown (mvT hZ (hw _ (List.mem_of_getElem? (i := 1) rfl))) (mvT hZ (hw _ (List.mem_of_getElem? (i := 2) rfl))) (mvT hZ (hw _ (List.mem_of_getElem? (i := 3) rfl))) (mvT hZ (hw _ (List.mem_of_getElem? (i := 4) rfl))) (by decide) (backOf (W := 2) (rm_pick l Z a0 hw [] ((i0).toUInt32 >>> ((8 : Int32) &&& 31).toUInt32).toInt32 i1 i2 i3 h4 n0 Z4) hZ (hw _ (List.mem_of_getElem? (i := 4) rfl)) (hw _ (List.mem_of_getElem? (i := 3) rfl)) (by decide) (by decide)) (g := (mkF m 52 #[.val (.int i0), .val (.int i1), .val (.int i2), .val (.int i3), .val (.int np), .val (.int nt), .val (.ref pp), .val (.ref tt), .unset, .unset, .unset] [(.int i3), (.int i2), (.int i1), (.int ((i0).toUInt32 >>> ((8 : Int32) &&& 31).toUInt32).toInt32), (.int (1 : Int32)), (.ref pp)])) rfl (by rw [hml]; rfl) (argsL := [(.int ((i0).toUInt32 >>> ((8 : Int32) &&& 31).toUInt32).toInt32), (.int i1), (.int i2), (.int i3)]) (rest := [(.int (1 : Int32)), (.ref pp)]) (lenOf pd1 rfl) rfl (by show 2 * 0 + _ ≤ _; exact Nat.le_of_eq rfl) (hb hby at_52) (fun _ _ => ⟨rfl, e4, (by decide : 2 + 0 ≤ _), (by decide : 8 + 0 ≤ _)⟩)
  dsimp only [Pt.U, Pt.locs, Pt.cells, Pt.slots] at X5 l5 y5 z5 st5 hQ5
  subst l5 y5 z5
  obtain ⟨x1, rfl, N5, e5⟩ := hQ5
  have Y5 : Stand p l e room_1 s m #[.int i0, .int i1, .int i2, .int i3] below meth c T5 [] 2 8 := (X5.dropFresh (fun xz hxz => by rw [hh, ← hn0]; exact N5 xz hxz)).mono (by decide) (by decide)
  refine EndsK.go st5 ?_
  show EndsK p e below _ (T5.setTop (mkF m 55 #[.val (.int i0), .val (.int i1), .val (.int i2), .val (.int i3), .val (.int np), .val (.int nt), .val (.ref pp), .val (.ref tt), .unset, .unset, .unset] [(.int x1), (.int (1 : Int32)), (.ref pp)]))
  obtain ⟨c6, B6, q16, Sz6, q36, Hh6, Gh6⟩ := V4
  obtain ⟨T6, h6, X6, e6, W6, st6⟩ := stI Y5 hx hZ e5 B6 (j := (1 : Int32)) (inb_of Sz6 ⟨by decide, by decide⟩) (g := (mkF m 55 #[.val (.int i0), .val (.int i1), .val (.int i2), .val (.int i3), .val (.int np), .val (.int nt), .val (.ref pp), .val (.ref tt), .unset, .unset, .unset] [(.int x1), (.int (1 : Int32)), (.ref pp)])) rfl rfl (hb hby at_55)
  have V6 : Arv Z h6 pp c1 .int (4 : Int32) [(.int x0), (.int x1), (.int (0 : Int32)), (.int (0 : Int32))] (.int (0 : Int32)) := Arv.set B6 q16 Sz6 q36 Hh6 Gh6 rfl W6 1 rfl (Nat.le_of_ble_eq_true rfl)
  refine EndsK.go st6 ?_
  have V6_tt := V4_tt.other W6 (Ne.symm ne_pp_tt)
  have Z6 : n0 ≤ h6.size := Nat.le_trans Z4 (Nat.le_of_eq W6.size.symm)
  have P6 := ext_wr P4 W6 sz_pp
  have Y6 : Stand p l e room_1 s m #[.int i0, .int i1, .int i2, .int i3] below meth c T6 [] 2 8 := (X6.dropFresh (fun xz hxz => by cases List.mem_singleton.mp hxz; rw [hh]; exact sz_pp)).mono (by decide) (by decide)
  show EndsK p e below _ (T6.setTop (mkF m 56 #[.val (.int i0), .val (.int i1), .val (.int i2), .val (.int i3), .val (.int np), .val (.int nt), .val (.ref pp), .val (.ref tt), .unset, .unset, .unset] []))
  refine EndsK.go (fun _ kz => XS.aload Y6.here hx rfl (hb hby at_56) rfl rfl kz) ?_
  show EndsK p e below _ (T6.setTop (mkF m 58 #[.val (.int i0), .val (.int i1), .val (.int i2), .val (.int i3), .val (.int np), .val (.int nt), .val (.ref pp), .val (.ref tt), .unset, .unset, .unset] [(.ref pp)]))
  refine EndsK.go (fun _ kz => XS.iconst Y6.here hx rfl (hb hby at_58) kz) ?_
  show EndsK p e below _ (T6.setTop (mkF m 59 #[.val (.int i0), .val (.int i1), .val (.int i2), .val (.int i3), .val (.int np), .val (.int nt), .val (.ref pp), .val (.ref tt), .unset, .unset, .unset] [(.int (2 : Int32)), (.ref pp)]))
  refine EndsK.go (fun _ kz => XS.iloadN Y6.here hx rfl (hb hby at_59) rfl kz) ?_
  show EndsK p e below _ (T6.setTop (mkF m 60 #[.val (.int i0), .val (.int i1), .val (.int i2), .val (.int i3), .val (.int np), .val (.int nt), .val (.ref pp), .val (.ref tt), .unset, .unset, .unset] [(.int i0), (.int (2 : Int32)), (.ref pp)]))
  refine EndsK.go (fun _ kz => XS.bipush Y6.here hx rfl (hb hby at_60) kz) ?_
  show EndsK p e below _ (T6.setTop (mkF m 62 #[.val (.int i0), .val (.int i1), .val (.int i2), .val (.int i3), .val (.int np), .val (.int nt), .val (.ref pp), .val (.ref tt), .unset, .unset, .unset] [(.int (10 : Int32)), (.int i0), (.int (2 : Int32)), (.ref pp)]))
  refine EndsK.go (fun _ kz => XS.iushr Y6.here hx rfl (hb hby at_62) rfl kz) ?_
  show EndsK p e below _ (T6.setTop (mkF m 63 #[.val (.int i0), .val (.int i1), .val (.int i2), .val (.int i3), .val (.int np), .val (.int nt), .val (.ref pp), .val (.ref tt), .unset, .unset, .unset] [(.int ((i0).toUInt32 >>> ((10 : Int32) &&& 31).toUInt32).toInt32), (.int (2 : Int32)), (.ref pp)]))
  refine EndsK.go (fun _ kz => XS.iloadN Y6.here hx rfl (hb hby at_63) rfl kz) ?_
  show EndsK p e below _ (T6.setTop (mkF m 64 #[.val (.int i0), .val (.int i1), .val (.int i2), .val (.int i3), .val (.int np), .val (.int nt), .val (.ref pp), .val (.ref tt), .unset, .unset, .unset] [(.int i1), (.int ((i0).toUInt32 >>> ((10 : Int32) &&& 31).toUInt32).toInt32), (.int (2 : Int32)), (.ref pp)]))
  refine EndsK.go (fun _ kz => XS.iloadN Y6.here hx rfl (hb hby at_64) rfl kz) ?_
  show EndsK p e below _ (T6.setTop (mkF m 65 #[.val (.int i0), .val (.int i1), .val (.int i2), .val (.int i3), .val (.int np), .val (.int nt), .val (.ref pp), .val (.ref tt), .unset, .unset, .unset] [(.int i2), (.int i1), (.int ((i0).toUInt32 >>> ((10 : Int32) &&& 31).toUInt32).toInt32), (.int (2 : Int32)), (.ref pp)]))
  refine EndsK.go (fun _ kz => XS.iloadN Y6.here hx rfl (hb hby at_65) rfl kz) ?_
  show EndsK p e below _ (T6.setTop (mkF m 66 #[.val (.int i0), .val (.int i1), .val (.int i2), .val (.int i3), .val (.int np), .val (.int nt), .val (.ref pp), .val (.ref tt), .unset, .unset, .unset] [(.int i3), (.int i2), (.int i1), (.int ((i0).toUInt32 >>> ((10 : Int32) &&& 31).toUInt32).toInt32), (.int (2 : Int32)), (.ref pp)]))
  obtain ⟨_, _, ⟨T7, L7, k7, n7⟩, -, X7, ⟨Lc7, hQ7, l7, y7, z7⟩, st7⟩ := Jvm.LawKit.callS Y6 hx (y := (⟨"com/example/seshat/seshat/registry/WildcardsMatchesPinLaw", "pick", "(IIII)I"⟩ : MethodName)) hown (mvT hZ (hw _ (List.mem_of_getElem? (i := 1) rfl))) (mvT hZ (hw _ (List.mem_of_getElem? (i := 2) rfl))) (mvT hZ (hw _ (List.mem_of_getElem? (i := 3) rfl))) (mvT hZ (hw _ (List.mem_of_getElem? (i := 4) rfl))) (by decide) (backOf (W := 2) (rm_pick l Z a0 hw [] ((i0).toUInt32 >>> ((10 : Int32) &&& 31).toUInt32).toInt32 i1 i2 i3 h6 n0 Z6) hZ (hw _ (List.mem_of_getElem? (i := 4) rfl)) (hw _ (List.mem_of_getElem? (i := 3) rfl)) (by decide) (by decide)) (g := (mkF m 66 #[.val (.int i0), .val (.int i1), .val (.int i2), .val (.int i3), .val (.int np), .val (.int nt), .val (.ref pp), .val (.ref tt), .unset, .unset, .unset] [(.int i3), (.int i2), (.int i1), (.int ((i0).toUInt32 >>> ((10 : Int32) &&& 31).toUInt32).toInt32), (.int (2 : Int32)), (.ref pp)])) rfl (by rw [hml]; rfl) (argsL := [(.int ((i0).toUInt32 >>> ((10 : Int32) &&& 31).toUInt32).toInt32), (.int i1), (.int i2), (.int i3)]) (rest := [(.int (2 : Int32)), (.ref pp)]) (lenOf pd1 rfl) rfl (by show 2 * 0 + _ ≤ _; exact Nat.le_of_eq rfl) (hb hby at_66) (fun _ _ => ⟨rfl, e6, (by decide : 2 + 0 ≤ _), (by decide : 8 + 0 ≤ _)⟩)
  dsimp only [Pt.U, Pt.locs, Pt.cells, Pt.slots] at X7 l7 y7 z7 st7 hQ7
  subst l7 y7 z7
  obtain ⟨x2, rfl, N7, e7⟩ := hQ7
  have Y7 : Stand p l e room_1 s m #[.int i0, .int i1, .int i2, .int i3] below meth c T7 [] 2 8 := (X7.dropFresh (fun xz hxz => by rw [hh, ← hn0]; exact N7 xz hxz)).mono (by decide) (by decide)
  refine EndsK.go st7 ?_
  show EndsK p e below _ (T7.setTop (mkF m 69 #[.val (.int i0), .val (.int i1), .val (.int i2), .val (.int i3), .val (.int np), .val (.int nt), .val (.ref pp), .val (.ref tt), .unset, .unset, .unset] [(.int x2), (.int (2 : Int32)), (.ref pp)]))
  obtain ⟨c8, B8, q18, Sz8, q38, Hh8, Gh8⟩ := V6
  obtain ⟨T8, h8, X8, e8, W8, st8⟩ := stI Y7 hx hZ e7 B8 (j := (2 : Int32)) (inb_of Sz8 ⟨by decide, by decide⟩) (g := (mkF m 69 #[.val (.int i0), .val (.int i1), .val (.int i2), .val (.int i3), .val (.int np), .val (.int nt), .val (.ref pp), .val (.ref tt), .unset, .unset, .unset] [(.int x2), (.int (2 : Int32)), (.ref pp)])) rfl rfl (hb hby at_69)
  have V8 : Arv Z h8 pp c1 .int (4 : Int32) [(.int x0), (.int x1), (.int x2), (.int (0 : Int32))] (.int (0 : Int32)) := Arv.set B8 q18 Sz8 q38 Hh8 Gh8 rfl W8 2 rfl (Nat.le_of_ble_eq_true rfl)
  refine EndsK.go st8 ?_
  have V8_tt := V6_tt.other W8 (Ne.symm ne_pp_tt)
  have Z8 : n0 ≤ h8.size := Nat.le_trans Z6 (Nat.le_of_eq W8.size.symm)
  have P8 := ext_wr P6 W8 sz_pp
  have Y8 : Stand p l e room_1 s m #[.int i0, .int i1, .int i2, .int i3] below meth c T8 [] 2 8 := (X8.dropFresh (fun xz hxz => by cases List.mem_singleton.mp hxz; rw [hh]; exact sz_pp)).mono (by decide) (by decide)
  show EndsK p e below _ (T8.setTop (mkF m 70 #[.val (.int i0), .val (.int i1), .val (.int i2), .val (.int i3), .val (.int np), .val (.int nt), .val (.ref pp), .val (.ref tt), .unset, .unset, .unset] []))
  refine EndsK.go (fun _ kz => XS.aload Y8.here hx rfl (hb hby at_70) rfl rfl kz) ?_
  show EndsK p e below _ (T8.setTop (mkF m 72 #[.val (.int i0), .val (.int i1), .val (.int i2), .val (.int i3), .val (.int np), .val (.int nt), .val (.ref pp), .val (.ref tt), .unset, .unset, .unset] [(.ref pp)]))
  refine EndsK.go (fun _ kz => XS.iconst Y8.here hx rfl (hb hby at_72) kz) ?_
  show EndsK p e below _ (T8.setTop (mkF m 73 #[.val (.int i0), .val (.int i1), .val (.int i2), .val (.int i3), .val (.int np), .val (.int nt), .val (.ref pp), .val (.ref tt), .unset, .unset, .unset] [(.int (3 : Int32)), (.ref pp)]))
  refine EndsK.go (fun _ kz => XS.iloadN Y8.here hx rfl (hb hby at_73) rfl kz) ?_
  show EndsK p e below _ (T8.setTop (mkF m 74 #[.val (.int i0), .val (.int i1), .val (.int i2), .val (.int i3), .val (.int np), .val (.int nt), .val (.ref pp), .val (.ref tt), .unset, .unset, .unset] [(.int i0), (.int (3 : Int32)), (.ref pp)]))
  refine EndsK.go (fun _ kz => XS.bipush Y8.here hx rfl (hb hby at_74) kz) ?_
  show EndsK p e below _ (T8.setTop (mkF m 76 #[.val (.int i0), .val (.int i1), .val (.int i2), .val (.int i3), .val (.int np), .val (.int nt), .val (.ref pp), .val (.ref tt), .unset, .unset, .unset] [(.int (12 : Int32)), (.int i0), (.int (3 : Int32)), (.ref pp)]))
  refine EndsK.go (fun _ kz => XS.iushr Y8.here hx rfl (hb hby at_76) rfl kz) ?_
  show EndsK p e below _ (T8.setTop (mkF m 77 #[.val (.int i0), .val (.int i1), .val (.int i2), .val (.int i3), .val (.int np), .val (.int nt), .val (.ref pp), .val (.ref tt), .unset, .unset, .unset] [(.int ((i0).toUInt32 >>> ((12 : Int32) &&& 31).toUInt32).toInt32), (.int (3 : Int32)), (.ref pp)]))
  refine EndsK.go (fun _ kz => XS.iloadN Y8.here hx rfl (hb hby at_77) rfl kz) ?_
  show EndsK p e below _ (T8.setTop (mkF m 78 #[.val (.int i0), .val (.int i1), .val (.int i2), .val (.int i3), .val (.int np), .val (.int nt), .val (.ref pp), .val (.ref tt), .unset, .unset, .unset] [(.int i1), (.int ((i0).toUInt32 >>> ((12 : Int32) &&& 31).toUInt32).toInt32), (.int (3 : Int32)), (.ref pp)]))
  refine EndsK.go (fun _ kz => XS.iloadN Y8.here hx rfl (hb hby at_78) rfl kz) ?_
  show EndsK p e below _ (T8.setTop (mkF m 79 #[.val (.int i0), .val (.int i1), .val (.int i2), .val (.int i3), .val (.int np), .val (.int nt), .val (.ref pp), .val (.ref tt), .unset, .unset, .unset] [(.int i2), (.int i1), (.int ((i0).toUInt32 >>> ((12 : Int32) &&& 31).toUInt32).toInt32), (.int (3 : Int32)), (.ref pp)]))
  refine EndsK.go (fun _ kz => XS.iloadN Y8.here hx rfl (hb hby at_79) rfl kz) ?_
  show EndsK p e below _ (T8.setTop (mkF m 80 #[.val (.int i0), .val (.int i1), .val (.int i2), .val (.int i3), .val (.int np), .val (.int nt), .val (.ref pp), .val (.ref tt), .unset, .unset, .unset] [(.int i3), (.int i2), (.int i1), (.int ((i0).toUInt32 >>> ((12 : Int32) &&& 31).toUInt32).toInt32), (.int (3 : Int32)), (.ref pp)]))
  obtain ⟨_, _, ⟨T9, L9, k9, n9⟩, -, X9, ⟨Lc9, hQ9, l9, y9, z9⟩, st9⟩ := Jvm.LawKit.callS Y8 hx (y := (⟨"com/example/seshat/seshat/registry/WildcardsMatchesPinLaw", "pick", "(IIII)I"⟩ : MethodName)) hown (mvT hZ (hw _ (List.mem_of_getElem? (i := 1) rfl))) (mvT hZ (hw _ (List.mem_of_getElem? (i := 2) rfl))) (mvT hZ (hw _ (List.mem_of_getElem? (i := 3) rfl))) (mvT hZ (hw _ (List.mem_of_getElem? (i := 4) rfl))) (by decide) (backOf (W := 2) (rm_pick l Z a0 hw [] ((i0).toUInt32 >>> ((12 : Int32) &&& 31).toUInt32).toInt32 i1 i2 i3 h8 n0 Z8) hZ (hw _ (List.mem_of_getElem? (i := 4) rfl)) (hw _ (List.mem_of_getElem? (i := 3) rfl)) (by decide) (by decide)) (g := (mkF m 80 #[.val (.int i0), .val (.int i1), .val (.int i2), .val (.int i3), .val (.int np), .val (.int nt), .val (.ref pp), .val (.ref tt), .unset, .unset, .unset] [(.int i3), (.int i2), (.int i1), (.int ((i0).toUInt32 >>> ((12 : Int32) &&& 31).toUInt32).toInt32), (.int (3 : Int32)), (.ref pp)])) rfl (by rw [hml]; rfl) (argsL := [(.int ((i0).toUInt32 >>> ((12 : Int32) &&& 31).toUInt32).toInt32), (.int i1), (.int i2), (.int i3)]) (rest := [(.int (3 : Int32)), (.ref pp)]) (lenOf pd1 rfl) rfl (by show 2 * 0 + _ ≤ _; exact Nat.le_of_eq rfl) (hb hby at_80) (fun _ _ => ⟨rfl, e8, (by decide : 2 + 0 ≤ _), (by decide : 8 + 0 ≤ _)⟩)
  dsimp only [Pt.U, Pt.locs, Pt.cells, Pt.slots] at X9 l9 y9 z9 st9 hQ9
  subst l9 y9 z9
  obtain ⟨x3, rfl, N9, e9⟩ := hQ9
  have Y9 : Stand p l e room_1 s m #[.int i0, .int i1, .int i2, .int i3] below meth c T9 [] 2 8 := (X9.dropFresh (fun xz hxz => by rw [hh, ← hn0]; exact N9 xz hxz)).mono (by decide) (by decide)
  refine EndsK.go st9 ?_
  show EndsK p e below _ (T9.setTop (mkF m 83 #[.val (.int i0), .val (.int i1), .val (.int i2), .val (.int i3), .val (.int np), .val (.int nt), .val (.ref pp), .val (.ref tt), .unset, .unset, .unset] [(.int x3), (.int (3 : Int32)), (.ref pp)]))
  obtain ⟨c10, B10, q110, Sz10, q310, Hh10, Gh10⟩ := V8
  obtain ⟨T10, h10, X10, e10, W10, st10⟩ := stI Y9 hx hZ e9 B10 (j := (3 : Int32)) (inb_of Sz10 ⟨by decide, by decide⟩) (g := (mkF m 83 #[.val (.int i0), .val (.int i1), .val (.int i2), .val (.int i3), .val (.int np), .val (.int nt), .val (.ref pp), .val (.ref tt), .unset, .unset, .unset] [(.int x3), (.int (3 : Int32)), (.ref pp)])) rfl rfl (hb hby at_83)
  have V10 : Arv Z h10 pp c1 .int (4 : Int32) [(.int x0), (.int x1), (.int x2), (.int x3)] (.int (0 : Int32)) := Arv.set B10 q110 Sz10 q310 Hh10 Gh10 rfl W10 3 rfl (Nat.le_of_ble_eq_true rfl)
  refine EndsK.go st10 ?_
  have V10_tt := V8_tt.other W10 (Ne.symm ne_pp_tt)
  have Z10 : n0 ≤ h10.size := Nat.le_trans Z8 (Nat.le_of_eq W10.size.symm)
  have P10 := ext_wr P8 W10 sz_pp
  have Y10 : Stand p l e room_1 s m #[.int i0, .int i1, .int i2, .int i3] below meth c T10 [] 2 8 := (X10.dropFresh (fun xz hxz => by cases List.mem_singleton.mp hxz; rw [hh]; exact sz_pp)).mono (by decide) (by decide)
  show EndsK p e below _ (T10.setTop (mkF m 84 #[.val (.int i0), .val (.int i1), .val (.int i2), .val (.int i3), .val (.int np), .val (.int nt), .val (.ref pp), .val (.ref tt), .unset, .unset, .unset] []))
  refine EndsK.go (fun _ kz => XS.aload Y10.here hx rfl (hb hby at_84) rfl rfl kz) ?_
  show EndsK p e below _ (T10.setTop (mkF m 86 #[.val (.int i0), .val (.int i1), .val (.int i2), .val (.int i3), .val (.int np), .val (.int nt), .val (.ref pp), .val (.ref tt), .unset, .unset, .unset] [(.ref tt)]))
  refine EndsK.go (fun _ kz => XS.iconst Y10.here hx rfl (hb hby at_86) kz) ?_
  show EndsK p e below _ (T10.setTop (mkF m 87 #[.val (.int i0), .val (.int i1), .val (.int i2), .val (.int i3), .val (.int np), .val (.int nt), .val (.ref pp), .val (.ref tt), .unset, .unset, .unset] [(.int (0 : Int32)), (.ref tt)]))
  refine EndsK.go (fun _ kz => XS.iloadN Y10.here hx rfl (hb hby at_87) rfl kz) ?_
  show EndsK p e below _ (T10.setTop (mkF m 88 #[.val (.int i0), .val (.int i1), .val (.int i2), .val (.int i3), .val (.int np), .val (.int nt), .val (.ref pp), .val (.ref tt), .unset, .unset, .unset] [(.int i0), (.int (0 : Int32)), (.ref tt)]))
  refine EndsK.go (fun _ kz => XS.bipush Y10.here hx rfl (hb hby at_88) kz) ?_
  show EndsK p e below _ (T10.setTop (mkF m 90 #[.val (.int i0), .val (.int i1), .val (.int i2), .val (.int i3), .val (.int np), .val (.int nt), .val (.ref pp), .val (.ref tt), .unset, .unset, .unset] [(.int (14 : Int32)), (.int i0), (.int (0 : Int32)), (.ref tt)]))
  refine EndsK.go (fun _ kz => XS.iushr Y10.here hx rfl (hb hby at_90) rfl kz) ?_
  show EndsK p e below _ (T10.setTop (mkF m 91 #[.val (.int i0), .val (.int i1), .val (.int i2), .val (.int i3), .val (.int np), .val (.int nt), .val (.ref pp), .val (.ref tt), .unset, .unset, .unset] [(.int ((i0).toUInt32 >>> ((14 : Int32) &&& 31).toUInt32).toInt32), (.int (0 : Int32)), (.ref tt)]))
  refine EndsK.go (fun _ kz => XS.iloadN Y10.here hx rfl (hb hby at_91) rfl kz) ?_
  show EndsK p e below _ (T10.setTop (mkF m 92 #[.val (.int i0), .val (.int i1), .val (.int i2), .val (.int i3), .val (.int np), .val (.int nt), .val (.ref pp), .val (.ref tt), .unset, .unset, .unset] [(.int i1), (.int ((i0).toUInt32 >>> ((14 : Int32) &&& 31).toUInt32).toInt32), (.int (0 : Int32)), (.ref tt)]))
  refine EndsK.go (fun _ kz => XS.iloadN Y10.here hx rfl (hb hby at_92) rfl kz) ?_
  show EndsK p e below _ (T10.setTop (mkF m 93 #[.val (.int i0), .val (.int i1), .val (.int i2), .val (.int i3), .val (.int np), .val (.int nt), .val (.ref pp), .val (.ref tt), .unset, .unset, .unset] [(.int i2), (.int i1), (.int ((i0).toUInt32 >>> ((14 : Int32) &&& 31).toUInt32).toInt32), (.int (0 : Int32)), (.ref tt)]))
  refine EndsK.go (fun _ kz => XS.iloadN Y10.here hx rfl (hb hby at_93) rfl kz) ?_
  show EndsK p e below _ (T10.setTop (mkF m 94 #[.val (.int i0), .val (.int i1), .val (.int i2), .val (.int i3), .val (.int np), .val (.int nt), .val (.ref pp), .val (.ref tt), .unset, .unset, .unset] [(.int i3), (.int i2), (.int i1), (.int ((i0).toUInt32 >>> ((14 : Int32) &&& 31).toUInt32).toInt32), (.int (0 : Int32)), (.ref tt)]))
  obtain ⟨_, _, ⟨T11, L11, k11, n11⟩, -, X11, ⟨Lc11, hQ11, l11, y11, z11⟩, st11⟩ := Jvm.LawKit.callS Y10 hx (y := (⟨"com/example/seshat/seshat/registry/WildcardsMatchesPinLaw", "pick", "(IIII)I"⟩ : MethodName)) hown (mvT hZ (hw _ (List.mem_of_getElem? (i := 1) rfl))) (mvT hZ (hw _ (List.mem_of_getElem? (i := 2) rfl))) (mvT hZ (hw _ (List.mem_of_getElem? (i := 3) rfl))) (mvT hZ (hw _ (List.mem_of_getElem? (i := 4) rfl))) (by decide) (backOf (W := 2) (rm_pick l Z a0 hw [] ((i0).toUInt32 >>> ((14 : Int32) &&& 31).toUInt32).toInt32 i1 i2 i3 h10 n0 Z10) hZ (hw _ (List.mem_of_getElem? (i := 4) rfl)) (hw _ (List.mem_of_getElem? (i := 3) rfl)) (by decide) (by decide)) (g := (mkF m 94 #[.val (.int i0), .val (.int i1), .val (.int i2), .val (.int i3), .val (.int np), .val (.int nt), .val (.ref pp), .val (.ref tt), .unset, .unset, .unset] [(.int i3), (.int i2), (.int i1), (.int ((i0).toUInt32 >>> ((14 : Int32) &&& 31).toUInt32).toInt32), (.int (0 : Int32)), (.ref tt)])) rfl (by rw [hml]; rfl) (argsL := [(.int ((i0).toUInt32 >>> ((14 : Int32) &&& 31).toUInt32).toInt32), (.int i1), (.int i2), (.int i3)]) (rest := [(.int (0 : Int32)), (.ref tt)]) (lenOf pd1 rfl) rfl (by show 2 * 0 + _ ≤ _; exact Nat.le_of_eq rfl) (hb hby at_94) (fun _ _ => ⟨rfl, e10, (by decide : 2 + 0 ≤ _), (by decide : 8 + 0 ≤ _)⟩)
  dsimp only [Pt.U, Pt.locs, Pt.cells, Pt.slots] at X11 l11 y11 z11 st11 hQ11
  subst l11 y11 z11
  obtain ⟨u0, rfl, N11, e11⟩ := hQ11
  have Y11 : Stand p l e room_1 s m #[.int i0, .int i1, .int i2, .int i3] below meth c T11 [] 2 8 := (X11.dropFresh (fun xz hxz => by rw [hh, ← hn0]; exact N11 xz hxz)).mono (by decide) (by decide)
  refine EndsK.go st11 ?_
  show EndsK p e below _ (T11.setTop (mkF m 97 #[.val (.int i0), .val (.int i1), .val (.int i2), .val (.int i3), .val (.int np), .val (.int nt), .val (.ref pp), .val (.ref tt), .unset, .unset, .unset] [(.int u0), (.int (0 : Int32)), (.ref tt)]))
  obtain ⟨c12, B12, q112, Sz12, q312, Hh12, Gh12⟩ := V10_tt
  obtain ⟨T12, h12, X12, e12, W12, st12⟩ := stI Y11 hx hZ e11 B12 (j := (0 : Int32)) (inb_of Sz12 ⟨by decide, by decide⟩) (g := (mkF m 97 #[.val (.int i0), .val (.int i1), .val (.int i2), .val (.int i3), .val (.int np), .val (.int nt), .val (.ref pp), .val (.ref tt), .unset, .unset, .unset] [(.int u0), (.int (0 : Int32)), (.ref tt)])) rfl rfl (hb hby at_97)
  have V12 : Arv Z h12 tt c2 .int (4 : Int32) [(.int u0), (.int (0 : Int32)), (.int (0 : Int32)), (.int (0 : Int32))] (.int (0 : Int32)) := Arv.set B12 q112 Sz12 q312 Hh12 Gh12 rfl W12 0 rfl (Nat.le_of_ble_eq_true rfl)
  refine EndsK.go st12 ?_
  have V12_pp := V10.other W12 ne_pp_tt
  have Z12 : n0 ≤ h12.size := Nat.le_trans Z10 (Nat.le_of_eq W12.size.symm)
  have P12 := ext_wr P10 W12 sz_tt
  have Y12 : Stand p l e room_1 s m #[.int i0, .int i1, .int i2, .int i3] below meth c T12 [] 2 8 := (X12.dropFresh (fun xz hxz => by cases List.mem_singleton.mp hxz; rw [hh]; exact sz_tt)).mono (by decide) (by decide)
  show EndsK p e below _ (T12.setTop (mkF m 98 #[.val (.int i0), .val (.int i1), .val (.int i2), .val (.int i3), .val (.int np), .val (.int nt), .val (.ref pp), .val (.ref tt), .unset, .unset, .unset] []))
  refine EndsK.go (fun _ kz => XS.aload Y12.here hx rfl (hb hby at_98) rfl rfl kz) ?_
  show EndsK p e below _ (T12.setTop (mkF m 100 #[.val (.int i0), .val (.int i1), .val (.int i2), .val (.int i3), .val (.int np), .val (.int nt), .val (.ref pp), .val (.ref tt), .unset, .unset, .unset] [(.ref tt)]))
  refine EndsK.go (fun _ kz => XS.iconst Y12.here hx rfl (hb hby at_100) kz) ?_
  show EndsK p e below _ (T12.setTop (mkF m 101 #[.val (.int i0), .val (.int i1), .val (.int i2), .val (.int i3), .val (.int np), .val (.int nt), .val (.ref pp), .val (.ref tt), .unset, .unset, .unset] [(.int (1 : Int32)), (.ref tt)]))
  refine EndsK.go (fun _ kz => XS.iloadN Y12.here hx rfl (hb hby at_101) rfl kz) ?_
  show EndsK p e below _ (T12.setTop (mkF m 102 #[.val (.int i0), .val (.int i1), .val (.int i2), .val (.int i3), .val (.int np), .val (.int nt), .val (.ref pp), .val (.ref tt), .unset, .unset, .unset] [(.int i0), (.int (1 : Int32)), (.ref tt)]))
  refine EndsK.go (fun _ kz => XS.bipush Y12.here hx rfl (hb hby at_102) kz) ?_
  show EndsK p e below _ (T12.setTop (mkF m 104 #[.val (.int i0), .val (.int i1), .val (.int i2), .val (.int i3), .val (.int np), .val (.int nt), .val (.ref pp), .val (.ref tt), .unset, .unset, .unset] [(.int (16 : Int32)), (.int i0), (.int (1 : Int32)), (.ref tt)]))
  refine EndsK.go (fun _ kz => XS.iushr Y12.here hx rfl (hb hby at_104) rfl kz) ?_
  show EndsK p e below _ (T12.setTop (mkF m 105 #[.val (.int i0), .val (.int i1), .val (.int i2), .val (.int i3), .val (.int np), .val (.int nt), .val (.ref pp), .val (.ref tt), .unset, .unset, .unset] [(.int ((i0).toUInt32 >>> ((16 : Int32) &&& 31).toUInt32).toInt32), (.int (1 : Int32)), (.ref tt)]))
  refine EndsK.go (fun _ kz => XS.iloadN Y12.here hx rfl (hb hby at_105) rfl kz) ?_
  show EndsK p e below _ (T12.setTop (mkF m 106 #[.val (.int i0), .val (.int i1), .val (.int i2), .val (.int i3), .val (.int np), .val (.int nt), .val (.ref pp), .val (.ref tt), .unset, .unset, .unset] [(.int i1), (.int ((i0).toUInt32 >>> ((16 : Int32) &&& 31).toUInt32).toInt32), (.int (1 : Int32)), (.ref tt)]))
  refine EndsK.go (fun _ kz => XS.iloadN Y12.here hx rfl (hb hby at_106) rfl kz) ?_
  show EndsK p e below _ (T12.setTop (mkF m 107 #[.val (.int i0), .val (.int i1), .val (.int i2), .val (.int i3), .val (.int np), .val (.int nt), .val (.ref pp), .val (.ref tt), .unset, .unset, .unset] [(.int i2), (.int i1), (.int ((i0).toUInt32 >>> ((16 : Int32) &&& 31).toUInt32).toInt32), (.int (1 : Int32)), (.ref tt)]))
  refine EndsK.go (fun _ kz => XS.iloadN Y12.here hx rfl (hb hby at_107) rfl kz) ?_
  show EndsK p e below _ (T12.setTop (mkF m 108 #[.val (.int i0), .val (.int i1), .val (.int i2), .val (.int i3), .val (.int np), .val (.int nt), .val (.ref pp), .val (.ref tt), .unset, .unset, .unset] [(.int i3), (.int i2), (.int i1), (.int ((i0).toUInt32 >>> ((16 : Int32) &&& 31).toUInt32).toInt32), (.int (1 : Int32)), (.ref tt)]))
  obtain ⟨_, _, ⟨T13, L13, k13, n13⟩, -, X13, ⟨Lc13, hQ13, l13, y13, z13⟩, st13⟩ := Jvm.LawKit.callS Y12 hx (y := (⟨"com/example/seshat/seshat/registry/WildcardsMatchesPinLaw", "pick", "(IIII)I"⟩ : MethodName)) hown (mvT hZ (hw _ (List.mem_of_getElem? (i := 1) rfl))) (mvT hZ (hw _ (List.mem_of_getElem? (i := 2) rfl))) (mvT hZ (hw _ (List.mem_of_getElem? (i := 3) rfl))) (mvT hZ (hw _ (List.mem_of_getElem? (i := 4) rfl))) (by decide) (backOf (W := 2) (rm_pick l Z a0 hw [] ((i0).toUInt32 >>> ((16 : Int32) &&& 31).toUInt32).toInt32 i1 i2 i3 h12 n0 Z12) hZ (hw _ (List.mem_of_getElem? (i := 4) rfl)) (hw _ (List.mem_of_getElem? (i := 3) rfl)) (by decide) (by decide)) (g := (mkF m 108 #[.val (.int i0), .val (.int i1), .val (.int i2), .val (.int i3), .val (.int np), .val (.int nt), .val (.ref pp), .val (.ref tt), .unset, .unset, .unset] [(.int i3), (.int i2), (.int i1), (.int ((i0).toUInt32 >>> ((16 : Int32) &&& 31).toUInt32).toInt32), (.int (1 : Int32)), (.ref tt)])) rfl (by rw [hml]; rfl) (argsL := [(.int ((i0).toUInt32 >>> ((16 : Int32) &&& 31).toUInt32).toInt32), (.int i1), (.int i2), (.int i3)]) (rest := [(.int (1 : Int32)), (.ref tt)]) (lenOf pd1 rfl) rfl (by show 2 * 0 + _ ≤ _; exact Nat.le_of_eq rfl) (hb hby at_108) (fun _ _ => ⟨rfl, e12, (by decide : 2 + 0 ≤ _), (by decide : 8 + 0 ≤ _)⟩)
  dsimp only [Pt.U, Pt.locs, Pt.cells, Pt.slots] at X13 l13 y13 z13 st13 hQ13
  subst l13 y13 z13
  obtain ⟨u1, rfl, N13, e13⟩ := hQ13
  have Y13 : Stand p l e room_1 s m #[.int i0, .int i1, .int i2, .int i3] below meth c T13 [] 2 8 := (X13.dropFresh (fun xz hxz => by rw [hh, ← hn0]; exact N13 xz hxz)).mono (by decide) (by decide)
  refine EndsK.go st13 ?_
  show EndsK p e below _ (T13.setTop (mkF m 111 #[.val (.int i0), .val (.int i1), .val (.int i2), .val (.int i3), .val (.int np), .val (.int nt), .val (.ref pp), .val (.ref tt), .unset, .unset, .unset] [(.int u1), (.int (1 : Int32)), (.ref tt)]))
  obtain ⟨c14, B14, q114, Sz14, q314, Hh14, Gh14⟩ := V12
  obtain ⟨T14, h14, X14, e14, W14, st14⟩ := stI Y13 hx hZ e13 B14 (j := (1 : Int32)) (inb_of Sz14 ⟨by decide, by decide⟩) (g := (mkF m 111 #[.val (.int i0), .val (.int i1), .val (.int i2), .val (.int i3), .val (.int np), .val (.int nt), .val (.ref pp), .val (.ref tt), .unset, .unset, .unset] [(.int u1), (.int (1 : Int32)), (.ref tt)])) rfl rfl (hb hby at_111)
  have V14 : Arv Z h14 tt c2 .int (4 : Int32) [(.int u0), (.int u1), (.int (0 : Int32)), (.int (0 : Int32))] (.int (0 : Int32)) := Arv.set B14 q114 Sz14 q314 Hh14 Gh14 rfl W14 1 rfl (Nat.le_of_ble_eq_true rfl)
  refine EndsK.go st14 ?_
  have V14_pp := V12_pp.other W14 ne_pp_tt
  have Z14 : n0 ≤ h14.size := Nat.le_trans Z12 (Nat.le_of_eq W14.size.symm)
  have P14 := ext_wr P12 W14 sz_tt
  have Y14 : Stand p l e room_1 s m #[.int i0, .int i1, .int i2, .int i3] below meth c T14 [] 2 8 := (X14.dropFresh (fun xz hxz => by cases List.mem_singleton.mp hxz; rw [hh]; exact sz_tt)).mono (by decide) (by decide)
  show EndsK p e below _ (T14.setTop (mkF m 112 #[.val (.int i0), .val (.int i1), .val (.int i2), .val (.int i3), .val (.int np), .val (.int nt), .val (.ref pp), .val (.ref tt), .unset, .unset, .unset] []))
  refine EndsK.go (fun _ kz => XS.aload Y14.here hx rfl (hb hby at_112) rfl rfl kz) ?_
  show EndsK p e below _ (T14.setTop (mkF m 114 #[.val (.int i0), .val (.int i1), .val (.int i2), .val (.int i3), .val (.int np), .val (.int nt), .val (.ref pp), .val (.ref tt), .unset, .unset, .unset] [(.ref tt)]))
  refine EndsK.go (fun _ kz => XS.iconst Y14.here hx rfl (hb hby at_114) kz) ?_
  show EndsK p e below _ (T14.setTop (mkF m 115 #[.val (.int i0), .val (.int i1), .val (.int i2), .val (.int i3), .val (.int np), .val (.int nt), .val (.ref pp), .val (.ref tt), .unset, .unset, .unset] [(.int (2 : Int32)), (.ref tt)]))
  refine EndsK.go (fun _ kz => XS.iloadN Y14.here hx rfl (hb hby at_115) rfl kz) ?_
  show EndsK p e below _ (T14.setTop (mkF m 116 #[.val (.int i0), .val (.int i1), .val (.int i2), .val (.int i3), .val (.int np), .val (.int nt), .val (.ref pp), .val (.ref tt), .unset, .unset, .unset] [(.int i0), (.int (2 : Int32)), (.ref tt)]))
  refine EndsK.go (fun _ kz => XS.bipush Y14.here hx rfl (hb hby at_116) kz) ?_
  show EndsK p e below _ (T14.setTop (mkF m 118 #[.val (.int i0), .val (.int i1), .val (.int i2), .val (.int i3), .val (.int np), .val (.int nt), .val (.ref pp), .val (.ref tt), .unset, .unset, .unset] [(.int (18 : Int32)), (.int i0), (.int (2 : Int32)), (.ref tt)]))
  refine EndsK.go (fun _ kz => XS.iushr Y14.here hx rfl (hb hby at_118) rfl kz) ?_
  show EndsK p e below _ (T14.setTop (mkF m 119 #[.val (.int i0), .val (.int i1), .val (.int i2), .val (.int i3), .val (.int np), .val (.int nt), .val (.ref pp), .val (.ref tt), .unset, .unset, .unset] [(.int ((i0).toUInt32 >>> ((18 : Int32) &&& 31).toUInt32).toInt32), (.int (2 : Int32)), (.ref tt)]))
  refine EndsK.go (fun _ kz => XS.iloadN Y14.here hx rfl (hb hby at_119) rfl kz) ?_
  show EndsK p e below _ (T14.setTop (mkF m 120 #[.val (.int i0), .val (.int i1), .val (.int i2), .val (.int i3), .val (.int np), .val (.int nt), .val (.ref pp), .val (.ref tt), .unset, .unset, .unset] [(.int i1), (.int ((i0).toUInt32 >>> ((18 : Int32) &&& 31).toUInt32).toInt32), (.int (2 : Int32)), (.ref tt)]))
  refine EndsK.go (fun _ kz => XS.iloadN Y14.here hx rfl (hb hby at_120) rfl kz) ?_
  show EndsK p e below _ (T14.setTop (mkF m 121 #[.val (.int i0), .val (.int i1), .val (.int i2), .val (.int i3), .val (.int np), .val (.int nt), .val (.ref pp), .val (.ref tt), .unset, .unset, .unset] [(.int i2), (.int i1), (.int ((i0).toUInt32 >>> ((18 : Int32) &&& 31).toUInt32).toInt32), (.int (2 : Int32)), (.ref tt)]))
  refine EndsK.go (fun _ kz => XS.iloadN Y14.here hx rfl (hb hby at_121) rfl kz) ?_
  show EndsK p e below _ (T14.setTop (mkF m 122 #[.val (.int i0), .val (.int i1), .val (.int i2), .val (.int i3), .val (.int np), .val (.int nt), .val (.ref pp), .val (.ref tt), .unset, .unset, .unset] [(.int i3), (.int i2), (.int i1), (.int ((i0).toUInt32 >>> ((18 : Int32) &&& 31).toUInt32).toInt32), (.int (2 : Int32)), (.ref tt)]))
  obtain ⟨_, _, ⟨T15, L15, k15, n15⟩, -, X15, ⟨Lc15, hQ15, l15, y15, z15⟩, st15⟩ := Jvm.LawKit.callS Y14 hx (y := (⟨"com/example/seshat/seshat/registry/WildcardsMatchesPinLaw", "pick", "(IIII)I"⟩ : MethodName)) hown (mvT hZ (hw _ (List.mem_of_getElem? (i := 1) rfl))) (mvT hZ (hw _ (List.mem_of_getElem? (i := 2) rfl))) (mvT hZ (hw _ (List.mem_of_getElem? (i := 3) rfl))) (mvT hZ (hw _ (List.mem_of_getElem? (i := 4) rfl))) (by decide) (backOf (W := 2) (rm_pick l Z a0 hw [] ((i0).toUInt32 >>> ((18 : Int32) &&& 31).toUInt32).toInt32 i1 i2 i3 h14 n0 Z14) hZ (hw _ (List.mem_of_getElem? (i := 4) rfl)) (hw _ (List.mem_of_getElem? (i := 3) rfl)) (by decide) (by decide)) (g := (mkF m 122 #[.val (.int i0), .val (.int i1), .val (.int i2), .val (.int i3), .val (.int np), .val (.int nt), .val (.ref pp), .val (.ref tt), .unset, .unset, .unset] [(.int i3), (.int i2), (.int i1), (.int ((i0).toUInt32 >>> ((18 : Int32) &&& 31).toUInt32).toInt32), (.int (2 : Int32)), (.ref tt)])) rfl (by rw [hml]; rfl) (argsL := [(.int ((i0).toUInt32 >>> ((18 : Int32) &&& 31).toUInt32).toInt32), (.int i1), (.int i2), (.int i3)]) (rest := [(.int (2 : Int32)), (.ref tt)]) (lenOf pd1 rfl) rfl (by show 2 * 0 + _ ≤ _; exact Nat.le_of_eq rfl) (hb hby at_122) (fun _ _ => ⟨rfl, e14, (by decide : 2 + 0 ≤ _), (by decide : 8 + 0 ≤ _)⟩)
  dsimp only [Pt.U, Pt.locs, Pt.cells, Pt.slots] at X15 l15 y15 z15 st15 hQ15
  subst l15 y15 z15
  obtain ⟨u2, rfl, N15, e15⟩ := hQ15
  have Y15 : Stand p l e room_1 s m #[.int i0, .int i1, .int i2, .int i3] below meth c T15 [] 2 8 := (X15.dropFresh (fun xz hxz => by rw [hh, ← hn0]; exact N15 xz hxz)).mono (by decide) (by decide)
  refine EndsK.go st15 ?_
  show EndsK p e below _ (T15.setTop (mkF m 125 #[.val (.int i0), .val (.int i1), .val (.int i2), .val (.int i3), .val (.int np), .val (.int nt), .val (.ref pp), .val (.ref tt), .unset, .unset, .unset] [(.int u2), (.int (2 : Int32)), (.ref tt)]))
  obtain ⟨c16, B16, q116, Sz16, q316, Hh16, Gh16⟩ := V14
  obtain ⟨T16, h16, X16, e16, W16, st16⟩ := stI Y15 hx hZ e15 B16 (j := (2 : Int32)) (inb_of Sz16 ⟨by decide, by decide⟩) (g := (mkF m 125 #[.val (.int i0), .val (.int i1), .val (.int i2), .val (.int i3), .val (.int np), .val (.int nt), .val (.ref pp), .val (.ref tt), .unset, .unset, .unset] [(.int u2), (.int (2 : Int32)), (.ref tt)])) rfl rfl (hb hby at_125)
  have V16 : Arv Z h16 tt c2 .int (4 : Int32) [(.int u0), (.int u1), (.int u2), (.int (0 : Int32))] (.int (0 : Int32)) := Arv.set B16 q116 Sz16 q316 Hh16 Gh16 rfl W16 2 rfl (Nat.le_of_ble_eq_true rfl)
  refine EndsK.go st16 ?_
  have V16_pp := V14_pp.other W16 ne_pp_tt
  have Z16 : n0 ≤ h16.size := Nat.le_trans Z14 (Nat.le_of_eq W16.size.symm)
  have P16 := ext_wr P14 W16 sz_tt
  have Y16 : Stand p l e room_1 s m #[.int i0, .int i1, .int i2, .int i3] below meth c T16 [] 2 8 := (X16.dropFresh (fun xz hxz => by cases List.mem_singleton.mp hxz; rw [hh]; exact sz_tt)).mono (by decide) (by decide)
  show EndsK p e below _ (T16.setTop (mkF m 126 #[.val (.int i0), .val (.int i1), .val (.int i2), .val (.int i3), .val (.int np), .val (.int nt), .val (.ref pp), .val (.ref tt), .unset, .unset, .unset] []))
  refine EndsK.go (fun _ kz => XS.aload Y16.here hx rfl (hb hby at_126) rfl rfl kz) ?_
  show EndsK p e below _ (T16.setTop (mkF m 128 #[.val (.int i0), .val (.int i1), .val (.int i2), .val (.int i3), .val (.int np), .val (.int nt), .val (.ref pp), .val (.ref tt), .unset, .unset, .unset] [(.ref tt)]))
  refine EndsK.go (fun _ kz => XS.iconst Y16.here hx rfl (hb hby at_128) kz) ?_
  show EndsK p e below _ (T16.setTop (mkF m 129 #[.val (.int i0), .val (.int i1), .val (.int i2), .val (.int i3), .val (.int np), .val (.int nt), .val (.ref pp), .val (.ref tt), .unset, .unset, .unset] [(.int (3 : Int32)), (.ref tt)]))
  refine EndsK.go (fun _ kz => XS.iloadN Y16.here hx rfl (hb hby at_129) rfl kz) ?_
  show EndsK p e below _ (T16.setTop (mkF m 130 #[.val (.int i0), .val (.int i1), .val (.int i2), .val (.int i3), .val (.int np), .val (.int nt), .val (.ref pp), .val (.ref tt), .unset, .unset, .unset] [(.int i0), (.int (3 : Int32)), (.ref tt)]))
  refine EndsK.go (fun _ kz => XS.bipush Y16.here hx rfl (hb hby at_130) kz) ?_
  show EndsK p e below _ (T16.setTop (mkF m 132 #[.val (.int i0), .val (.int i1), .val (.int i2), .val (.int i3), .val (.int np), .val (.int nt), .val (.ref pp), .val (.ref tt), .unset, .unset, .unset] [(.int (20 : Int32)), (.int i0), (.int (3 : Int32)), (.ref tt)]))
  refine EndsK.go (fun _ kz => XS.iushr Y16.here hx rfl (hb hby at_132) rfl kz) ?_
  show EndsK p e below _ (T16.setTop (mkF m 133 #[.val (.int i0), .val (.int i1), .val (.int i2), .val (.int i3), .val (.int np), .val (.int nt), .val (.ref pp), .val (.ref tt), .unset, .unset, .unset] [(.int ((i0).toUInt32 >>> ((20 : Int32) &&& 31).toUInt32).toInt32), (.int (3 : Int32)), (.ref tt)]))
  refine EndsK.go (fun _ kz => XS.iloadN Y16.here hx rfl (hb hby at_133) rfl kz) ?_
  show EndsK p e below _ (T16.setTop (mkF m 134 #[.val (.int i0), .val (.int i1), .val (.int i2), .val (.int i3), .val (.int np), .val (.int nt), .val (.ref pp), .val (.ref tt), .unset, .unset, .unset] [(.int i1), (.int ((i0).toUInt32 >>> ((20 : Int32) &&& 31).toUInt32).toInt32), (.int (3 : Int32)), (.ref tt)]))
  refine EndsK.go (fun _ kz => XS.iloadN Y16.here hx rfl (hb hby at_134) rfl kz) ?_
  show EndsK p e below _ (T16.setTop (mkF m 135 #[.val (.int i0), .val (.int i1), .val (.int i2), .val (.int i3), .val (.int np), .val (.int nt), .val (.ref pp), .val (.ref tt), .unset, .unset, .unset] [(.int i2), (.int i1), (.int ((i0).toUInt32 >>> ((20 : Int32) &&& 31).toUInt32).toInt32), (.int (3 : Int32)), (.ref tt)]))
  refine EndsK.go (fun _ kz => XS.iloadN Y16.here hx rfl (hb hby at_135) rfl kz) ?_
  show EndsK p e below _ (T16.setTop (mkF m 136 #[.val (.int i0), .val (.int i1), .val (.int i2), .val (.int i3), .val (.int np), .val (.int nt), .val (.ref pp), .val (.ref tt), .unset, .unset, .unset] [(.int i3), (.int i2), (.int i1), (.int ((i0).toUInt32 >>> ((20 : Int32) &&& 31).toUInt32).toInt32), (.int (3 : Int32)), (.ref tt)]))
  obtain ⟨_, _, ⟨T17, L17, k17, n17⟩, -, X17, ⟨Lc17, hQ17, l17, y17, z17⟩, st17⟩ := Jvm.LawKit.callS Y16 hx (y := (⟨"com/example/seshat/seshat/registry/WildcardsMatchesPinLaw", "pick", "(IIII)I"⟩ : MethodName)) hown (mvT hZ (hw _ (List.mem_of_getElem? (i := 1) rfl))) (mvT hZ (hw _ (List.mem_of_getElem? (i := 2) rfl))) (mvT hZ (hw _ (List.mem_of_getElem? (i := 3) rfl))) (mvT hZ (hw _ (List.mem_of_getElem? (i := 4) rfl))) (by decide) (backOf (W := 2) (rm_pick l Z a0 hw [] ((i0).toUInt32 >>> ((20 : Int32) &&& 31).toUInt32).toInt32 i1 i2 i3 h16 n0 Z16) hZ (hw _ (List.mem_of_getElem? (i := 4) rfl)) (hw _ (List.mem_of_getElem? (i := 3) rfl)) (by decide) (by decide)) (g := (mkF m 136 #[.val (.int i0), .val (.int i1), .val (.int i2), .val (.int i3), .val (.int np), .val (.int nt), .val (.ref pp), .val (.ref tt), .unset, .unset, .unset] [(.int i3), (.int i2), (.int i1), (.int ((i0).toUInt32 >>> ((20 : Int32) &&& 31).toUInt32).toInt32), (.int (3 : Int32)), (.ref tt)])) rfl (by rw [hml]; rfl) (argsL := [(.int ((i0).toUInt32 >>> ((20 : Int32) &&& 31).toUInt32).toInt32), (.int i1), (.int i2), (.int i3)]) (rest := [(.int (3 : Int32)), (.ref tt)]) (lenOf pd1 rfl) rfl (by show 2 * 0 + _ ≤ _; exact Nat.le_of_eq rfl) (hb hby at_136) (fun _ _ => ⟨rfl, e16, (by decide : 2 + 0 ≤ _), (by decide : 8 + 0 ≤ _)⟩)
  dsimp only [Pt.U, Pt.locs, Pt.cells, Pt.slots] at X17 l17 y17 z17 st17 hQ17
  subst l17 y17 z17
  obtain ⟨u3, rfl, N17, e17⟩ := hQ17
  have Y17 : Stand p l e room_1 s m #[.int i0, .int i1, .int i2, .int i3] below meth c T17 [] 2 8 := (X17.dropFresh (fun xz hxz => by rw [hh, ← hn0]; exact N17 xz hxz)).mono (by decide) (by decide)
  refine EndsK.go st17 ?_
  show EndsK p e below _ (T17.setTop (mkF m 139 #[.val (.int i0), .val (.int i1), .val (.int i2), .val (.int i3), .val (.int np), .val (.int nt), .val (.ref pp), .val (.ref tt), .unset, .unset, .unset] [(.int u3), (.int (3 : Int32)), (.ref tt)]))
  obtain ⟨c18, B18, q118, Sz18, q318, Hh18, Gh18⟩ := V16
  obtain ⟨T18, h18, X18, e18, W18, st18⟩ := stI Y17 hx hZ e17 B18 (j := (3 : Int32)) (inb_of Sz18 ⟨by decide, by decide⟩) (g := (mkF m 139 #[.val (.int i0), .val (.int i1), .val (.int i2), .val (.int i3), .val (.int np), .val (.int nt), .val (.ref pp), .val (.ref tt), .unset, .unset, .unset] [(.int u3), (.int (3 : Int32)), (.ref tt)])) rfl rfl (hb hby at_139)
  have V18 : Arv Z h18 tt c2 .int (4 : Int32) [(.int u0), (.int u1), (.int u2), (.int u3)] (.int (0 : Int32)) := Arv.set B18 q118 Sz18 q318 Hh18 Gh18 rfl W18 3 rfl (Nat.le_of_ble_eq_true rfl)
  refine EndsK.go st18 ?_
  have V18_pp := V16_pp.other W18 ne_pp_tt
  have Z18 : n0 ≤ h18.size := Nat.le_trans Z16 (Nat.le_of_eq W18.size.symm)
  have P18 := ext_wr P16 W18 sz_tt
  have Y18 : Stand p l e room_1 s m #[.int i0, .int i1, .int i2, .int i3] below meth c T18 [] 2 8 := (X18.dropFresh (fun xz hxz => by cases List.mem_singleton.mp hxz; rw [hh]; exact sz_tt)).mono (by decide) (by decide)
  show EndsK p e below _ (T18.setTop (mkF m 140 #[.val (.int i0), .val (.int i1), .val (.int i2), .val (.int i3), .val (.int np), .val (.int nt), .val (.ref pp), .val (.ref tt), .unset, .unset, .unset] []))
  refine EndsK.go (fun _ kz => XS.aload Y18.here hx rfl (hb hby at_140) rfl rfl kz) ?_
  show EndsK p e below _ (T18.setTop (mkF m 142 #[.val (.int i0), .val (.int i1), .val (.int i2), .val (.int i3), .val (.int np), .val (.int nt), .val (.ref pp), .val (.ref tt), .unset, .unset, .unset] [(.ref pp)]))
  refine EndsK.go (fun _ kz => XS.iload Y18.here hx rfl (hb hby at_142) rfl kz) ?_
  show EndsK p e below _ (T18.setTop (mkF m 144 #[.val (.int i0), .val (.int i1), .val (.int i2), .val (.int i3), .val (.int np), .val (.int nt), .val (.ref pp), .val (.ref tt), .unset, .unset, .unset] [(.int np), (.ref pp)]))
  obtain ⟨_, _, ⟨T19, L19, k19, n19⟩, -, X19, ⟨Lc19, hQ19, l19, y19, z19⟩, st19⟩ := Jvm.LawKit.callS Y18 hx (y := (⟨"com/example/seshat/seshat/registry/WildcardsMatchesPinLaw", "take", "([II)[I"⟩ : MethodName)) hown (mvT hZ (hw _ (List.mem_of_getElem? (i := 5) rfl))) (mvT hZ (hw _ (List.mem_of_getElem? (i := 6) rfl))) (mvT hZ (hw _ (List.mem_of_getElem? (i := 3) rfl))) (mvT hZ (hw _ (List.mem_of_getElem? (i := 7) rfl))) (by decide) (backOf (W := 0) (rm_take l Z a0 hw [] pp np c1 x0 x1 x2 x3 h18 n0 Z18 bp.1 bp.2 V18_pp) hZ (hw _ (List.mem_of_getElem? (i := 7) rfl)) (hw _ (List.mem_of_getElem? (i := 3) rfl)) (by decide) (by decide)) (g := (mkF m 144 #[.val (.int i0), .val (.int i1), .val (.int i2), .val (.int i3), .val (.int np), .val (.int nt), .val (.ref pp), .val (.ref tt), .unset, .unset, .unset] [(.int np), (.ref pp)])) rfl (by rw [hml]; rfl) (argsL := [(.ref pp), (.int np)]) (rest := []) (lenOf pd2 rfl) rfl (by show 2 * 0 + _ ≤ _; exact Nat.le_of_eq rfl) (hb hby at_144) (fun _ _ => ⟨rfl, e18, (by decide : 2 + 1 ≤ _), (by decide : 8 + 4 ≤ _)⟩)
  dsimp only [Pt.U, Pt.locs, Pt.cells, Pt.slots] at X19 l19 y19 z19 st19 hQ19
  subst l19 y19 z19
  obtain ⟨pat, kc19, rfl, N19, E19, V19⟩ := hQ19
  obtain ⟨h19, e19⟩ : ∃ z, T19.heap = z := ⟨_, rfl⟩
  rw [e19] at E19 V19
  have Y19 : Stand p l e room_1 s m #[.int i0, .int i1, .int i2, .int i3] below meth c T19 [] 3 12 := (X19.dropFresh (fun xz hxz => by rw [hh, ← hn0]; exact N19 xz hxz)).mono (by decide) (by decide)
  have V19_pp := V18_pp.ext E19
  have V19_tt := V18.ext E19
  have P19 := ext_trans P18 E19
  have Z19 : n0 ≤ h19.size := Nat.le_trans Z0 P19.1
  refine EndsK.go st19 ?_
  show EndsK p e below _ (T19.setTop (mkF m 147 #[.val (.int i0), .val (.int i1), .val (.int i2), .val (.int i3), .val (.int np), .val (.int nt), .val (.ref pp), .val (.ref tt), .unset, .unset, .unset] [(.ref pat)]))
  refine EndsK.go (fun _ kz => XS.astore Y19.here hx rfl (hb hby at_147) rfl rfl (l' := #[.val (.int i0), .val (.int i1), .val (.int i2), .val (.int i3), .val (.int np), .val (.int nt), .val (.ref pp), .val (.ref tt), .val (.ref pat), .unset, .unset]) rfl kz) ?_
  show EndsK p e below _ (T19.setTop (mkF m 149 #[.val (.int i0), .val (.int i1), .val (.int i2), .val (.int i3), .val (.int np), .val (.int nt), .val (.ref pp), .val (.ref tt), .val (.ref pat), .unset, .unset] []))
  refine EndsK.go (fun _ kz => XS.aload Y19.here hx rfl (hb hby at_149) rfl rfl kz) ?_
  show EndsK p e below _ (T19.setTop (mkF m 151 #[.val (.int i0), .val (.int i1), .val (.int i2), .val (.int i3), .val (.int np), .val (.int nt), .val (.ref pp), .val (.ref tt), .val (.ref pat), .unset, .unset] [(.ref tt)]))
  refine EndsK.go (fun _ kz => XS.iload Y19.here hx rfl (hb hby at_151) rfl kz) ?_
  show EndsK p e below _ (T19.setTop (mkF m 153 #[.val (.int i0), .val (.int i1), .val (.int i2), .val (.int i3), .val (.int np), .val (.int nt), .val (.ref pp), .val (.ref tt), .val (.ref pat), .unset, .unset] [(.int nt), (.ref tt)]))
  obtain ⟨_, _, ⟨T20, L20, k20, n20⟩, -, X20, ⟨Lc20, hQ20, l20, y20, z20⟩, st20⟩ := Jvm.LawKit.callS Y19 hx (y := (⟨"com/example/seshat/seshat/registry/WildcardsMatchesPinLaw", "take", "([II)[I"⟩ : MethodName)) hown (mvT hZ (hw _ (List.mem_of_getElem? (i := 5) rfl))) (mvT hZ (hw _ (List.mem_of_getElem? (i := 6) rfl))) (mvT hZ (hw _ (List.mem_of_getElem? (i := 3) rfl))) (mvT hZ (hw _ (List.mem_of_getElem? (i := 7) rfl))) (by decide) (backOf (W := 0) (rm_take l Z a0 hw [] tt nt c2 u0 u1 u2 u3 h19 n0 Z19 bt.1 bt.2 V19_tt) hZ (hw _ (List.mem_of_getElem? (i := 7) rfl)) (hw _ (List.mem_of_getElem? (i := 3) rfl)) (by decide) (by decide)) (g := (mkF m 153 #[.val (.int i0), .val (.int i1), .val (.int i2), .val (.int i3), .val (.int np), .val (.int nt), .val (.ref pp), .val (.ref tt), .val (.ref pat), .unset, .unset] [(.int nt), (.ref tt)])) rfl (by rw [hml]; rfl) (argsL := [(.ref tt), (.int nt)]) (rest := []) (lenOf pd2 rfl) rfl (by show 2 * 0 + _ ≤ _; exact Nat.le_of_eq rfl) (hb hby at_153) (fun _ _ => ⟨rfl, e19, (by decide : 3 + 1 ≤ _), (by decide : 12 + 4 ≤ _)⟩)
  dsimp only [Pt.U, Pt.locs, Pt.cells, Pt.slots] at X20 l20 y20 z20 st20 hQ20
  subst l20 y20 z20
  obtain ⟨txt, kc20, rfl, N20, E20, V20⟩ := hQ20
  obtain ⟨h20, e20⟩ : ∃ z, T20.heap = z := ⟨_, rfl⟩
  rw [e20] at E20 V20
  have Y20 : Stand p l e room_1 s m #[.int i0, .int i1, .int i2, .int i3] below meth c T20 [] 4 16 := (X20.dropFresh (fun xz hxz => by rw [hh, ← hn0]; exact N20 xz hxz)).mono (by decide) (by decide)
  have V20_pp := V19_pp.ext E20
  have V20_tt := V19_tt.ext E20
  have V20_pat := V19.ext E20
  have P20 := ext_trans P19 E20
  have Z20 : n0 ≤ h20.size := Nat.le_trans Z0 P20.1
  refine EndsK.go st20 ?_
  show EndsK p e below _ (T20.setTop (mkF m 156 #[.val (.int i0), .val (.int i1), .val (.int i2), .val (.int i3), .val (.int np), .val (.int nt), .val (.ref pp), .val (.ref tt), .val (.ref pat), .unset, .unset] [(.ref txt)]))
  refine EndsK.go (fun _ kz => XS.astore Y20.here hx rfl (hb hby at_156) rfl rfl (l' := #[.val (.int i0), .val (.int i1), .val (.int i2), .val (.int i3), .val (.int np), .val (.int nt), .val (.ref pp), .val (.ref tt), .val (.ref pat), .val (.ref txt), .unset]) rfl kz) ?_
  show EndsK p e below _ (T20.setTop (mkF m 158 #[.val (.int i0), .val (.int i1), .val (.int i2), .val (.int i3), .val (.int np), .val (.int nt), .val (.ref pp), .val (.ref tt), .val (.ref pat), .val (.ref txt), .unset] []))
  refine EndsK.go (fun _ kz => XS.iconst Y20.here hx rfl (hb hby at_158) kz) ?_
  show EndsK p e below _ (T20.setTop (mkF m 159 #[.val (.int i0), .val (.int i1), .val (.int i2), .val (.int i3), .val (.int np), .val (.int nt), .val (.ref pp), .val (.ref tt), .val (.ref pat), .val (.ref txt), .unset] [(.int (5 : Int32))]))
  refine EndsK.go (fun _ kz => XS.iconst Y20.here hx rfl (hb hby at_159) kz) ?_
  show EndsK p e below _ (T20.setTop (mkF m 160 #[.val (.int i0), .val (.int i1), .val (.int i2), .val (.int i3), .val (.int np), .val (.int nt), .val (.ref pp), .val (.ref tt), .val (.ref pat), .val (.ref txt), .unset] [(.int (5 : Int32)), (.int (5 : Int32))]))
  obtain ⟨da, ga⟩ : ∃ z, z = h20.size := ⟨_, rfl⟩
  obtain ⟨xs, hxs⟩ : ∃ z, z = (List.range 5).map (fun j => h20.size + 1 + j) := ⟨_, rfl⟩
  obtain ⟨T21, h21, cA, comp, X21, e21, E21, V21, -, -, R21, st21⟩ := gridM Y20 hx hZ hown (C := "[Z") (ad := "[[Z") (ty := .boolean) (by decide) (by decide) (hw _ (List.mem_of_getElem? (i := 8) rfl)) (hw _ (List.mem_of_getElem? (i := 9) rfl)) (hw _ (List.mem_of_getElem? (i := 10) rfl)) e20 (g := (mkF m 160 #[.val (.int i0), .val (.int i1), .val (.int i2), .val (.int i3), .val (.int np), .val (.int nt), .val (.ref pp), .val (.ref tt), .val (.ref pat), .val (.ref txt), .unset] [(.int (5 : Int32)), (.int (5 : Int32))])) rfl (hb hby at_160) rfl (by decide) (by decide) (N := 5) rfl (xs := xs) hxs (cap := 5) (by decide) (by decide) (by decide) (by decide) (by decide) (by decide) (by decide)
  rw [← ga] at V21 st21 hxs
  refine EndsK.go st21 ?_
  have G0 : TabP Z h21 da cA xs (fun _ _ => 0) := ⟨V21, fun j x hj => ⟨_, (R21 j x hj).1, sz_new _ _ _, fun q hq => own_rep (n := 5) hq⟩⟩
  have Y21 : Stand p l e room_1 s m #[.int i0, .int i1, .int i2, .int i3] below meth c T21 [] 10 46 := X21.mono (by decide) (by decide)
  have lt_pp : pp < da := by rw [ga]; exact V20_pp.lt
  have lt_tt : tt < da := by rw [ga]; exact V20_tt.lt
  have lt_pat : pat < da := by rw [ga]; exact V20_pat.lt
  have lt_txt : txt < da := by rw [ga]; exact V20.lt
  have V21_pp := V20_pp.ext E21
  have V21_tt := V20_tt.ext E21
  have V21_pat := V20_pat.ext E21
  have V21_txt := V20.ext E21
  have P21 := ext_trans P20 E21
  have Z21 : n0 ≤ h21.size := Nat.le_trans Z0 P21.1
  have nda : n0 ≤ da := by rw [ga]; exact Z20
  have sda : h0.size ≤ da := by rw [ga]; exact P20.1
  show EndsK p e below _ (T21.setTop (mkF m 164 #[.val (.int i0), .val (.int i1), .val (.int i2), .val (.int i3), .val (.int np), .val (.int nt), .val (.ref pp), .val (.ref tt), .val (.ref pat), .val (.ref txt), .unset] [(.ref da)]))
  refine EndsK.go (fun _ kz => XS.astore Y21.here hx rfl (hb hby at_164) rfl rfl (l' := #[.val (.int i0), .val (.int i1), .val (.int i2), .val (.int i3), .val (.int np), .val (.int nt), .val (.ref pp), .val (.ref tt), .val (.ref pat), .val (.ref txt), .val (.ref da)]) rfl kz) ?_
  show EndsK p e below _ (T21.setTop (mkF m 166 #[.val (.int i0), .val (.int i1), .val (.int i2), .val (.int i3), .val (.int np), .val (.int nt), .val (.ref pp), .val (.ref tt), .val (.ref pat), .val (.ref txt), .val (.ref da)] []))
  refine EndsK.go (fun _ kz => XS.aload Y21.here hx rfl (hb hby at_166) rfl rfl kz) ?_
  show EndsK p e below _ (T21.setTop (mkF m 168 #[.val (.int i0), .val (.int i1), .val (.int i2), .val (.int i3), .val (.int np), .val (.int nt), .val (.ref pp), .val (.ref tt), .val (.ref pat), .val (.ref txt), .val (.ref da)] [(.ref pp)]))
  refine EndsK.go (fun _ kz => XS.iload Y21.here hx rfl (hb hby at_168) rfl kz) ?_
  show EndsK p e below _ (T21.setTop (mkF m 170 #[.val (.int i0), .val (.int i1), .val (.int i2), .val (.int i3), .val (.int np), .val (.int nt), .val (.ref pp), .val (.ref tt), .val (.ref pat), .val (.ref txt), .val (.ref da)] [(.int np), (.ref pp)]))
  refine EndsK.go (fun _ kz => XS.aload Y21.here hx rfl (hb hby at_170) rfl rfl kz) ?_
  show EndsK p e below _ (T21.setTop (mkF m 172 #[.val (.int i0), .val (.int i1), .val (.int i2), .val (.int i3), .val (.int np), .val (.int nt), .val (.ref pp), .val (.ref tt), .val (.ref pat), .val (.ref txt), .val (.ref da)] [(.ref tt), (.int np), (.ref pp)]))
  refine EndsK.go (fun _ kz => XS.iload Y21.here hx rfl (hb hby at_172) rfl kz) ?_
  show EndsK p e below _ (T21.setTop (mkF m 174 #[.val (.int i0), .val (.int i1), .val (.int i2), .val (.int i3), .val (.int np), .val (.int nt), .val (.ref pp), .val (.ref tt), .val (.ref pat), .val (.ref txt), .val (.ref da)] [(.int nt), (.ref tt), (.int np), (.ref pp)]))
  refine EndsK.go (fun _ kz => XS.iloadN Y21.here hx rfl (hb hby at_174) rfl kz) ?_
  show EndsK p e below _ (T21.setTop (mkF m 175 #[.val (.int i0), .val (.int i1), .val (.int i2), .val (.int i3), .val (.int np), .val (.int nt), .val (.ref pp), .val (.ref tt), .val (.ref pat), .val (.ref txt), .val (.ref da)] [(.int i3), (.int nt), (.ref tt), (.int np), (.ref pp)]))
  refine EndsK.go (fun _ kz => XS.aload Y21.here hx rfl (hb hby at_175) rfl rfl kz) ?_
  show EndsK p e below _ (T21.setTop (mkF m 177 #[.val (.int i0), .val (.int i1), .val (.int i2), .val (.int i3), .val (.int np), .val (.int nt), .val (.ref pp), .val (.ref tt), .val (.ref pat), .val (.ref txt), .val (.ref da)] [(.ref da), (.int i3), (.int nt), (.ref tt), (.int np), (.ref pp)]))
  refine EndsK.go (fun _ kz => XS.iconst Y21.here hx rfl (hb hby at_177) kz) ?_
  show EndsK p e below _ (T21.setTop (mkF m 178 #[.val (.int i0), .val (.int i1), .val (.int i2), .val (.int i3), .val (.int np), .val (.int nt), .val (.ref pp), .val (.ref tt), .val (.ref pat), .val (.ref txt), .val (.ref da)] [(.int (4 : Int32)), (.ref da), (.int i3), (.int nt), (.ref tt), (.int np), (.ref pp)]))
  obtain ⟨_, _, ⟨T22, L22, k22, n22⟩, -, X22, ⟨Lc22, hQ22, l22, y22, z22⟩, st22⟩ := Jvm.LawKit.callS Y21 hx (y := (⟨"com/example/seshat/seshat/registry/WildcardsMatchesPinLaw", "row", "([II[III[[ZI)V"⟩ : MethodName)) hown (mvT hZ (hw _ (List.mem_of_getElem? (i := 11) rfl))) (mvT hZ (hw _ (List.mem_of_getElem? (i := 12) rfl))) (mvT hZ (hw _ (List.mem_of_getElem? (i := 3) rfl))) (mvT hZ (hw _ (List.mem_of_getElem? (i := 13) rfl))) (by decide) (backOf (W := 0) (rm_row l Z a0 hw [] pp np tt nt i3 da (4 : Int32) c1 c2 cA [x0, x1, x2, x3] [u0, u1, u2, u3] xs (fun _ _ => 0) h21 n0 Z21 bp.1 bp.2 bt.1 bt.2 (by decide) (by decide) V21_pp V21_tt hxs G0 nda lt_pp lt_tt) hZ (hw _ (List.mem_of_getElem? (i := 13) rfl)) (hw _ (List.mem_of_getElem? (i := 3) rfl)) (by decide) (by decide)) (g := (mkF m 178 #[.val (.int i0), .val (.int i1), .val (.int i2), .val (.int i3), .val (.int np), .val (.int nt), .val (.ref pp), .val (.ref tt), .val (.ref pat), .val (.ref txt), .val (.ref da)] [(.int (4 : Int32)), (.ref da), (.int i3), (.int nt), (.ref tt), (.int np), (.ref pp)])) rfl (by rw [hml]; rfl) (argsL := [(.ref pp), (.int np), (.ref tt), (.int nt), (.int i3), (.ref da), (.int (4 : Int32))]) (rest := []) (lenOf pd3 rfl) rfl (by show 2 * 0 + _ ≤ _; exact Nat.le_of_eq rfl) (hb hby at_178) (fun _ _ => ⟨rfl, e21, (by decide : 10 + 0 ≤ _), (by decide : 46 + 0 ≤ _)⟩)
  dsimp only [Pt.U, Pt.locs, Pt.cells, Pt.slots] at X22 l22 y22 z22 st22 hQ22
  subst l22 y22 z22
  obtain ⟨rfl, N22, K22, G22⟩ := hQ22
  obtain ⟨h22, e22⟩ : ∃ z, T22.heap = z := ⟨_, rfl⟩
  rw [e22] at K22 G22
  have Y22 : Stand p l e room_1 s m #[.int i0, .int i1, .int i2, .int i3] below meth c T22 [] 10 46 := (X22.dropFresh (fun xz hxz => by rw [hh, ← hn0]; exact N22 xz hxz)).mono (by decide) (by decide)
  have P22 : Ext h0 h22 := ext_kept P21 K22 (allS (Nat.le_trans sda (Nat.le_trans (Nat.le_add_right da 1) (Nat.le_add_right _ _))) all0)
  have Z22 : n0 ≤ h22.size := Nat.le_trans Z0 P22.1
  have V22_pp := V21_pp.keep K22 (ninS (own_ne (by omega)) nin0)
  have V22_tt := V21_tt.keep K22 (ninS (own_ne (by omega)) nin0)
  have V22_pat := V21_pat.keep K22 (ninS (own_ne (by omega)) nin0)
  have V22_txt := V21_txt.keep K22 (ninS (own_ne (by omega)) nin0)
  refine EndsK.go st22 ?_
  show EndsK p e below _ (T22.setTop (mkF m 181 #[.val (.int i0), .val (.int i1), .val (.int i2), .val (.int i3), .val (.int np), .val (.int nt), .val (.ref pp), .val (.ref tt), .val (.ref pat), .val (.ref txt), .val (.ref da)] []))
  refine EndsK.go (fun _ kz => XS.aload Y22.here hx rfl (hb hby at_181) rfl rfl kz) ?_
  show EndsK p e below _ (T22.setTop (mkF m 183 #[.val (.int i0), .val (.int i1), .val (.int i2), .val (.int i3), .val (.int np), .val (.int nt), .val (.ref pp), .val (.ref tt), .val (.ref pat), .val (.ref txt), .val (.ref da)] [(.ref pp)]))
  refine EndsK.go (fun _ kz => XS.iload Y22.here hx rfl (hb hby at_183) rfl kz) ?_
  show EndsK p e below _ (T22.setTop (mkF m 185 #[.val (.int i0), .val (.int i1), .val (.int i2), .val (.int i3), .val (.int np), .val (.int nt), .val (.ref pp), .val (.ref tt), .val (.ref pat), .val (.ref txt), .val (.ref da)] [(.int np), (.ref pp)]))
  refine EndsK.go (fun _ kz => XS.aload Y22.here hx rfl (hb hby at_185) rfl rfl kz) ?_
  show EndsK p e below _ (T22.setTop (mkF m 187 #[.val (.int i0), .val (.int i1), .val (.int i2), .val (.int i3), .val (.int np), .val (.int nt), .val (.ref pp), .val (.ref tt), .val (.ref pat), .val (.ref txt), .val (.ref da)] [(.ref tt), (.int np), (.ref pp)]))
  refine EndsK.go (fun _ kz => XS.iload Y22.here hx rfl (hb hby at_187) rfl kz) ?_
  show EndsK p e below _ (T22.setTop (mkF m 189 #[.val (.int i0), .val (.int i1), .val (.int i2), .val (.int i3), .val (.int np), .val (.int nt), .val (.ref pp), .val (.ref tt), .val (.ref pat), .val (.ref txt), .val (.ref da)] [(.int nt), (.ref tt), (.int np), (.ref pp)]))
  refine EndsK.go (fun _ kz => XS.iloadN Y22.here hx rfl (hb hby at_189) rfl kz) ?_
  show EndsK p e below _ (T22.setTop (mkF m 190 #[.val (.int i0), .val (.int i1), .val (.int i2), .val (.int i3), .val (.int np), .val (.int nt), .val (.ref pp), .val (.ref tt), .val (.ref pat), .val (.ref txt), .val (.ref da)] [(.int i3), (.int nt), (.ref tt), (.int np), (.ref pp)]))
  refine EndsK.go (fun _ kz => XS.aload Y22.here hx rfl (hb hby at_190) rfl rfl kz) ?_
  show EndsK p e below _ (T22.setTop (mkF m 192 #[.val (.int i0), .val (.int i1), .val (.int i2), .val (.int i3), .val (.int np), .val (.int nt), .val (.ref pp), .val (.ref tt), .val (.ref pat), .val (.ref txt), .val (.ref da)] [(.ref da), (.int i3), (.int nt), (.ref tt), (.int np), (.ref pp)]))
  refine EndsK.go (fun _ kz => XS.iconst Y22.here hx rfl (hb hby at_192) kz) ?_
  show EndsK p e below _ (T22.setTop (mkF m 193 #[.val (.int i0), .val (.int i1), .val (.int i2), .val (.int i3), .val (.int np), .val (.int nt), .val (.ref pp), .val (.ref tt), .val (.ref pat), .val (.ref txt), .val (.ref da)] [(.int (3 : Int32)), (.ref da), (.int i3), (.int nt), (.ref tt), (.int np), (.ref pp)]))
  obtain ⟨_, _, ⟨T23, L23, k23, n23⟩, -, X23, ⟨Lc23, hQ23, l23, y23, z23⟩, st23⟩ := Jvm.LawKit.callS Y22 hx (y := (⟨"com/example/seshat/seshat/registry/WildcardsMatchesPinLaw", "row", "([II[III[[ZI)V"⟩ : MethodName)) hown (mvT hZ (hw _ (List.mem_of_getElem? (i := 11) rfl))) (mvT hZ (hw _ (List.mem_of_getElem? (i := 12) rfl))) (mvT hZ (hw _ (List.mem_of_getElem? (i := 3) rfl))) (mvT hZ (hw _ (List.mem_of_getElem? (i := 13) rfl))) (by decide) (backOf (W := 0) (rm_row l Z a0 hw [] pp np tt nt i3 da (3 : Int32) c1 c2 cA [x0, x1, x2, x3] [u0, u1, u2, u3] xs (rowF i3 np nt [x0, x1, x2, x3] [u0, u1, u2, u3] (fun _ _ => 0) (4 : Int32)) h22 n0 Z22 bp.1 bp.2 bt.1 bt.2 (by decide) (by decide) V22_pp V22_tt hxs G22 nda lt_pp lt_tt) hZ (hw _ (List.mem_of_getElem? (i := 13) rfl)) (hw _ (List.mem_of_getElem? (i := 3) rfl)) (by decide) (by decide)) (g := (mkF m 193 #[.val (.int i0), .val (.int i1), .val (.int i2), .val (.int i3), .val (.int np), .val (.int nt), .val (.ref pp), .val (.ref tt), .val (.ref pat), .val (.ref txt), .val (.ref da)] [(.int (3 : Int32)), (.ref da), (.int i3), (.int nt), (.ref tt), (.int np), (.ref pp)])) rfl (by rw [hml]; rfl) (argsL := [(.ref pp), (.int np), (.ref tt), (.int nt), (.int i3), (.ref da), (.int (3 : Int32))]) (rest := []) (lenOf pd3 rfl) rfl (by show 2 * 0 + _ ≤ _; exact Nat.le_of_eq rfl) (hb hby at_193) (fun _ _ => ⟨rfl, e22, (by decide : 10 + 0 ≤ _), (by decide : 46 + 0 ≤ _)⟩)
  dsimp only [Pt.U, Pt.locs, Pt.cells, Pt.slots] at X23 l23 y23 z23 st23 hQ23
  subst l23 y23 z23
  obtain ⟨rfl, N23, K23, G23⟩ := hQ23
  obtain ⟨h23, e23⟩ : ∃ z, T23.heap = z := ⟨_, rfl⟩
  rw [e23] at K23 G23
  have Y23 : Stand p l e room_1 s m #[.int i0, .int i1, .int i2, .int i3] below meth c T23 [] 10 46 := (X23.dropFresh (fun xz hxz => by rw [hh, ← hn0]; exact N23 xz hxz)).mono (by decide) (by decide)
  have P23 : Ext h0 h23 := ext_kept P22 K23 (allS (Nat.le_trans sda (Nat.le_trans (Nat.le_add_right da 1) (Nat.le_add_right _ _))) all0)
  have Z23 : n0 ≤ h23.size := Nat.le_trans Z0 P23.1
  have V23_pp := V22_pp.keep K23 (ninS (own_ne (by omega)) nin0)
  have V23_tt := V22_tt.keep K23 (ninS (own_ne (by omega)) nin0)
  have V23_pat := V22_pat.keep K23 (ninS (own_ne (by omega)) nin0)
  have V23_txt := V22_txt.keep K23 (ninS (own_ne (by omega)) nin0)
  refine EndsK.go st23 ?_
  show EndsK p e below _ (T23.setTop (mkF m 196 #[.val (.int i0), .val (.int i1), .val (.int i2), .val (.int i3), .val (.int np), .val (.int nt), .val (.ref pp), .val (.ref tt), .val (.ref pat), .val (.ref txt), .val (.ref da)] []))
  refine EndsK.go (fun _ kz => XS.aload Y23.here hx rfl (hb hby at_196) rfl rfl kz) ?_
  show EndsK p e below _ (T23.setTop (mkF m 198 #[.val (.int i0), .val (.int i1), .val (.int i2), .val (.int i3), .val (.int np), .val (.int nt), .val (.ref pp), .val (.ref tt), .val (.ref pat), .val (.ref txt), .val (.ref da)] [(.ref pp)]))
  refine EndsK.go (fun _ kz => XS.iload Y23.here hx rfl (hb hby at_198) rfl kz) ?_
  show EndsK p e below _ (T23.setTop (mkF m 200 #[.val (.int i0), .val (.int i1), .val (.int i2), .val (.int i3), .val (.int np), .val (.int nt), .val (.ref pp), .val (.ref tt), .val (.ref pat), .val (.ref txt), .val (.ref da)] [(.int np), (.ref pp)]))
  refine EndsK.go (fun _ kz => XS.aload Y23.here hx rfl (hb hby at_200) rfl rfl kz) ?_
  show EndsK p e below _ (T23.setTop (mkF m 202 #[.val (.int i0), .val (.int i1), .val (.int i2), .val (.int i3), .val (.int np), .val (.int nt), .val (.ref pp), .val (.ref tt), .val (.ref pat), .val (.ref txt), .val (.ref da)] [(.ref tt), (.int np), (.ref pp)]))
  refine EndsK.go (fun _ kz => XS.iload Y23.here hx rfl (hb hby at_202) rfl kz) ?_
  show EndsK p e below _ (T23.setTop (mkF m 204 #[.val (.int i0), .val (.int i1), .val (.int i2), .val (.int i3), .val (.int np), .val (.int nt), .val (.ref pp), .val (.ref tt), .val (.ref pat), .val (.ref txt), .val (.ref da)] [(.int nt), (.ref tt), (.int np), (.ref pp)]))
  refine EndsK.go (fun _ kz => XS.iloadN Y23.here hx rfl (hb hby at_204) rfl kz) ?_
  show EndsK p e below _ (T23.setTop (mkF m 205 #[.val (.int i0), .val (.int i1), .val (.int i2), .val (.int i3), .val (.int np), .val (.int nt), .val (.ref pp), .val (.ref tt), .val (.ref pat), .val (.ref txt), .val (.ref da)] [(.int i3), (.int nt), (.ref tt), (.int np), (.ref pp)]))
  refine EndsK.go (fun _ kz => XS.aload Y23.here hx rfl (hb hby at_205) rfl rfl kz) ?_
  show EndsK p e below _ (T23.setTop (mkF m 207 #[.val (.int i0), .val (.int i1), .val (.int i2), .val (.int i3), .val (.int np), .val (.int nt), .val (.ref pp), .val (.ref tt), .val (.ref pat), .val (.ref txt), .val (.ref da)] [(.ref da), (.int i3), (.int nt), (.ref tt), (.int np), (.ref pp)]))
  refine EndsK.go (fun _ kz => XS.iconst Y23.here hx rfl (hb hby at_207) kz) ?_
  show EndsK p e below _ (T23.setTop (mkF m 208 #[.val (.int i0), .val (.int i1), .val (.int i2), .val (.int i3), .val (.int np), .val (.int nt), .val (.ref pp), .val (.ref tt), .val (.ref pat), .val (.ref txt), .val (.ref da)] [(.int (2 : Int32)), (.ref da), (.int i3), (.int nt), (.ref tt), (.int np), (.ref pp)]))
  obtain ⟨_, _, ⟨T24, L24, k24, n24⟩, -, X24, ⟨Lc24, hQ24, l24, y24, z24⟩, st24⟩ := Jvm.LawKit.callS Y23 hx (y := (⟨"com/example/seshat/seshat/registry/WildcardsMatchesPinLaw", "row", "([II[III[[ZI)V"⟩ : MethodName)) hown (mvT hZ (hw _ (List.mem_of_getElem? (i := 11) rfl))) (mvT hZ (hw _ (List.mem_of_getElem? (i := 12) rfl))) (mvT hZ (hw _ (List.mem_of_getElem? (i := 3) rfl))) (mvT hZ (hw _ (List.mem_of_getElem? (i := 13) rfl))) (by decide) (backOf (W := 0) (rm_row l Z a0 hw [] pp np tt nt i3 da (2 : Int32) c1 c2 cA [x0, x1, x2, x3] [u0, u1, u2, u3] xs (rowF i3 np nt [x0, x1, x2, x3] [u0, u1, u2, u3] (rowF i3 np nt [x0, x1, x2, x3] [u0, u1, u2, u3] (fun _ _ => 0) (4 : Int32)) (3 : Int32)) h23 n0 Z23 bp.1 bp.2 bt.1 bt.2 (by decide) (by decide) V23_pp V23_tt hxs G23 nda lt_pp lt_tt) hZ (hw _ (List.mem_of_getElem? (i := 13) rfl)) (hw _ (List.mem_of_getElem? (i := 3) rfl)) (by decide) (by decide)) (g := (mkF m 208 #[.val (.int i0), .val (.int i1), .val (.int i2), .val (.int i3), .val (.int np), .val (.int nt), .val (.ref pp), .val (.ref tt), .val (.ref pat), .val (.ref txt), .val (.ref da)] [(.int (2 : Int32)), (.ref da), (.int i3), (.int nt), (.ref tt), (.int np), (.ref pp)])) rfl (by rw [hml]; rfl) (argsL := [(.ref pp), (.int np), (.ref tt), (.int nt), (.int i3), (.ref da), (.int (2 : Int32))]) (rest := []) (lenOf pd3 rfl) rfl (by show 2 * 0 + _ ≤ _; exact Nat.le_of_eq rfl) (hb hby at_208) (fun _ _ => ⟨rfl, e23, (by decide : 10 + 0 ≤ _), (by decide : 46 + 0 ≤ _)⟩)
  dsimp only [Pt.U, Pt.locs, Pt.cells, Pt.slots] at X24 l24 y24 z24 st24 hQ24
  subst l24 y24 z24
  obtain ⟨rfl, N24, K24, G24⟩ := hQ24
  obtain ⟨h24, e24⟩ : ∃ z, T24.heap = z := ⟨_, rfl⟩
  rw [e24] at K24 G24
  have Y24 : Stand p l e room_1 s m #[.int i0, .int i1, .int i2, .int i3] below meth c T24 [] 10 46 := (X24.dropFresh (fun xz hxz => by rw [hh, ← hn0]; exact N24 xz hxz)).mono (by decide) (by decide)
  have P24 : Ext h0 h24 := ext_kept P23 K24 (allS (Nat.le_trans sda (Nat.le_trans (Nat.le_add_right da 1) (Nat.le_add_right _ _))) all0)
  have Z24 : n0 ≤ h24.size := Nat.le_trans Z0 P24.1
  have V24_pp := V23_pp.keep K24 (ninS (own_ne (by omega)) nin0)
  have V24_tt := V23_tt.keep K24 (ninS (own_ne (by omega)) nin0)
  have V24_pat := V23_pat.keep K24 (ninS (own_ne (by omega)) nin0)
  have V24_txt := V23_txt.keep K24 (ninS (own_ne (by omega)) nin0)
  refine EndsK.go st24 ?_
  show EndsK p e below _ (T24.setTop (mkF m 211 #[.val (.int i0), .val (.int i1), .val (.int i2), .val (.int i3), .val (.int np), .val (.int nt), .val (.ref pp), .val (.ref tt), .val (.ref pat), .val (.ref txt), .val (.ref da)] []))
  refine EndsK.go (fun _ kz => XS.aload Y24.here hx rfl (hb hby at_211) rfl rfl kz) ?_
  show EndsK p e below _ (T24.setTop (mkF m 213 #[.val (.int i0), .val (.int i1), .val (.int i2), .val (.int i3), .val (.int np), .val (.int nt), .val (.ref pp), .val (.ref tt), .val (.ref pat), .val (.ref txt), .val (.ref da)] [(.ref pp)]))
  refine EndsK.go (fun _ kz => XS.iload Y24.here hx rfl (hb hby at_213) rfl kz) ?_
  show EndsK p e below _ (T24.setTop (mkF m 215 #[.val (.int i0), .val (.int i1), .val (.int i2), .val (.int i3), .val (.int np), .val (.int nt), .val (.ref pp), .val (.ref tt), .val (.ref pat), .val (.ref txt), .val (.ref da)] [(.int np), (.ref pp)]))
  refine EndsK.go (fun _ kz => XS.aload Y24.here hx rfl (hb hby at_215) rfl rfl kz) ?_
  show EndsK p e below _ (T24.setTop (mkF m 217 #[.val (.int i0), .val (.int i1), .val (.int i2), .val (.int i3), .val (.int np), .val (.int nt), .val (.ref pp), .val (.ref tt), .val (.ref pat), .val (.ref txt), .val (.ref da)] [(.ref tt), (.int np), (.ref pp)]))
  refine EndsK.go (fun _ kz => XS.iload Y24.here hx rfl (hb hby at_217) rfl kz) ?_
  show EndsK p e below _ (T24.setTop (mkF m 219 #[.val (.int i0), .val (.int i1), .val (.int i2), .val (.int i3), .val (.int np), .val (.int nt), .val (.ref pp), .val (.ref tt), .val (.ref pat), .val (.ref txt), .val (.ref da)] [(.int nt), (.ref tt), (.int np), (.ref pp)]))
  refine EndsK.go (fun _ kz => XS.iloadN Y24.here hx rfl (hb hby at_219) rfl kz) ?_
  show EndsK p e below _ (T24.setTop (mkF m 220 #[.val (.int i0), .val (.int i1), .val (.int i2), .val (.int i3), .val (.int np), .val (.int nt), .val (.ref pp), .val (.ref tt), .val (.ref pat), .val (.ref txt), .val (.ref da)] [(.int i3), (.int nt), (.ref tt), (.int np), (.ref pp)]))
  refine EndsK.go (fun _ kz => XS.aload Y24.here hx rfl (hb hby at_220) rfl rfl kz) ?_
  show EndsK p e below _ (T24.setTop (mkF m 222 #[.val (.int i0), .val (.int i1), .val (.int i2), .val (.int i3), .val (.int np), .val (.int nt), .val (.ref pp), .val (.ref tt), .val (.ref pat), .val (.ref txt), .val (.ref da)] [(.ref da), (.int i3), (.int nt), (.ref tt), (.int np), (.ref pp)]))
  refine EndsK.go (fun _ kz => XS.iconst Y24.here hx rfl (hb hby at_222) kz) ?_
  show EndsK p e below _ (T24.setTop (mkF m 223 #[.val (.int i0), .val (.int i1), .val (.int i2), .val (.int i3), .val (.int np), .val (.int nt), .val (.ref pp), .val (.ref tt), .val (.ref pat), .val (.ref txt), .val (.ref da)] [(.int (1 : Int32)), (.ref da), (.int i3), (.int nt), (.ref tt), (.int np), (.ref pp)]))
  obtain ⟨_, _, ⟨T25, L25, k25, n25⟩, -, X25, ⟨Lc25, hQ25, l25, y25, z25⟩, st25⟩ := Jvm.LawKit.callS Y24 hx (y := (⟨"com/example/seshat/seshat/registry/WildcardsMatchesPinLaw", "row", "([II[III[[ZI)V"⟩ : MethodName)) hown (mvT hZ (hw _ (List.mem_of_getElem? (i := 11) rfl))) (mvT hZ (hw _ (List.mem_of_getElem? (i := 12) rfl))) (mvT hZ (hw _ (List.mem_of_getElem? (i := 3) rfl))) (mvT hZ (hw _ (List.mem_of_getElem? (i := 13) rfl))) (by decide) (backOf (W := 0) (rm_row l Z a0 hw [] pp np tt nt i3 da (1 : Int32) c1 c2 cA [x0, x1, x2, x3] [u0, u1, u2, u3] xs (rowF i3 np nt [x0, x1, x2, x3] [u0, u1, u2, u3] (rowF i3 np nt [x0, x1, x2, x3] [u0, u1, u2, u3] (rowF i3 np nt [x0, x1, x2, x3] [u0, u1, u2, u3] (fun _ _ => 0) (4 : Int32)) (3 : Int32)) (2 : Int32)) h24 n0 Z24 bp.1 bp.2 bt.1 bt.2 (by decide) (by decide) V24_pp V24_tt hxs G24 nda lt_pp lt_tt) hZ (hw _ (List.mem_of_getElem? (i := 13) rfl)) (hw _ (List.mem_of_getElem? (i := 3) rfl)) (by decide) (by decide)) (g := (mkF m 223 #[.val (.int i0), .val (.int i1), .val (.int i2), .val (.int i3), .val (.int np), .val (.int nt), .val (.ref pp), .val (.ref tt), .val (.ref pat), .val (.ref txt), .val (.ref da)] [(.int (1 : Int32)), (.ref da), (.int i3), (.int nt), (.ref tt), (.int np), (.ref pp)])) rfl (by rw [hml]; rfl) (argsL := [(.ref pp), (.int np), (.ref tt), (.int nt), (.int i3), (.ref da), (.int (1 : Int32))]) (rest := []) (lenOf pd3 rfl) rfl (by show 2 * 0 + _ ≤ _; exact Nat.le_of_eq rfl) (hb hby at_223) (fun _ _ => ⟨rfl, e24, (by decide : 10 + 0 ≤ _), (by decide : 46 + 0 ≤ _)⟩)
  dsimp only [Pt.U, Pt.locs, Pt.cells, Pt.slots] at X25 l25 y25 z25 st25 hQ25
  subst l25 y25 z25
  obtain ⟨rfl, N25, K25, G25⟩ := hQ25
  obtain ⟨h25, e25⟩ : ∃ z, T25.heap = z := ⟨_, rfl⟩
  rw [e25] at K25 G25
  have Y25 : Stand p l e room_1 s m #[.int i0, .int i1, .int i2, .int i3] below meth c T25 [] 10 46 := (X25.dropFresh (fun xz hxz => by rw [hh, ← hn0]; exact N25 xz hxz)).mono (by decide) (by decide)
  have P25 : Ext h0 h25 := ext_kept P24 K25 (allS (Nat.le_trans sda (Nat.le_trans (Nat.le_add_right da 1) (Nat.le_add_right _ _))) all0)
  have Z25 : n0 ≤ h25.size := Nat.le_trans Z0 P25.1
  have V25_pp := V24_pp.keep K25 (ninS (own_ne (by omega)) nin0)
  have V25_tt := V24_tt.keep K25 (ninS (own_ne (by omega)) nin0)
  have V25_pat := V24_pat.keep K25 (ninS (own_ne (by omega)) nin0)
  have V25_txt := V24_txt.keep K25 (ninS (own_ne (by omega)) nin0)
  refine EndsK.go st25 ?_
  show EndsK p e below _ (T25.setTop (mkF m 226 #[.val (.int i0), .val (.int i1), .val (.int i2), .val (.int i3), .val (.int np), .val (.int nt), .val (.ref pp), .val (.ref tt), .val (.ref pat), .val (.ref txt), .val (.ref da)] []))
  refine EndsK.go (fun _ kz => XS.aload Y25.here hx rfl (hb hby at_226) rfl rfl kz) ?_
  show EndsK p e below _ (T25.setTop (mkF m 228 #[.val (.int i0), .val (.int i1), .val (.int i2), .val (.int i3), .val (.int np), .val (.int nt), .val (.ref pp), .val (.ref tt), .val (.ref pat), .val (.ref txt), .val (.ref da)] [(.ref pp)]))
  refine EndsK.go (fun _ kz => XS.iload Y25.here hx rfl (hb hby at_228) rfl kz) ?_
  show EndsK p e below _ (T25.setTop (mkF m 230 #[.val (.int i0), .val (.int i1), .val (.int i2), .val (.int i3), .val (.int np), .val (.int nt), .val (.ref pp), .val (.ref tt), .val (.ref pat), .val (.ref txt), .val (.ref da)] [(.int np), (.ref pp)]))
  refine EndsK.go (fun _ kz => XS.aload Y25.here hx rfl (hb hby at_230) rfl rfl kz) ?_
  show EndsK p e below _ (T25.setTop (mkF m 232 #[.val (.int i0), .val (.int i1), .val (.int i2), .val (.int i3), .val (.int np), .val (.int nt), .val (.ref pp), .val (.ref tt), .val (.ref pat), .val (.ref txt), .val (.ref da)] [(.ref tt), (.int np), (.ref pp)]))
  refine EndsK.go (fun _ kz => XS.iload Y25.here hx rfl (hb hby at_232) rfl kz) ?_
  show EndsK p e below _ (T25.setTop (mkF m 234 #[.val (.int i0), .val (.int i1), .val (.int i2), .val (.int i3), .val (.int np), .val (.int nt), .val (.ref pp), .val (.ref tt), .val (.ref pat), .val (.ref txt), .val (.ref da)] [(.int nt), (.ref tt), (.int np), (.ref pp)]))
  refine EndsK.go (fun _ kz => XS.iloadN Y25.here hx rfl (hb hby at_234) rfl kz) ?_
  show EndsK p e below _ (T25.setTop (mkF m 235 #[.val (.int i0), .val (.int i1), .val (.int i2), .val (.int i3), .val (.int np), .val (.int nt), .val (.ref pp), .val (.ref tt), .val (.ref pat), .val (.ref txt), .val (.ref da)] [(.int i3), (.int nt), (.ref tt), (.int np), (.ref pp)]))
  refine EndsK.go (fun _ kz => XS.aload Y25.here hx rfl (hb hby at_235) rfl rfl kz) ?_
  show EndsK p e below _ (T25.setTop (mkF m 237 #[.val (.int i0), .val (.int i1), .val (.int i2), .val (.int i3), .val (.int np), .val (.int nt), .val (.ref pp), .val (.ref tt), .val (.ref pat), .val (.ref txt), .val (.ref da)] [(.ref da), (.int i3), (.int nt), (.ref tt), (.int np), (.ref pp)]))
  refine EndsK.go (fun _ kz => XS.iconst Y25.here hx rfl (hb hby at_237) kz) ?_
  show EndsK p e below _ (T25.setTop (mkF m 238 #[.val (.int i0), .val (.int i1), .val (.int i2), .val (.int i3), .val (.int np), .val (.int nt), .val (.ref pp), .val (.ref tt), .val (.ref pat), .val (.ref txt), .val (.ref da)] [(.int (0 : Int32)), (.ref da), (.int i3), (.int nt), (.ref tt), (.int np), (.ref pp)]))
  obtain ⟨_, _, ⟨T26, L26, k26, n26⟩, -, X26, ⟨Lc26, hQ26, l26, y26, z26⟩, st26⟩ := Jvm.LawKit.callS Y25 hx (y := (⟨"com/example/seshat/seshat/registry/WildcardsMatchesPinLaw", "row", "([II[III[[ZI)V"⟩ : MethodName)) hown (mvT hZ (hw _ (List.mem_of_getElem? (i := 11) rfl))) (mvT hZ (hw _ (List.mem_of_getElem? (i := 12) rfl))) (mvT hZ (hw _ (List.mem_of_getElem? (i := 3) rfl))) (mvT hZ (hw _ (List.mem_of_getElem? (i := 13) rfl))) (by decide) (backOf (W := 0) (rm_row l Z a0 hw [] pp np tt nt i3 da (0 : Int32) c1 c2 cA [x0, x1, x2, x3] [u0, u1, u2, u3] xs (rowF i3 np nt [x0, x1, x2, x3] [u0, u1, u2, u3] (rowF i3 np nt [x0, x1, x2, x3] [u0, u1, u2, u3] (rowF i3 np nt [x0, x1, x2, x3] [u0, u1, u2, u3] (rowF i3 np nt [x0, x1, x2, x3] [u0, u1, u2, u3] (fun _ _ => 0) (4 : Int32)) (3 : Int32)) (2 : Int32)) (1 : Int32)) h25 n0 Z25 bp.1 bp.2 bt.1 bt.2 (by decide) (by decide) V25_pp V25_tt hxs G25 nda lt_pp lt_tt) hZ (hw _ (List.mem_of_getElem? (i := 13) rfl)) (hw _ (List.mem_of_getElem? (i := 3) rfl)) (by decide) (by decide)) (g := (mkF m 238 #[.val (.int i0), .val (.int i1), .val (.int i2), .val (.int i3), .val (.int np), .val (.int nt), .val (.ref pp), .val (.ref tt), .val (.ref pat), .val (.ref txt), .val (.ref da)] [(.int (0 : Int32)), (.ref da), (.int i3), (.int nt), (.ref tt), (.int np), (.ref pp)])) rfl (by rw [hml]; rfl) (argsL := [(.ref pp), (.int np), (.ref tt), (.int nt), (.int i3), (.ref da), (.int (0 : Int32))]) (rest := []) (lenOf pd3 rfl) rfl (by show 2 * 0 + _ ≤ _; exact Nat.le_of_eq rfl) (hb hby at_238) (fun _ _ => ⟨rfl, e25, (by decide : 10 + 0 ≤ _), (by decide : 46 + 0 ≤ _)⟩)
  dsimp only [Pt.U, Pt.locs, Pt.cells, Pt.slots] at X26 l26 y26 z26 st26 hQ26
  subst l26 y26 z26
  obtain ⟨rfl, N26, K26, G26⟩ := hQ26
  obtain ⟨h26, e26⟩ : ∃ z, T26.heap = z := ⟨_, rfl⟩
  rw [e26] at K26 G26
  have Y26 : Stand p l e room_1 s m #[.int i0, .int i1, .int i2, .int i3] below meth c T26 [] 10 46 := (X26.dropFresh (fun xz hxz => by rw [hh, ← hn0]; exact N26 xz hxz)).mono (by decide) (by decide)
  have P26 : Ext h0 h26 := ext_kept P25 K26 (allS (Nat.le_trans sda (Nat.le_trans (Nat.le_add_right da 1) (Nat.le_add_right _ _))) all0)
  have Z26 : n0 ≤ h26.size := Nat.le_trans Z0 P26.1
  have V26_pp := V25_pp.keep K26 (ninS (own_ne (by omega)) nin0)
  have V26_tt := V25_tt.keep K26 (ninS (own_ne (by omega)) nin0)
  have V26_pat := V25_pat.keep K26 (ninS (own_ne (by omega)) nin0)
  have V26_txt := V25_txt.keep K26 (ninS (own_ne (by omega)) nin0)
  refine EndsK.go st26 ?_
  show EndsK p e below _ (T26.setTop (mkF m 241 #[.val (.int i0), .val (.int i1), .val (.int i2), .val (.int i3), .val (.int np), .val (.int nt), .val (.ref pp), .val (.ref tt), .val (.ref pat), .val (.ref txt), .val (.ref da)] []))
  refine EndsK.go (fun _ kz => XS.aload Y26.here hx rfl (hb hby at_241) rfl rfl kz) ?_
  show EndsK p e below _ (T26.setTop (mkF m 243 #[.val (.int i0), .val (.int i1), .val (.int i2), .val (.int i3), .val (.int np), .val (.int nt), .val (.ref pp), .val (.ref tt), .val (.ref pat), .val (.ref txt), .val (.ref da)] [(.ref pat)]))
  refine EndsK.go (fun _ kz => XS.aload Y26.here hx rfl (hb hby at_243) rfl rfl kz) ?_
  show EndsK p e below _ (T26.setTop (mkF m 245 #[.val (.int i0), .val (.int i1), .val (.int i2), .val (.int i3), .val (.int np), .val (.int nt), .val (.ref pp), .val (.ref tt), .val (.ref pat), .val (.ref txt), .val (.ref da)] [(.ref txt), (.ref pat)]))
  refine EndsK.go (fun _ kz => XS.iloadN Y26.here hx rfl (hb hby at_245) rfl kz) ?_
  show EndsK p e below _ (T26.setTop (mkF m 246 #[.val (.int i0), .val (.int i1), .val (.int i2), .val (.int i3), .val (.int np), .val (.int nt), .val (.ref pp), .val (.ref tt), .val (.ref pat), .val (.ref txt), .val (.ref da)] [(.int i3), (.ref txt), (.ref pat)]))
  have kn := own_nat bp.1
  have km := own_nat bt.1
  have lP : np.toInt = ([x0, x1, x2, x3].take np.toNatClampNeg).length := by simp; omega
  have lT : nt.toInt = ([u0, u1, u2, u3].take nt.toNatClampNeg).length := by simp; omega
  obtain ⟨_, _, ⟨T27, L27, k27, n27⟩, -, X27, ⟨Lc27, hQ27, l27, y27, z27⟩, st27⟩ := Jvm.LawKit.callS Y26 hx (y := (⟨"com/example/seshat/seshat/registry/Wildcards", "matches", "([I[II)Z"⟩ : MethodName)) hown (mvT hZ (hw _ (List.mem_of_getElem? (i := 17) rfl))) (mvT hZ (hw _ (List.mem_of_getElem? (i := 18) rfl))) (mvT hZ (hw _ (List.mem_of_getElem? (i := 19) rfl))) (mvT hZ (hw _ (List.mem_of_getElem? (i := 20) rfl))) (by decide) (backOf (W := 0) (rm_mat l Z a0 hw [] pat txt i3 kc19 kc20 np nt ([x0, x1, x2, x3].take np.toNatClampNeg) ([u0, u1, u2, u3].take nt.toNatClampNeg) h26 n0 Z26 V26_pat V26_txt lP lT bp.2 bt.2) hZ (hw _ (List.mem_of_getElem? (i := 20) rfl)) (hw _ (List.mem_of_getElem? (i := 19) rfl)) (by decide) (by decide)) (g := (mkF m 246 #[.val (.int i0), .val (.int i1), .val (.int i2), .val (.int i3), .val (.int np), .val (.int nt), .val (.ref pp), .val (.ref tt), .val (.ref pat), .val (.ref txt), .val (.ref da)] [(.int i3), (.ref txt), (.ref pat)])) rfl (by rw [hml]; rfl) (argsL := [(.ref pat), (.ref txt), (.int i3)]) (rest := []) (lenOf pd4 rfl) rfl (by show 2 * 0 + _ ≤ _; exact Nat.le_of_eq rfl) (hb hby at_246) (fun _ _ => ⟨rfl, e26, (by decide : 10 + 0 ≤ _), (by decide : 46 + 0 ≤ _)⟩)
  dsimp only [Pt.U, Pt.locs, Pt.cells, Pt.slots] at X27 l27 y27 z27 st27 hQ27
  subst l27 y27 z27
  obtain ⟨rfl, N27, e27⟩ := hQ27
  have M27 := Fr.app N0 N27
  refine EndsK.go st27 ?_
  show EndsK p e below _ (T27.setTop (mkF m 249 #[.val (.int i0), .val (.int i1), .val (.int i2), .val (.int i3), .val (.int np), .val (.int nt), .val (.ref pp), .val (.ref tt), .val (.ref pat), .val (.ref txt), .val (.ref da)] [(.int (b2i (wm i3 ([x0, x1, x2, x3].take np.toNatClampNeg) ([u0, u1, u2, u3].take nt.toNatClampNeg))))]))
  refine EndsK.go (fun _ kz => XS.aload X27.here hx rfl (hb hby at_249) rfl rfl kz) ?_
  show EndsK p e below _ (T27.setTop (mkF m 251 #[.val (.int i0), .val (.int i1), .val (.int i2), .val (.int i3), .val (.int np), .val (.int nt), .val (.ref pp), .val (.ref tt), .val (.ref pat), .val (.ref txt), .val (.ref da)] [(.ref da), (.int (b2i (wm i3 ([x0, x1, x2, x3].take np.toNatClampNeg) ([u0, u1, u2, u3].take nt.toNatClampNeg))))]))
  refine EndsK.go (fun _ kz => XS.iconst X27.here hx rfl (hb hby at_251) kz) ?_
  show EndsK p e below _ (T27.setTop (mkF m 252 #[.val (.int i0), .val (.int i1), .val (.int i2), .val (.int i3), .val (.int np), .val (.int nt), .val (.ref pp), .val (.ref tt), .val (.ref pat), .val (.ref txt), .val (.ref da)] [(.int (0 : Int32)), (.ref da), (.int (b2i (wm i3 ([x0, x1, x2, x3].take np.toNatClampNeg) ([u0, u1, u2, u3].take nt.toNatClampNeg))))]))
  obtain ⟨cD, AD, qD1, qD2, qD3, HD, GD⟩ := id G26.1
  obtain ⟨v1, v2⟩ := own_row hxs (k := 0) (by decide)
  obtain ⟨y, ey⟩ : ∃ z, z = da + 1 + 0 := ⟨_, rfl⟩
  rw [← ey] at v1 v2
  obtain ⟨cl, AR, SR, RR⟩ := G26.2 _ _ v1
  have r0 := RR 0 (by decide)
  have q4 : ([x0, x1, x2, x3] : List Int32).length = 4 := rfl
  have q5 : ([u0, u1, u2, u3] : List Int32).length = 4 := rfl
  have hN : np.toNatClampNeg ≤ 4 := by omega
  have hM : nt.toNatClampNeg ≤ 4 := by omega
  have tP : ([x0, x1, x2, x3].take np.toNatClampNeg : List Int32).length ≤ 4 := by simp; omega
  have tT : ([u0, u1, u2, u3].take nt.toNatClampNeg : List Int32).length ≤ 4 := by simp; omega
  have GG := good_row q4 q5 hN hM kn.symm km.symm (xi := 0) (I := 0) rfl (by decide) (good_up tT (good_row q4 q5 hN hM kn.symm km.symm (xi := 1) (I := 1) rfl (by decide) (good_up tT (good_row q4 q5 hN hM kn.symm km.symm (xi := 2) (I := 2) rfl (by decide) (good_up tT (good_row q4 q5 hN hM kn.symm km.symm (xi := 3) (I := 3) rfl (by decide) (good_up tT (good_row q4 q5 hN hM kn.symm km.symm (xi := 4) (I := 4) rfl (by decide) (good_zero (any := i3) tP tT)))))))))
  have val := GG.2 0 0 (by decide) (by decide) (by decide)
  have d0 : Dv i3 ([x0, x1, x2, x3].take np.toNatClampNeg) ([u0, u1, u2, u3].take nt.toNatClampNeg) 0 0 = wm i3 ([x0, x1, x2, x3].take np.toNatClampNeg) ([u0, u1, u2, u3].take nt.toNatClampNeg) := by simp [Dv]
  rw [d0] at val
  rw [val] at r0
  show EndsK p e below _ (T27.setTop (mkF m 252 #[.val (.int i0), .val (.int i1), .val (.int i2), .val (.int i3), .val (.int np), .val (.int nt), .val (.ref pp), .val (.ref tt), .val (.ref pat), .val (.ref txt), .val (.ref da)] [(.int (0 : Int32)), (.ref da), (.int (b2i (wm i3 ([x0, x1, x2, x3].take np.toNatClampNeg) ([u0, u1, u2, u3].take nt.toNatClampNeg))))]))
  refine EndsK.go (fun tz kz => X27.aaload hx (j := (0 : Int32)) (v := (.ref y)) (by rw [e27]; exact AD.1) (State.isArrayOf_alike hZ.alike AD.2.1) rfl AD.2.2 (inb_of qD2 ⟨by decide, by decide⟩) (Has.at HD (inb_of qD2 ⟨by decide, by decide⟩) v2) (g := (mkF m 252 #[.val (.int i0), .val (.int i1), .val (.int i2), .val (.int i3), .val (.int np), .val (.int nt), .val (.ref pp), .val (.ref tt), .val (.ref pat), .val (.ref txt), .val (.ref da)] [(.int (0 : Int32)), (.ref da), (.int (b2i (wm i3 ([x0, x1, x2, x3].take np.toNatClampNeg) ([u0, u1, u2, u3].take nt.toNatClampNeg))))])) rfl rfl (hb hby at_252) tz kz) ?_
  show EndsK p e below _ (T27.setTop (mkF m 253 #[.val (.int i0), .val (.int i1), .val (.int i2), .val (.int i3), .val (.int np), .val (.int nt), .val (.ref pp), .val (.ref tt), .val (.ref pat), .val (.ref txt), .val (.ref da)] [(.ref y), (.int (b2i (wm i3 ([x0, x1, x2, x3].take np.toNatClampNeg) ([u0, u1, u2, u3].take nt.toNatClampNeg))))]))
  refine EndsK.go (fun _ kz => XS.iconst X27.here hx rfl (hb hby at_253) kz) ?_
  show EndsK p e below _ (T27.setTop (mkF m 254 #[.val (.int i0), .val (.int i1), .val (.int i2), .val (.int i3), .val (.int np), .val (.int nt), .val (.ref pp), .val (.ref tt), .val (.ref pat), .val (.ref txt), .val (.ref da)] [(.int (0 : Int32)), (.ref y), (.int (b2i (wm i3 ([x0, x1, x2, x3].take np.toNatClampNeg) ([u0, u1, u2, u3].take nt.toNatClampNeg))))]))
  refine EndsK.go (fun tz kz => X27.baloadBooleans hx (j := (0 : Int32)) (v := (.int (b2i (wm i3 ([x0, x1, x2, x3].take np.toNatClampNeg) ([u0, u1, u2, u3].take nt.toNatClampNeg))))) (by rw [e27]; exact AR.1) (State.isArrayOf_alike hZ.alike AR.2.1) AR.2.2 (inb_of SR ⟨by decide, by decide⟩) r0 (g := (mkF m 254 #[.val (.int i0), .val (.int i1), .val (.int i2), .val (.int i3), .val (.int np), .val (.int nt), .val (.ref pp), .val (.ref tt), .val (.ref pat), .val (.ref txt), .val (.ref da)] [(.int (0 : Int32)), (.ref y), (.int (b2i (wm i3 ([x0, x1, x2, x3].take np.toNatClampNeg) ([u0, u1, u2, u3].take nt.toNatClampNeg))))])) rfl rfl (hb hby at_254) tz kz) ?_
  show EndsK p e below _ (T27.setTop (mkF m 255 #[.val (.int i0), .val (.int i1), .val (.int i2), .val (.int i3), .val (.int np), .val (.int nt), .val (.ref pp), .val (.ref tt), .val (.ref pat), .val (.ref txt), .val (.ref da)] [(.int (b2i (wm i3 ([x0, x1, x2, x3].take np.toNatClampNeg) ([u0, u1, u2, u3].take nt.toNatClampNeg)))), (.int (b2i (wm i3 ([x0, x1, x2, x3].take np.toNatClampNeg) ([u0, u1, u2, u3].take nt.toNatClampNeg))))]))
  refine EndsK.go (fun _ kz => XS.icmpNo X27.here hx rfl (hb hby at_255) rfl (teq (rfl : (b2i (wm i3 ([x0, x1, x2, x3].take np.toNatClampNeg) ([u0, u1, u2, u3].take nt.toNatClampNeg))) = (b2i (wm i3 ([x0, x1, x2, x3].take np.toNatClampNeg) ([u0, u1, u2, u3].take nt.toNatClampNeg))))).2 kz) ?_
  show EndsK p e below _ (T27.setTop (mkF m 258 #[.val (.int i0), .val (.int i1), .val (.int i2), .val (.int i3), .val (.int np), .val (.int nt), .val (.ref pp), .val (.ref tt), .val (.ref pat), .val (.ref txt), .val (.ref da)] []))
  refine EndsK.go (fun _ kz => XS.iconst X27.here hx rfl (hb hby at_258) kz) ?_
  show EndsK p e below _ (T27.setTop (mkF m 259 #[.val (.int i0), .val (.int i1), .val (.int i2), .val (.int i3), .val (.int np), .val (.int nt), .val (.ref pp), .val (.ref tt), .val (.ref pat), .val (.ref txt), .val (.ref da)] [(.int (1 : Int32))]))
  refine EndsK.go (fun _ kz => XS.goto X27.here hx rfl (pc0 := 259) (pc' := 263) rfl (hb hby at_259) (by decide) (by decide) kz) ?_
  show EndsK p e below _ (T27.setTop (mkF m 263 #[.val (.int i0), .val (.int i1), .val (.int i2), .val (.int i3), .val (.int np), .val (.int nt), .val (.ref pp), .val (.ref tt), .val (.ref pat), .val (.ref txt), .val (.ref da)] [(.int (1 : Int32))]))
  exact endN X27 hx (t := .boolean) Bd.returns (by simp) (hb hby at_263) hlk ⟨rfl, M27⟩ (by decide) (by decide)
set_option maxRecDepth 65536 in
set_option maxHeartbeats 40000000 in
theorem comes_1 {Post : Tables → Env → Array Value → State → Outcome → State → Prop} (hpost : ∀ tb e args s v u, (limb_1_1.after args s (.returned v) u = true ∧ limb_1_2.after args s (.returned v) u = true ∧ True) → FrameEnd s (.returned v) u (Jvm.fieldLocs frame_1_writes args s ++ Jvm.arrayLocs frame_1_arrays args s ++ Jvm.staticLocs frame_1_statics s) 32 192 → Post tb e args s (.returned v) u) :
    ArmFor flags0 classFile x code maxLocals ret World_1 tables_1 room_1 Calls_1 rest_1 Pre_1 Post := by
  intro l hfl _ _ p e ha hc hk s m args below hf hA hF happ hP
  obtain ⟨hcalls, hrest, hpre⟩ := hP
  obtain ⟨-, -, -, hnamed, -, -, -, hat⟩ := (Spec.applies_iff hf).mp happ
  obtain ⟨hg, hn⟩ := and_e (Cond.before_iff.mp (show (Jvm.Cond.and given_1 narrow_1).before args s = true from hpre))
  obtain ⟨hcount, hg⟩ := and_e hg
  obtain ⟨hi0, hg⟩ := and_e hg
  obtain ⟨hi1, hg⟩ := and_e hg
  obtain ⟨hi2, hg⟩ := and_e hg
  obtain ⟨w0, w1, w2, w3, rfl⟩ : ∃ w0 w1 w2 w3 : Value, args = #[w0, w1, w2, w3] := by
    have hs : args.size = 4 := by simpa [Cond.value, given_1] using hcount
    obtain ⟨L⟩ := args
    match L, hs with
    | [w0, w1, w2, w3], _ => exact ⟨w0, w1, w2, w3, rfl⟩
  have hw := fun d (hd : d ∈ tables_1) => atoms_spec (ws := Jvm.Cond.code x code maxLocals ret :: tables_1) hat d (List.mem_cons_of_mem _ hd)
  have hfit : Fit s := fun {y c} hc i hi => by
    obtain ⟨ha, rfl⟩ := Array.getElem?_eq_some_iff.mp hc
    have q := List.all_eq_true.mp ((Array.all_eq_true_iff_forall_mem.mp hF) _ (Array.getElem_mem ha)) i (List.mem_range.mpr hi)
    simpa [Array.getElem?_eq_getElem hi] using q
  obtain ⟨i0, ei0⟩ := is_v hi0
  obtain rfl : w0 = (.int i0) := Option.some.inj ei0
  obtain ⟨i1, ei1⟩ := is_v hi1
  obtain rfl : w1 = (.int i1) := Option.some.inj ei1
  obtain ⟨i2, ei2⟩ := is_v hi2
  obtain rfl : w2 = (.int i2) := Option.some.inj ei2
  obtain ⟨i3, ei3⟩ := is_v hg
  obtain rfl : w3 = (.int i3) := Option.some.inj ei3
  obtain ⟨n, o, h1, h2, h3, _, L, rfl, ⟨rfl, N⟩, hq⟩ := rm_law l s _ hw tables_1 i0 i1 i2 i3 s.heap s.heap.size (Nat.le_refl _) rfl p e ha hc hk s m _ below hf ((Spec.applies_iff_loose hf).mp happ).1 ⟨rfl, State.Warmed39.refl s, rfl⟩ trivial
  refine ⟨n, _, h1, h2, h3, hpost _ _ _ _ _ _ ⟨Cond.after_iff.mpr rfl, Cond.after_iff.mpr (eq_i res_at (Term.int_eval (1)) rfl), trivial⟩ ⟨hq.1, hq.2.1, (hq.2.2.sift fun y hy => Or.inr (N y hy)).mono (by decide) (by decide)⟩⟩
theorem main_1_1 : Claimed_1_1 := comes_1 fun _ _ _ _ _ _ h hF => ⟨h.1, hF⟩
theorem main_1_2 : Claimed_1_2 := comes_1 fun _ _ _ _ _ _ h hF => ⟨h.2.1, hF⟩
end Jvm.Pilot.@@N@@
namespace Jvm.Pilot.@@N@@
open Jvm Jvm.ClassFile Sem Op Lib Jvm.Free Jvm.Stand Jvm.Pilot.@@N@@.Jvm.D
/-! MADE BY PROGRAM (witnessworld.py) out of the Statement's table words and the real class files: 11 classes; the members and pool entries that the words name. The judged class is class 1, her method 1. -/
namespace start1
open Jvm.ClassFile
def u (s : String) : CpInfo := .utf8 (stringToUtf16 s)
/-- a pool by its gaps: so many unusable entries, then the entry; so many at the end -/
def gap : Nat → List CpInfo → List CpInfo
  | 0, r => r
  | n + 1, r => .unusable :: gap n r
def poolList (es : List (Nat × CpInfo)) (last : Nat) : List CpInfo := es.foldr (fun e r => gap e.1 (e.2 :: r)) (gap last [])
def pool (es : List (Nat × CpInfo)) (last : Nat) : Array CpInfo := ⟨poolList es last⟩
def fileOf (pool : Array CpInfo) (this : Nat) (attrs : Array Attribute := #[]) (ms : Array MethodInfo := #[]) (fl : Nat := 33) (sup : Nat := 0) (ifs : Array Nat := #[]) (fds : Array FieldInfo := #[]) : ClassFile where
  minorVersion := 0
  majorVersion := 65
  constantPool := pool
  accessFlags := fl
  thisClass := this
  superClass := sup
  interfaces := ifs
  fields := fds
  methods := ms
  attributes := attrs
def plain (name : String) (sup : Option ClassId) : Class where
  name := name
  kind := .ordinary
  loader := none
  accessFlags := 33
  super := sup
  interfaces := #[]
  cf := none
  fields := #[]
  methods := #[]
  instanceTypes := #[]
  staticTypes := #[]
  resolved := #[]
  callSites := []
  init := .initialized
  statics := none
  mirror := none

def pool0 : Array CpInfo := pool [(5, u "<init>"), (0, u "()V"), (1, .class_ 10), (1, u "java/lang/Object")] 113

def k0m0 : Method := { name := "<init>", desc := "()V", sig := { parameters := [], returnType := none }, accessFlags := 1, code := none }
/-- java/lang/Object -/
def k0 : Class := { plain "java/lang/Object" none with
  accessFlags := 33
  interfaces := #[]
  cf := some (fileOf pool0 8 #[] #[{ accessFlags := 1, nameIndex := 5, descriptorIndex := 6, attributes := #[] }] 33 0 #[] #[])
  fields := #[]
  methods := #[k0m0]
  instanceTypes := #[]
  staticTypes := #[]
  resolved := Array.replicate 124 none
  statics := none }

def pool1 : Array CpInfo := pool [(2, .class_ 4), (1, u "java/lang/Object"), (0, u "<init>"), (0, u "()V"), (0, .methodref 8 9), (0, .class_ 10), (0, .nameAndType 11 12), (0, u "com/example/seshat/seshat/registry/WildcardsMatchesPinLaw"), (0, u "pick"), (0, u "(IIII)I"), (0, .methodref 8 14), (0, .nameAndType 15 16), (0, u "take"), (0, u "([II)[I"), (0, .class_ 18), (0, u "[[Z"), (0, .methodref 8 20), (0, .nameAndType 21 22), (0, u "row"), (0, u "([II[III[[ZI)V"), (0, .methodref 24 25), (0, .class_ 26), (0, .nameAndType 27 28), (0, u "com/example/seshat/seshat/registry/Wildcards"), (0, u "matches"), (0, u "([I[II)Z"), (0, .methodref 8 30), (0, .nameAndType 31 32), (0, u "cell"), (0, u "([II[III[[ZII)Z"), (2, u "law"), (0, u "(IIII)Z")] 5

def k1m0 : Method := { name := "<init>", desc := "()V", sig := { parameters := [], returnType := none }, accessFlags := 1, code := none }
def k1c1 : Code := { maxStack := 7, maxLocals := 11, code := code, exceptionTable := #[], attributes := #[] }
def k1m1 : Method := { name := "law", desc := "(IIII)Z", sig := { parameters := [.int, .int, .int, .int], returnType := some .boolean }, accessFlags := 9, code := some k1c1 }
def k1c2 : Code := { maxStack := 2, maxLocals := 5, code := method_3_code, exceptionTable := #[], attributes := #[] }
def k1m2 : Method := { name := "pick", desc := "(IIII)I", sig := { parameters := [.int, .int, .int, .int], returnType := some .int }, accessFlags := 10, code := some k1c2 }
def k1c3 : Code := { maxStack := 4, maxLocals := 3, code := method_4_code, exceptionTable := #[], attributes := #[] }
def k1m3 : Method := { name := "take", desc := "([II)[I", sig := { parameters := [(.array .int), .int], returnType := some (.array .int) }, accessFlags := 10, code := some k1c3 }
def k1c4 : Code := { maxStack := 10, maxLocals := 7, code := method_5_code, exceptionTable := #[], attributes := #[] }
def k1m4 : Method := { name := "row", desc := "([II[III[[ZI)V", sig := { parameters := [(.array .int), .int, (.array .int), .int, .int, (.array (.array .boolean)), .int], returnType := none }, accessFlags := 10, code := some k1c4 }
def k1c5 : Code := { maxStack := 3, maxLocals := 8, code := method_6_code, exceptionTable := #[], attributes := #[] }
def k1m5 : Method := { name := "cell", desc := "([II[III[[ZII)Z", sig := { parameters := [(.array .int), .int, (.array .int), .int, .int, (.array (.array .boolean)), .int, .int], returnType := some .boolean }, accessFlags := 10, code := some k1c5 }
/-- com/example/seshat/seshat/registry/WildcardsMatchesPinLaw -/
def k1 : Class := { plain "com/example/seshat/seshat/registry/WildcardsMatchesPinLaw" (some 0) with
  accessFlags := 49
  interfaces := #[]
  cf := some (fileOf pool1 8 #[] #[{ accessFlags := 1, nameIndex := 5, descriptorIndex := 6, attributes := #[] }, { accessFlags := 9, nameIndex := 35, descriptorIndex := 36, attributes := #[] }, { accessFlags := 10, nameIndex := 11, descriptorIndex := 12, attributes := #[] }, { accessFlags := 10, nameIndex := 15, descriptorIndex := 16, attributes := #[] }, { accessFlags := 10, nameIndex := 21, descriptorIndex := 22, attributes := #[] }, { accessFlags := 10, nameIndex := 31, descriptorIndex := 32, attributes := #[] }] 49 2 #[] #[])
  fields := #[]
  methods := #[k1m0, k1m1, k1m2, k1m3, k1m4, k1m5]
  instanceTypes := #[]
  staticTypes := #[]
  resolved := Array.replicate 42 none
  statics := none }

def pool2 : Array CpInfo := pool [(2, .class_ 4), (1, u "java/lang/Object"), (0, u "<init>"), (0, u "()V"), (7, .class_ 16), (1, u "com/example/seshat/seshat/registry/Wildcards"), (20, u "matches"), (0, u "([I[II)Z"), (17, u "ANY_RUN"), (0, u "I")] 13

def k2m0 : Method := { name := "<init>", desc := "()V", sig := { parameters := [], returnType := none }, accessFlags := 2, code := none }
def k2c1 : Code := { maxStack := 3, maxLocals := 7, code := prog_55_method_5_code, exceptionTable := #[], attributes := #[] }
def k2m1 : Method := { name := "matches", desc := "([I[II)Z", sig := { parameters := [(.array .int), (.array .int), .int], returnType := some .boolean }, accessFlags := 8, code := some k2c1 }
/-- com/example/seshat/seshat/registry/Wildcards -/
def k2 : Class := { plain "com/example/seshat/seshat/registry/Wildcards" (some 0) with
  accessFlags := 49
  interfaces := #[]
  cf := some (fileOf pool2 14 #[] #[{ accessFlags := 2, nameIndex := 5, descriptorIndex := 6, attributes := #[] }, { accessFlags := 8, nameIndex := 37, descriptorIndex := 38, attributes := #[] }] 49 2 #[] #[{ accessFlags := 26, nameIndex := 56, descriptorIndex := 57, attributes := #[] }])
  fields := #[{ name := "ANY_RUN", type := .int, accessFlags := 26, slot := 0, constantValue := 0 }]
  methods := #[k2m0, k2m1]
  instanceTypes := #[]
  staticTypes := #[.int]
  resolved := Array.replicate 71 none
  statics := none }

def pool3 : Array CpInfo := pool [(1, u "java/lang/Cloneable"), (0, .class_ 1), (0, u "java/lang/Object"), (0, .class_ 3)] 3

/-- java/lang/Cloneable -/
def k3 : Class := { plain "java/lang/Cloneable" (some 0) with
  accessFlags := 1537
  interfaces := #[]
  cf := some (fileOf pool3 2 #[] #[] 1537 4 #[] #[])
  fields := #[]
  methods := #[]
  instanceTypes := #[]
  staticTypes := #[]
  resolved := Array.replicate 8 none
  statics := none }

def pool4 : Array CpInfo := pool [(1, u "java/io/Serializable"), (0, .class_ 1), (0, u "java/lang/Object"), (0, .class_ 3)] 3

/-- java/io/Serializable -/
def k4 : Class := { plain "java/io/Serializable" (some 0) with
  accessFlags := 1537
  interfaces := #[]
  cf := some (fileOf pool4 2 #[] #[] 1537 4 #[] #[])
  fields := #[]
  methods := #[]
  instanceTypes := #[]
  staticTypes := #[]
  resolved := Array.replicate 8 none
  statics := none }

/-- the primitive boolean -/
def k5 : Class := { plain "boolean" none with kind := .primitive 'Z', accessFlags := 0x411 }
/-- [Z -/
def k6 : Class := { plain "[Z" (some 0) with kind := .array 5 .boolean, interfaces := #[3, 4], accessFlags := 1041 }

/-- the primitive byte -/
def k7 : Class := { plain "byte" none with kind := .primitive 'B', accessFlags := 0x411 }
/-- [B -/
def k8 : Class := { plain "[B" (some 0) with kind := .array 7 .byte, interfaces := #[3, 4], accessFlags := 1041 }

/-- the primitive int -/
def k9 : Class := { plain "int" none with kind := .primitive 'I', accessFlags := 0x411 }
/-- [I -/
def k10 : Class := { plain "[I" (some 0) with kind := .array 9 .int, interfaces := #[3, 4], accessFlags := 1041 }

def heap : Heap := #[]
/-- [[Z -/
def k11 : Class := { plain "[[Z" (some 0) with kind := .array 6 (.array .boolean), interfaces := #[3, 4], accessFlags := 1041 }
def classes : Array Class := #[k0, k1, k2, k3, k4, k5, k6, k7, k8, k9, k10, k11]
def interned : List (Array UInt16 × Addr) := []
def slotsUsed : Nat := 0
def theMethod : MethodId := ⟨1, 1⟩
def args0 : Array Value := #[.int 5, .int 6, .int 7, .int 8]
def aboutOver (below : List Frame) : State where
  vm := { classes := classes, interned := interned.toArray }
  heap := heap
  slotsUsed := slotsUsed
  threads := #[{ frames := .invoking theMethod args0 :: below }]
def below0 : List Frame := [.native { method := ⟨0, 0⟩, args := #[] }]
def about1 : State := aboutOver below0
def p0 : Program := .bare "" "" ""
def e0 : Env := launch0.env 0 0 0
theorem w_frames : about1.frames = Frame.invoking theMethod args0 :: below0 := rfl
set_option maxRecDepth 65536 in
theorem w_args : argsFit about1.vm theMethod args0 = true := by decide +kernel
set_option maxRecDepth 65536 in
theorem w_heap : heapFits about1 = true := by decide +kernel
set_option maxRecDepth 65536 in
theorem w_runnable : about1.curStatus? = some .runnable := by decide +kernel
set_option maxRecDepth 65536 in
theorem w_alone : about1.alone = true := by decide +kernel
set_option maxRecDepth 65536 in
theorem w_named : about1.methodNamed? x = some theMethod := by decide +kernel
set_option maxRecDepth 65536 in
theorem w_hears : about1.hears theMethod below0 = true := by decide +kernel
set_option maxRecDepth 65536 in
theorem w_ripe : about1.ripe theMethod args0 below0 = true := by decide +kernel
theorem w_running : about1.status = .running := rfl
set_option maxRecDepth 65536 in
theorem w_room : about1.hasRoom e0.platform room_1 = true :=
  launch0.hasRoom_least _ room_1 (by decide +kernel) (by decide +kernel) (by decide +kernel) (by decide +kernel) (by decide +kernel) (by decide +kernel)
theorem allAtoms_all (ts : List Jvm.Cond) (a : Array Jvm.Value) (st : Jvm.State) : (allAtoms ts).before a st = ts.all (fun c => c.before a st) := by
  induction ts with
  | nil => rfl
  | cons c t ih =>
    show (Jvm.Cond.and c (allAtoms t)).before a st = _
    rw [Jvm.Cond.before_and, ih, List.all_cons]
def words1 : List Jvm.Cond := Jvm.Cond.code x code maxLocals ret :: tables_1
/-- a 'code' word, met by the world's own term for the bytes: nothing is compared byte by byte -/
theorem code_word {y : MethodName} {bytes : ByteArray} {mx : Nat} {rt : Option FieldType} {a : Array Value} {s : State} {m : MethodId} {meth : Method} {c : Code} (h1 : s.methodNamed? y = some m) (h2 : s.vm.method? m = some meth) (h3 : meth.code = some c) (h4 : c.code = bytes)
    (h5 : (c.maxLocals == mx && c.exceptionTable.isEmpty && decide (c.maxStack ≤ mostOperands) && decide (meth.sig.returnType = rt) && !meth.locks && decide (parseMethodDescriptor y.desc = some meth.sig)) = true) : (Jvm.Cond.code y bytes mx rt).before a s = true := by
  simp only [Bool.and_eq_true, beq_iff_eq, Bool.not_eq_true', decide_eq_true_eq] at h5
  obtain ⟨⟨⟨⟨⟨g1, g2⟩, g3⟩, g4⟩, g5⟩, g6⟩ := h5
  simp [Cond.before, Cond.holds, Cond.value, h1, h2, h3, h4, g1, g2, g3, g4, g5, g6]
def isCode : Jvm.Cond → Bool
  | .code _ _ _ _ => true
  | _ => false
theorem all_split {L : List Jvm.Cond} {P : Jvm.Cond → Bool} (h1 : L.all (fun c => isCode c || P c) = true) (h2 : ∀ c ∈ L.filter isCode, P c = true) : L.all P = true := by
  refine List.all_eq_true.mpr fun c hc => ?_
  have h := List.all_eq_true.mp h1 c hc
  rcases Bool.eq_false_or_eq_true (isCode c) with hi | hi
  · exact h2 c (List.mem_filter.mpr ⟨hc, hi⟩)
  · simpa [hi] using h
set_option maxRecDepth 65536 in
theorem w_c0 : (Jvm.Cond.code x code maxLocals ret).before args0 about1 = true := code_word (m := ⟨1, 1⟩) (meth := k1m1) (c := k1c1) (by decide +kernel) rfl rfl rfl (by decide +kernel)
set_option maxRecDepth 65536 in
theorem w_c1 : (Jvm.Cond.code ({ cls := "com/example/seshat/seshat/registry/WildcardsMatchesPinLaw", name := "pick", desc := "(IIII)I" } : Jvm.MethodName) method_3_code (5 : Nat) (Option.some Jvm.ClassFile.FieldType.int)).before args0 about1 = true := code_word (m := ⟨1, 2⟩) (meth := k1m2) (c := k1c2) (by decide +kernel) rfl rfl rfl (by decide +kernel)
set_option maxRecDepth 65536 in
theorem w_c2 : (Jvm.Cond.code ({ cls := "com/example/seshat/seshat/registry/WildcardsMatchesPinLaw", name := "take", desc := "([II)[I" } : Jvm.MethodName) method_4_code (3 : Nat) (Option.some (Jvm.ClassFile.FieldType.array Jvm.ClassFile.FieldType.int))).before args0 about1 = true := code_word (m := ⟨1, 3⟩) (meth := k1m3) (c := k1c3) (by decide +kernel) rfl rfl rfl (by decide +kernel)
set_option maxRecDepth 65536 in
theorem w_c3 : (Jvm.Cond.code ({ cls := "com/example/seshat/seshat/registry/WildcardsMatchesPinLaw", name := "row", desc := "([II[III[[ZI)V" } : Jvm.MethodName) method_5_code (7 : Nat) (Option.none : Option Jvm.ClassFile.FieldType)).before args0 about1 = true := code_word (m := ⟨1, 4⟩) (meth := k1m4) (c := k1c4) (by decide +kernel) rfl rfl rfl (by decide +kernel)
set_option maxRecDepth 65536 in
theorem w_c4 : (Jvm.Cond.code ({ cls := "com/example/seshat/seshat/registry/WildcardsMatchesPinLaw", name := "cell", desc := "([II[III[[ZII)Z" } : Jvm.MethodName) method_6_code (8 : Nat) (Option.some Jvm.ClassFile.FieldType.boolean)).before args0 about1 = true := code_word (m := ⟨1, 5⟩) (meth := k1m5) (c := k1c5) (by decide +kernel) rfl rfl rfl (by decide +kernel)
set_option maxRecDepth 65536 in
theorem w_c5 : (Jvm.Cond.code ({ cls := "com/example/seshat/seshat/registry/Wildcards", name := "matches", desc := "([I[II)Z" } : Jvm.MethodName) prog_55_method_5_code (7 : Nat) (Option.some Jvm.ClassFile.FieldType.boolean)).before args0 about1 = true := code_word (m := ⟨2, 1⟩) (meth := k2m1) (c := k2c1) (by decide +kernel) rfl rfl rfl (by decide +kernel)
def codes1 : List Jvm.Cond := [Jvm.Cond.code x code maxLocals ret, Jvm.Cond.code ({ cls := "com/example/seshat/seshat/registry/WildcardsMatchesPinLaw", name := "pick", desc := "(IIII)I" } : Jvm.MethodName) method_3_code (5 : Nat) (Option.some Jvm.ClassFile.FieldType.int), Jvm.Cond.code ({ cls := "com/example/seshat/seshat/registry/WildcardsMatchesPinLaw", name := "take", desc := "([II)[I" } : Jvm.MethodName) method_4_code (3 : Nat) (Option.some (Jvm.ClassFile.FieldType.array Jvm.ClassFile.FieldType.int)), Jvm.Cond.code ({ cls := "com/example/seshat/seshat/registry/WildcardsMatchesPinLaw", name := "row", desc := "([II[III[[ZI)V" } : Jvm.MethodName) method_5_code (7 : Nat) (Option.none : Option Jvm.ClassFile.FieldType), Jvm.Cond.code ({ cls := "com/example/seshat/seshat/registry/WildcardsMatchesPinLaw", name := "cell", desc := "([II[III[[ZII)Z" } : Jvm.MethodName) method_6_code (8 : Nat) (Option.some Jvm.ClassFile.FieldType.boolean), Jvm.Cond.code ({ cls := "com/example/seshat/seshat/registry/Wildcards", name := "matches", desc := "([I[II)Z" } : Jvm.MethodName) prog_55_method_5_code (7 : Nat) (Option.some Jvm.ClassFile.FieldType.boolean)]
set_option maxRecDepth 65536 in
theorem codes_eq : words1.filter isCode = codes1 := rfl
theorem w_codes : ∀ c ∈ words1.filter isCode, c.before args0 about1 = true := by
  rw [codes_eq]
  intro c hc
  simp only [codes1, List.mem_cons, List.not_mem_nil, or_false] at hc
  rcases hc with rfl | rfl | rfl | rfl | rfl | rfl
  · exact w_c0
  · exact w_c1
  · exact w_c2
  · exact w_c3
  · exact w_c4
  · exact w_c5
set_option maxRecDepth 65536 in
theorem w_t1 : words1.all (fun c => isCode c || c.before args0 about1) = true := by decide +kernel
theorem w_tables : (allAtoms (Jvm.Cond.code x code maxLocals ret :: tables_1)).before args0 about1 = true := by
  rw [allAtoms_all]
  show words1.all (fun c => c.before args0 about1) = true
  refine all_split ?_ w_codes
  rw [w_t1]
set_option maxRecDepth 65536 in
theorem w_case : (Jvm.Cond.and given_1 narrow_1).before args0 about1 = true := by decide +kernel
theorem w_applies : (headSpec (Jvm.Cond.code x code maxLocals ret :: tables_1) room_1).applies x e0.platform about1 = true :=
  (Spec.applies_iff w_frames).mpr ⟨w_running, w_runnable, w_alone, w_named, w_hears, w_ripe, w_room, w_tables⟩
theorem atStart : AtStart classFile x code maxLocals ret World_1 tables_1 room_1 Calls_1 rest_1 Pre_1 launch0 p0 e0 about1 theMethod args0 below0 :=
  ⟨lists_1, trivial, launch0.admits_env _ _ _, launch0.least_env, fairChoices_fair.cas, fairChoices_fair.clock, w_frames, w_args, w_heap, w_applies, trivial, trivial, w_case⟩
end start1
theorem witness_1 : WitnessClaimed_1 := ⟨start1.p0, start1.e0, start1.about1, start1.theMethod, start1.args0, start1.below0, start1.atStart⟩
end Jvm.Pilot.@@N@@
