import JvmDerived
import JvmDerived.Pilot.@@N@@Statement
import JvmDerived.Pilot.@@N@@Code
set_option linter.unusedVariables false
set_option linter.unusedSimpArgs false
namespace Jvm.OwnK
open Sem ClassFile Op Lib Jvm.Stand Jvm.Free Jvm.LawKit Jvm.RoadKit
/-- the run from S ends, and well -/
def EndsK (p : Program) (e : Env) (below : List Frame) (QQ : Outcome → State → Prop) (S : State) : Prop :=
  ∃ s₂ o, Steps p.tables e below S s₂ ∧ s₂.status = .running ∧ Ended s₂ below o ∧ QQ o s₂
/-- what a body's contract says of its end -/
abbrev OQ (s : State) (Q : Option Value → Heap → List Loc → Prop) (ck cs : Nat) : Outcome → State → Prop :=
  fun o U' => ∃ v L, o = .returned v ∧ Q v U'.heap L ∧ FrameEnd s o U' L ck cs
section EndsK
variable {p : Program} {e : Env} {below : List Frame} {QQ : Outcome → State → Prop} {S S' T : State}
theorem EndsK.go (h : ∀ t, Steps p.tables e below S' t → Steps p.tables e below S t) (k : EndsK p e below QQ S') : EndsK p e below QQ S := by
  obtain ⟨s₂, o, h1, h2⟩ := k
  exact ⟨s₂, o, h _ h1, h2⟩
theorem EndsK.tr (h : Steps p.tables e below S S') (k : EndsK p e below QQ S') : EndsK p e below QQ S := by
  obtain ⟨s₂, o, h1, h2⟩ := k
  exact ⟨s₂, o, h.trans h1, h2⟩
theorem EndsK.start {g g' : JFrame} (q : g = g') (k : EndsK p e below QQ (T.setTop g')) : EndsK p e below QQ (T.setTop g) := q ▸ k
end EndsK
section Leave
variable {p : Program} {l : Launch} {e : Env} {R : Room} {s : State} {m : MethodId} {args : Array Value} {below : List Frame} {meth : Method} {c : Code} {T : State} {locs : List Loc} {cells slots : Nat} {Q : Option Value → Heap → List Loc → Prop} {ck cs pc : Nat} {Ls : Array Slot} {rest : List Value}
theorem endI (X : Stand p l e R s m args below meth c T locs cells slots) (hx : p.tables.exec = Jvm.exec) {z : Int32} (hret : meth.sig.returnType = some .int) (hd : decode c.code pc = .ok (.ireturn, 1)) (hlk : meth.locks = false)
    (hq : Q (some (.int z)) T.heap locs) (hc : cells ≤ ck) (hs : slots ≤ cs) : EndsK p e below (OQ s Q ck cs) (T.setTop (mkF m pc Ls (.int z :: rest))) := by
  obtain ⟨fs, hr, hrun, hended, hW, hsame⟩ := X.leave (v := some (.int z)) (fun h => by rw [hret] at h; cases h) hlk
  refine ⟨_, _, retOut X hx hret rfl (Or.inl ⟨rfl, Or.inl rfl, _, rfl⟩) hd hr, hrun, hended, _, _, rfl, hq, ⟨_, rfl⟩, hW, hsame.mono hc hs⟩
theorem endN (X : Stand p l e R s m args below meth c T locs cells slots) (hx : p.tables.exec = Jvm.exec) {z : Int32} {t : FieldType} (hret : meth.sig.returnType = some t) (ht : t = .boolean ∨ t = .byte ∨ t = .char ∨ t = .short) (hd : decode c.code pc = .ok (.ireturn, 1)) (hlk : meth.locks = false)
    (hq : Q (some (.int (nar t z))) T.heap locs) (hc : cells ≤ ck) (hs : slots ≤ cs) : EndsK p e below (OQ s Q ck cs) (T.setTop (mkF m pc Ls (.int z :: rest))) := by
  obtain ⟨fs, hr, hrun, hended, hW, hsame⟩ := X.leave (v := some (.int (nar t z))) (fun h => by rw [hret] at h; cases h) hlk
  exact ⟨_, _, retN X hx hret ht hd hr, hrun, hended, _, _, rfl, hq, ⟨_, rfl⟩, hW, hsame.mono hc hs⟩
theorem endJ (X : Stand p l e R s m args below meth c T locs cells slots) (hx : p.tables.exec = Jvm.exec) {z : Int64} (hret : meth.sig.returnType = some .long) (hd : decode c.code pc = .ok (.lreturn, 1)) (hlk : meth.locks = false)
    (hq : Q (some (.long z)) T.heap locs) (hc : cells ≤ ck) (hs : slots ≤ cs) : EndsK p e below (OQ s Q ck cs) (T.setTop (mkF m pc Ls (.long z :: rest))) := by
  obtain ⟨fs, hr, hrun, hended, hW, hsame⟩ := X.leave (v := some (.long z)) (fun h => by rw [hret] at h; cases h) hlk
  exact ⟨_, _, retOut X hx hret rfl (Or.inr (Or.inl ⟨rfl, rfl, _, rfl⟩)) hd hr, hrun, hended, _, _, rfl, hq, ⟨_, rfl⟩, hW, hsame.mono hc hs⟩
theorem endR (X : Stand p l e R s m args below meth c T locs cells slots) (hx : p.tables.exec = Jvm.exec) {w : Value} {t : FieldType} (hret : meth.sig.returnType = some t) (ht : t.isReference = true) (hw : w.isRef = true) (hd : decode c.code pc = .ok (.areturn, 1)) (hlk : meth.locks = false)
    (hq : Q (some w) T.heap locs) (hc : cells ≤ ck) (hs : slots ≤ cs) : EndsK p e below (OQ s Q ck cs) (T.setTop (mkF m pc Ls (w :: rest))) := by
  obtain ⟨fs, hr, hrun, hended, hW, hsame⟩ := X.leave (v := some w) (fun h => by rw [hret] at h; cases h) hlk
  have hn : narrow t w = w := by cases t <;> first | (cases ht; done) | (cases w <;> first | rfl | (cases hw; done))
  exact ⟨_, _, retOut X hx hret hn (Or.inr (Or.inr (Or.inr (Or.inr ⟨rfl, ht, hw⟩)))) hd hr, hrun, hended, _, _, rfl, hq, ⟨_, rfl⟩, hW, hsame.mono hc hs⟩
theorem endV (X : Stand p l e R s m args below meth c T locs cells slots) (hx : p.tables.exec = Jvm.exec) (hret : meth.sig.returnType = none) (hd : decode c.code pc = .ok (.return_, 1)) (hlk : meth.locks = false)
    (hq : Q none T.heap locs) (hc : cells ≤ ck) (hs : slots ≤ cs) : EndsK p e below (OQ s Q ck cs) (T.setTop (mkF m pc Ls [])) := by
  obtain ⟨fs, hr, hrun, hended, hW, hsame⟩ := X.leave (v := none) (fun _ => rfl) hlk
  exact ⟨_, _, X.returnOut hx hret hd hr, hrun, hended, _, _, rfl, hq, ⟨_, rfl⟩, hW, hsame.mono hc hs⟩
end Leave
section Heaps
variable {h0 h h' : Heap} {a : Addr} {sl : Nat} {v : Value}
theorem ext_refl (h : Heap) : Ext h h := ⟨Nat.le_refl _, fun _ _ q => q⟩
theorem ext_trans (E : Ext h0 h) (E' : Ext h h') : Ext h0 h' := ⟨Nat.le_trans E.1 E'.1, fun x c q => E'.2 x c (E.2 x c q)⟩
theorem ext_wr (E : Ext h0 h) (W : Wr h h' a sl v) (q : h0.size ≤ a) : Ext h0 h' := by
  refine ⟨Nat.le_trans E.1 (Nat.le_of_eq W.size.symm), fun x c r => ?_⟩
  obtain ⟨c', e1, -, -, -, e5, -⟩ := wr_at W (E.2 x c r)
  rw [e1, e5 (fun z => by
    subst z
    exact absurd (Array.getElem?_eq_some_iff.mp r).1 (Nat.not_lt.mpr q))]
end Heaps
section Nums
theorem own_iadd (x y : Int32) (h1 : -2147483648 ≤ x.toInt + y.toInt) (h2 : x.toInt + y.toInt ≤ 2147483647) : (x + y).toInt = x.toInt + y.toInt := by
  have a := c_iadd x y
  have b := rng32 (x + y)
  omega
theorem own_isub (x y : Int32) (h1 : -2147483648 ≤ x.toInt - y.toInt) (h2 : x.toInt - y.toInt ≤ 2147483647) : (x - y).toInt = x.toInt - y.toInt := by
  have a := c_isub x y
  have b := rng32 (x - y)
  omega
theorem own_ladd (x y : Int64) (h1 : -9223372036854775808 ≤ x.toInt + y.toInt) (h2 : x.toInt + y.toInt ≤ 9223372036854775807) : (x + y).toInt = x.toInt + y.toInt := by
  have a := c_ladd x y
  have b := rng64 (x + y)
  omega
theorem own_lsub (x y : Int64) (h1 : -9223372036854775808 ≤ x.toInt - y.toInt) (h2 : x.toInt - y.toInt ≤ 9223372036854775807) : (x - y).toInt = x.toInt - y.toInt := by
  have a := c_lsub x y
  have b := rng64 (x - y)
  omega
theorem own_l2i (x : Int64) (h1 : -2147483648 ≤ x.toInt) (h2 : x.toInt ≤ 2147483647) : x.toInt32.toInt = x.toInt := by
  have a := c_l2i x
  have b := rng32 x.toInt32
  omega
theorem own_wide (x y : Int32) (d : Int) (hy : y.toInt = d) : (x.toInt64 * y.toInt64).toInt = x.toInt * d := by rw [← hy]; exact XT.wideMul x y
end Nums
section Words
variable {Z : State} {args : Array Value} {t u : Term} {a b : Addr} {C n d O : String} {v : Value}
theorem fldI {k : Int32} (ev : t.eval args Z none [] Z = some (.ref a)) (h : (Cond.eq (.field t O n d) (.int k)).value args Z none Z [] = some true) : Fld Z Z.heap a O n d (.int k) := by
  obtain ⟨x, y, e1, e2, -, k2⟩ := cmp_v (Or.inl h)
  cases e2
  obtain ⟨z, rfl⟩ := k2
  have e3 := (fld_at (C := O) (n := n) (dd := d) ev).symm.trans e1
  have q := gotT (Cond.eq_ints e1 rfl) h
  subst q
  exact Fld.start e3
theorem fldR (ev : t.eval args Z none [] Z = some (.ref a)) (eu : u.eval args Z none [] Z = some (.ref b)) (h : (Cond.eq (.field t O n d) u).value args Z none Z [] = some true) : Fld Z Z.heap a O n d (.ref b) := by
  obtain ⟨x, y, e1, e2, -, k2⟩ := cmp_v (Or.inl h)
  cases eu.symm.trans e2
  have e3 := (fld_at (C := O) (n := n) (dd := d) ev).symm.trans e1
  have q := gotT (eq_R e1 eu k2.2 rfl) h
  subst q
  exact Fld.start e3
theorem fldN (ev : t.eval args Z none [] Z = some (.ref a)) (h : (Cond.eq (.field t O n d) .null).value args Z none Z [] = some true) : Fld Z Z.heap a O n d .null :=
  Fld.start ((fld_at (C := O) (n := n) (dd := d) ev).symm.trans (null_v h))
/-- an int[] of the start: its length and what it holds, as the case says -/
theorem arrLen {k : Int32} {cl : Cell} {ty : FieldType} (ev : t.eval args Z none [] Z = some (.ref a)) (A : Arr Z Z.heap a cl ty) (h : (Cond.eq (.length t) (.int k)).value args Z none Z [] = some true) : cl.slots.size < 2 ^ 31 ∧ cl.slots.size.toInt32 = k := by
  obtain ⟨x, y, e1, e2, -, k2⟩ := cmp_v (Or.inl h)
  cases e2
  obtain ⟨z, rfl⟩ := k2
  have q := gotT (Cond.eq_ints e1 rfl) h
  subst q
  have ha := A.fin (Vm.Alike.refl _)
  simp only [Term.eval, ev, ha, Option.bind_eq_bind, Option.bind_some] at e1
  split at e1
  · rename_i hlt; exact ⟨hlt, by simpa using e1⟩
  · cases e1
theorem arrAt {j k : Int32} {cl : Cell} {ty : FieldType} (ev : t.eval args Z none [] Z = some (.ref a)) (A : Arr Z Z.heap a cl ty) (h : (Cond.eq (.elem t (.int j)) (.int k)).value args Z none Z [] = some true) : ¬ (j < 0 ∨ cl.slots.size ≤ j.toNatClampNeg) ∧ cl.slots[j.toNatClampNeg]? = some (.int k) := by
  obtain ⟨x, y, e1, e2, -, k2⟩ := cmp_v (Or.inl h)
  cases e2
  obtain ⟨z, rfl⟩ := k2
  have q := gotT (Cond.eq_ints e1 rfl) h
  subst q
  exact elem_in e1 ev rfl A.1
end Words
end Jvm.OwnK
namespace Jvm.Pilot.@@N@@
open Jvm Jvm.ClassFile Sem Op Lib Jvm.Free Jvm.Stand Jvm.LawKit Jvm.RoadKit Jvm.OwnK Bundle Jvm.Pilot.@@N@@.Jvm.D
theorem own_lmul (x y : Int64) (d : Int) (hy : y.toInt = d) : ((x * y).toInt - x.toInt * d) % 18446744073709551616 = 0 := by rw [← hy]; exact c_lmul x y
theorem own_three {h : Int32} (h1 : ¬ h < (0 : Int32)) (h2 : h < (3 : Int32)) : h = 0 ∨ h = 1 ∨ h = 2 := by
  have a : ¬ h.toInt < (0 : Int32).toInt := fun q => h1 (Int32.lt_iff_toInt_lt.mpr q)
  have b := Int32.lt_iff_toInt_lt.mp h2
  have e0 : (0 : Int32).toInt = 0 := rfl
  have e1 : (1 : Int32).toInt = 1 := rfl
  have e2 : (2 : Int32).toInt = 2 := rfl
  have e3 : (3 : Int32).toInt = 3 := rfl
  rw [← Int32.toInt_inj, ← Int32.toInt_inj, ← Int32.toInt_inj]
  omega
def Enc (st lo h : Int32) : Prop := (h.toInt = 0 ∧ 0 ≤ st.toInt ∧ st.toInt < 12 ∧ 0 ≤ lo.toInt ∧ lo.toInt * 12 + st.toInt < 144) ∨ (h.toInt = 1 ∧ 0 ≤ st.toInt ∧ st.toInt < 8 ∧ 0 ≤ lo.toInt ∧ lo.toInt * 8 + st.toInt < 64) ∨ (h.toInt = 2 ∧ 0 ≤ st.toInt ∧ st.toInt < 7 ∧ 0 ≤ lo.toInt ∧ lo.toInt * 7 + st.toInt < 47)
def Sh (st lo h r : Int32) : Prop := (r.toInt = 0 ∧ ¬ Enc st lo h) ∨ (h.toInt = 0 ∧ 0 ≤ st.toInt ∧ st.toInt < 12 ∧ 0 ≤ lo.toInt ∧ lo.toInt * 12 + st.toInt < 144 ∧ r.toInt = 1 + st.toInt + lo.toInt * 12) ∨ (h.toInt = 1 ∧ 0 ≤ st.toInt ∧ st.toInt < 8 ∧ 0 ≤ lo.toInt ∧ lo.toInt * 8 + st.toInt < 64 ∧ r.toInt = 145 + st.toInt + lo.toInt * 8) ∨ (h.toInt = 2 ∧ 0 ≤ st.toInt ∧ st.toInt < 7 ∧ 0 ≤ lo.toInt ∧ lo.toInt * 7 + st.toInt < 47 ∧ r.toInt = 209 + st.toInt + lo.toInt * 7)
theorem d2_0 : decode method_3_code 0 = .ok (.iload_n 2, 1) := by decide +kernel
theorem d2_1 : decode method_3_code 1 = .ok (.ifCond .lt 8, 3) := by decide +kernel
theorem d2_4 : decode method_3_code 4 = .ok (.iload_n 2, 1) := by decide +kernel
theorem d2_5 : decode method_3_code 5 = .ok (.iconst 2, 1) := by decide +kernel
theorem d2_6 : decode method_3_code 6 = .ok (.if_icmp .le 5, 3) := by decide +kernel
theorem d2_9 : decode method_3_code 9 = .ok (.iconst 0, 1) := by decide +kernel
theorem d2_10 : decode method_3_code 10 = .ok (.ireturn, 1) := by decide +kernel
theorem d2_11 : decode method_3_code 11 = .ok (.iload_n 2, 1) := by decide +kernel
theorem d2_12 : decode method_3_code 12 = .ok (.ifCond .ne 8, 3) := by decide +kernel
theorem d2_15 : decode method_3_code 15 = .ok (.bipush 12, 2) := by decide +kernel
theorem d2_17 : decode method_3_code 17 = .ok (.goto 15, 3) := by decide +kernel
theorem d2_20 : decode method_3_code 20 = .ok (.iload_n 2, 1) := by decide +kernel
theorem d2_21 : decode method_3_code 21 = .ok (.iconst 1, 1) := by decide +kernel
theorem d2_22 : decode method_3_code 22 = .ok (.if_icmp .ne 8, 3) := by decide +kernel
theorem d2_25 : decode method_3_code 25 = .ok (.bipush 8, 2) := by decide +kernel
theorem d2_27 : decode method_3_code 27 = .ok (.goto 5, 3) := by decide +kernel
theorem d2_30 : decode method_3_code 30 = .ok (.bipush 7, 2) := by decide +kernel
theorem d2_32 : decode method_3_code 32 = .ok (.istore_n 3, 1) := by decide +kernel
theorem d2_33 : decode method_3_code 33 = .ok (.iload_n 2, 1) := by decide +kernel
theorem d2_34 : decode method_3_code 34 = .ok (.ifCond .ne 9, 3) := by decide +kernel
theorem d2_37 : decode method_3_code 37 = .ok (.sipush 144, 3) := by decide +kernel
theorem d2_40 : decode method_3_code 40 = .ok (.goto 15, 3) := by decide +kernel
theorem d2_43 : decode method_3_code 43 = .ok (.iload_n 2, 1) := by decide +kernel
theorem d2_44 : decode method_3_code 44 = .ok (.iconst 1, 1) := by decide +kernel
theorem d2_45 : decode method_3_code 45 = .ok (.if_icmp .ne 8, 3) := by decide +kernel
theorem d2_48 : decode method_3_code 48 = .ok (.bipush 64, 2) := by decide +kernel
theorem d2_50 : decode method_3_code 50 = .ok (.goto 5, 3) := by decide +kernel
theorem d2_53 : decode method_3_code 53 = .ok (.bipush 47, 2) := by decide +kernel
theorem d2_55 : decode method_3_code 55 = .ok (.istore 4, 2) := by decide +kernel
theorem d2_57 : decode method_3_code 57 = .ok (.iload_n 0, 1) := by decide +kernel
theorem d2_58 : decode method_3_code 58 = .ok (.ifCond .lt 12, 3) := by decide +kernel
theorem d2_61 : decode method_3_code 61 = .ok (.iload_n 0, 1) := by decide +kernel
theorem d2_62 : decode method_3_code 62 = .ok (.iload_n 3, 1) := by decide +kernel
theorem d2_63 : decode method_3_code 63 = .ok (.if_icmp .ge 7, 3) := by decide +kernel
theorem d2_66 : decode method_3_code 66 = .ok (.iload_n 1, 1) := by decide +kernel
theorem d2_67 : decode method_3_code 67 = .ok (.ifCond .ge 5, 3) := by decide +kernel
theorem d2_70 : decode method_3_code 70 = .ok (.iconst 0, 1) := by decide +kernel
theorem d2_71 : decode method_3_code 71 = .ok (.ireturn, 1) := by decide +kernel
theorem d2_72 : decode method_3_code 72 = .ok (.iload_n 1, 1) := by decide +kernel
theorem d2_73 : decode method_3_code 73 = .ok (.i2l, 1) := by decide +kernel
theorem d2_74 : decode method_3_code 74 = .ok (.iload_n 3, 1) := by decide +kernel
theorem d2_75 : decode method_3_code 75 = .ok (.i2l, 1) := by decide +kernel
theorem d2_76 : decode method_3_code 76 = .ok (.lmul, 1) := by decide +kernel
theorem d2_77 : decode method_3_code 77 = .ok (.iload_n 0, 1) := by decide +kernel
theorem d2_78 : decode method_3_code 78 = .ok (.i2l, 1) := by decide +kernel
theorem d2_79 : decode method_3_code 79 = .ok (.ladd, 1) := by decide +kernel
theorem d2_80 : decode method_3_code 80 = .ok (.iload 4, 2) := by decide +kernel
theorem d2_82 : decode method_3_code 82 = .ok (.i2l, 1) := by decide +kernel
theorem d2_83 : decode method_3_code 83 = .ok (.lcmp, 1) := by decide +kernel
theorem d2_84 : decode method_3_code 84 = .ok (.ifCond .ge 7, 3) := by decide +kernel
theorem d2_87 : decode method_3_code 87 = .ok (.iconst 1, 1) := by decide +kernel
theorem d2_88 : decode method_3_code 88 = .ok (.goto 4, 3) := by decide +kernel
theorem d2_91 : decode method_3_code 91 = .ok (.iconst 0, 1) := by decide +kernel
theorem d2_92 : decode method_3_code 92 = .ok (.ireturn, 1) := by decide +kernel
theorem pn0 : plainName "com/example/packwright/packwright/pack200/CodeBandsShortHeaderPinLaw" = true := by first | (simp [plainName, overriddenIn]; done) | decide +kernel
theorem ef_enc (m : MethodId) (st : Int32) (lo : Int32) (h : Int32) : entryFrame m #[(.int st), (.int lo), (.int h)] 5 = mkF m 0 #[.val (.int st), .val (.int lo), .val (.int h), .unset, .unset] [] := by first | (simp [entryFrame, mkF, argsToLocals, Value.category]; done) | rfl
def Q_enc (Z : State) (st : Int32) (lo : Int32) (h : Int32) (h0 : Heap) (n0 : Nat) (vz : Option Value) (hz : Heap) (Lz : List Loc) : Prop := ∃ r : Int32, vz = some (.int r) ∧ Fr n0 Lz ∧ hz = h0 ∧ ((r.toInt = 1 ∧ Enc st lo h) ∨ (r.toInt = 0 ∧ ¬ Enc st lo h))
set_option maxRecDepth 65536 in
set_option maxHeartbeats 40000000 in
theorem rm_enc (l : Launch) (Z : State) (a0 : Array Value) (hw : ∀ d ∈ tables_1, d.before a0 Z = true) (ws : List Jvm.Cond) (st : Int32) (lo : Int32) (h : Int32) (h0 : Heap) (n0 : Nat) (Z0 : n0 ≤ h0.size)  :
    MetFree l (⟨"com/example/packwright/packwright/pack200/CodeBandsShortHeaderPinLaw", "encodable", "(III)Z"⟩ : MethodName) (head1 (Jvm.Cond.code (⟨"com/example/packwright/packwright/pack200/CodeBandsShortHeaderPinLaw", "encodable", "(III)Z"⟩ : MethodName) method_3_code 5 (some .boolean) :: ws) ({ frames := 0, cells := 0, slots := 0, locals := 0 } : Room)) (fun az Uz => az = #[(.int st), (.int lo), (.int h)] ∧ Z.Warmed39 Uz.vm ∧ Uz.heap = h0) (fun _ _ _ _ _ => True) (fun _ Uz oz Ut => ∃ vz Lz, oz = .returned vz ∧ Q_enc Z st lo h h0 n0 vz Ut.heap Lz ∧ FrameEnd Uz oz Ut Lz (({ frames := 0, cells := 0, slots := 0, locals := 0 } : Room)).cells (({ frames := 0, cells := 0, slots := 0, locals := 0 } : Room)).slots) := by
  refine MetFree.of_bodySF (plainFor_of_name pn0) hisR ?_
  intro p e s m args below meth c s₁ Bd hml0 hP hK
  obtain ⟨rfl, hZ, hh⟩ := hP
  have hx := Bd.exec
  have hby := Bd.bytes
  have hml : c.maxLocals = 5 := hml0
  have hown : s.vm.findClass "com/example/packwright/packwright/pack200/CodeBandsShortHeaderPinLaw" = some m.cls := findClass_of_methodNamed Bd.named
  have hnm := (name_of_methodNamed Bd.named Bd.method).1
  have hlk : meth.locks = false := Bd.notSynchronized
  have X0 : Stand p l e ({ frames := 0, cells := 0, slots := 0, locals := 0 } : Room) s m #[(.int st), (.int lo), (.int h)] below meth c s₁ [] 0 0 := Stand.of_body Bd
  have e0 : s₁.heap = h0 := by rw [← hh, Bd.state]; rfl
  have N0 := Fr.nil n0
  show EndsK p e below (OQ s (Q_enc Z st lo h h0 n0) (({ frames := 0, cells := 0, slots := 0, locals := 0 } : Room)).cells (({ frames := 0, cells := 0, slots := 0, locals := 0 } : Room)).slots) (s₁.setTop (entryFrame m #[(.int st), (.int lo), (.int h)] 5))
  refine EndsK.start (ef_enc m st lo h) ?_
  show EndsK p e below _ (s₁.setTop (mkF m 0 #[.val (.int st), .val (.int lo), .val (.int h), .unset, .unset] []))
  refine EndsK.go (fun _ kz => XS.iloadN X0.here hx rfl (hb hby d2_0) rfl kz) ?_
  show EndsK p e below _ (s₁.setTop (mkF m 1 #[.val (.int st), .val (.int lo), .val (.int h), .unset, .unset] [(.int h)]))
  by_cases H1_1 : h < (0 : Int32)
  · refine EndsK.go (fun _ kz => XS.ifYes X0.here hx rfl (pc0 := 1) (pc' := 9) rfl (hb hby d2_1) rfl ((if0 _ _).trans (tlt H1_1).1) (by decide) (by decide) kz) ?_
    show EndsK p e below _ (s₁.setTop (mkF m 9 #[.val (.int st), .val (.int lo), .val (.int h), .unset, .unset] []))
    refine EndsK.go (fun _ kz => XS.iconst X0.here hx rfl (hb hby d2_9) kz) ?_
    show EndsK p e below _ (s₁.setTop (mkF m 10 #[.val (.int st), .val (.int lo), .val (.int h), .unset, .unset] [(.int (0 : Int32))]))
    exact endN X0 hx (t := .boolean) Bd.returns (by simp) (hb hby d2_10) hlk ⟨(0 : Int32), rfl, N0, e0, Or.inr ⟨rfl, by
        unfold Enc
        have fz1 := rng32 h
        have fz2 : ((0 : Int32)).toInt = 0 := rfl
        have fz3 : (h).toInt < ((0 : Int32)).toInt := Int32.lt_iff_toInt_lt.mp H1_1
        have fz4 := rng32 st
        have fz5 := rng32 lo
        omega⟩⟩ (by decide) (by decide)
  · refine EndsK.go (fun _ kz => XS.ifNo X0.here hx rfl (hb hby d2_1) rfl ((if0 _ _).trans (flt H1_1).1) kz) ?_
    show EndsK p e below _ (s₁.setTop (mkF m 4 #[.val (.int st), .val (.int lo), .val (.int h), .unset, .unset] []))
    refine EndsK.go (fun _ kz => XS.iloadN X0.here hx rfl (hb hby d2_4) rfl kz) ?_
    show EndsK p e below _ (s₁.setTop (mkF m 5 #[.val (.int st), .val (.int lo), .val (.int h), .unset, .unset] [(.int h)]))
    refine EndsK.go (fun _ kz => XS.iconst X0.here hx rfl (hb hby d2_5) kz) ?_
    show EndsK p e below _ (s₁.setTop (mkF m 6 #[.val (.int st), .val (.int lo), .val (.int h), .unset, .unset] [(.int (2 : Int32)), (.int h)]))
    by_cases H6_2 : (2 : Int32) < h
    · refine EndsK.go (fun _ kz => XS.icmpNo X0.here hx rfl (hb hby d2_6) rfl (tlt H6_2).2.2.2 kz) ?_
      show EndsK p e below _ (s₁.setTop (mkF m 9 #[.val (.int st), .val (.int lo), .val (.int h), .unset, .unset] []))
      refine EndsK.go (fun _ kz => XS.iconst X0.here hx rfl (hb hby d2_9) kz) ?_
      show EndsK p e below _ (s₁.setTop (mkF m 10 #[.val (.int st), .val (.int lo), .val (.int h), .unset, .unset] [(.int (0 : Int32))]))
      exact endN X0 hx (t := .boolean) Bd.returns (by simp) (hb hby d2_10) hlk ⟨(0 : Int32), rfl, N0, e0, Or.inr ⟨rfl, by
          unfold Enc
          have fz1 := rng32 h
          have fz2 : ((0 : Int32)).toInt = 0 := rfl
          have fz3 : ¬ ((h).toInt < ((0 : Int32)).toInt) := fun qz => H1_1 (Int32.lt_iff_toInt_lt.mpr qz)
          have fz4 : ((2 : Int32)).toInt = 2 := rfl
          have fz5 : ((2 : Int32)).toInt < (h).toInt := Int32.lt_iff_toInt_lt.mp H6_2
          have fz6 := rng32 st
          have fz7 := rng32 lo
          omega⟩⟩ (by decide) (by decide)
    · refine EndsK.go (fun _ kz => XS.icmpYes X0.here hx rfl (pc0 := 6) (pc' := 11) rfl (hb hby d2_6) rfl (flt H6_2).2.2.2 (by decide) (by decide) kz) ?_
      show EndsK p e below _ (s₁.setTop (mkF m 11 #[.val (.int st), .val (.int lo), .val (.int h), .unset, .unset] []))
      refine EndsK.go (fun _ kz => XS.iloadN X0.here hx rfl (hb hby d2_11) rfl kz) ?_
      show EndsK p e below _ (s₁.setTop (mkF m 12 #[.val (.int st), .val (.int lo), .val (.int h), .unset, .unset] [(.int h)]))
      by_cases H12_3 : h = (0 : Int32)
      · refine EndsK.go (fun _ kz => XS.ifNo X0.here hx rfl (hb hby d2_12) rfl ((if0 _ _).trans (teq H12_3).2) kz) ?_
        show EndsK p e below _ (s₁.setTop (mkF m 15 #[.val (.int st), .val (.int lo), .val (.int h), .unset, .unset] []))
        refine EndsK.go (fun _ kz => XS.bipush X0.here hx rfl (hb hby d2_15) kz) ?_
        show EndsK p e below _ (s₁.setTop (mkF m 17 #[.val (.int st), .val (.int lo), .val (.int h), .unset, .unset] [(.int (12 : Int32))]))
        refine EndsK.go (fun _ kz => XS.goto X0.here hx rfl (pc0 := 17) (pc' := 32) rfl (hb hby d2_17) (by decide) (by decide) kz) ?_
        show EndsK p e below _ (s₁.setTop (mkF m 32 #[.val (.int st), .val (.int lo), .val (.int h), .unset, .unset] [(.int (12 : Int32))]))
        refine EndsK.go (fun _ kz => XS.istoreN X0.here hx rfl (hb hby d2_32) rfl (l' := #[.val (.int st), .val (.int lo), .val (.int h), .val (.int (12 : Int32)), .unset]) rfl kz) ?_
        show EndsK p e below _ (s₁.setTop (mkF m 33 #[.val (.int st), .val (.int lo), .val (.int h), .val (.int (12 : Int32)), .unset] []))
        refine EndsK.go (fun _ kz => XS.iloadN X0.here hx rfl (hb hby d2_33) rfl kz) ?_
        show EndsK p e below _ (s₁.setTop (mkF m 34 #[.val (.int st), .val (.int lo), .val (.int h), .val (.int (12 : Int32)), .unset] [(.int h)]))
        refine EndsK.go (fun _ kz => XS.ifNo X0.here hx rfl (hb hby d2_34) rfl ((if0 _ _).trans (teq H12_3).2) kz) ?_
        show EndsK p e below _ (s₁.setTop (mkF m 37 #[.val (.int st), .val (.int lo), .val (.int h), .val (.int (12 : Int32)), .unset] []))
        refine EndsK.go (fun _ kz => XS.sipush X0.here hx rfl (hb hby d2_37) kz) ?_
        show EndsK p e below _ (s₁.setTop (mkF m 40 #[.val (.int st), .val (.int lo), .val (.int h), .val (.int (12 : Int32)), .unset] [(.int (144 : Int32))]))
        refine EndsK.go (fun _ kz => XS.goto X0.here hx rfl (pc0 := 40) (pc' := 55) rfl (hb hby d2_40) (by decide) (by decide) kz) ?_
        show EndsK p e below _ (s₁.setTop (mkF m 55 #[.val (.int st), .val (.int lo), .val (.int h), .val (.int (12 : Int32)), .unset] [(.int (144 : Int32))]))
        refine EndsK.go (fun _ kz => XS.istore X0.here hx rfl (hb hby d2_55) rfl (l' := #[.val (.int st), .val (.int lo), .val (.int h), .val (.int (12 : Int32)), .val (.int (144 : Int32))]) rfl kz) ?_
        show EndsK p e below _ (s₁.setTop (mkF m 57 #[.val (.int st), .val (.int lo), .val (.int h), .val (.int (12 : Int32)), .val (.int (144 : Int32))] []))
        refine EndsK.go (fun _ kz => XS.iloadN X0.here hx rfl (hb hby d2_57) rfl kz) ?_
        show EndsK p e below _ (s₁.setTop (mkF m 58 #[.val (.int st), .val (.int lo), .val (.int h), .val (.int (12 : Int32)), .val (.int (144 : Int32))] [(.int st)]))
        by_cases H58_4 : st < (0 : Int32)
        · refine EndsK.go (fun _ kz => XS.ifYes X0.here hx rfl (pc0 := 58) (pc' := 70) rfl (hb hby d2_58) rfl ((if0 _ _).trans (tlt H58_4).1) (by decide) (by decide) kz) ?_
          show EndsK p e below _ (s₁.setTop (mkF m 70 #[.val (.int st), .val (.int lo), .val (.int h), .val (.int (12 : Int32)), .val (.int (144 : Int32))] []))
          refine EndsK.go (fun _ kz => XS.iconst X0.here hx rfl (hb hby d2_70) kz) ?_
          show EndsK p e below _ (s₁.setTop (mkF m 71 #[.val (.int st), .val (.int lo), .val (.int h), .val (.int (12 : Int32)), .val (.int (144 : Int32))] [(.int (0 : Int32))]))
          exact endN X0 hx (t := .boolean) Bd.returns (by simp) (hb hby d2_71) hlk ⟨(0 : Int32), rfl, N0, e0, Or.inr ⟨rfl, by
              unfold Enc
              have fz1 := rng32 h
              have fz2 : ((0 : Int32)).toInt = 0 := rfl
              have fz3 : ¬ ((h).toInt < ((0 : Int32)).toInt) := fun qz => H1_1 (Int32.lt_iff_toInt_lt.mpr qz)
              have fz4 : ((2 : Int32)).toInt = 2 := rfl
              have fz5 : ¬ (((2 : Int32)).toInt < (h).toInt) := fun qz => H6_2 (Int32.lt_iff_toInt_lt.mpr qz)
              have fz6 : (h).toInt = ((0 : Int32)).toInt := congrArg Int32.toInt H12_3
              have fz7 := rng32 st
              have fz8 : (st).toInt < ((0 : Int32)).toInt := Int32.lt_iff_toInt_lt.mp H58_4
              have fz9 := rng32 lo
              omega⟩⟩ (by decide) (by decide)
        · refine EndsK.go (fun _ kz => XS.ifNo X0.here hx rfl (hb hby d2_58) rfl ((if0 _ _).trans (flt H58_4).1) kz) ?_
          show EndsK p e below _ (s₁.setTop (mkF m 61 #[.val (.int st), .val (.int lo), .val (.int h), .val (.int (12 : Int32)), .val (.int (144 : Int32))] []))
          refine EndsK.go (fun _ kz => XS.iloadN X0.here hx rfl (hb hby d2_61) rfl kz) ?_
          show EndsK p e below _ (s₁.setTop (mkF m 62 #[.val (.int st), .val (.int lo), .val (.int h), .val (.int (12 : Int32)), .val (.int (144 : Int32))] [(.int st)]))
          refine EndsK.go (fun _ kz => XS.iloadN X0.here hx rfl (hb hby d2_62) rfl kz) ?_
          show EndsK p e below _ (s₁.setTop (mkF m 63 #[.val (.int st), .val (.int lo), .val (.int h), .val (.int (12 : Int32)), .val (.int (144 : Int32))] [(.int (12 : Int32)), (.int st)]))
          by_cases H63_5 : st < (12 : Int32)
          · refine EndsK.go (fun _ kz => XS.icmpNo X0.here hx rfl (hb hby d2_63) rfl (tlt H63_5).2.1 kz) ?_
            show EndsK p e below _ (s₁.setTop (mkF m 66 #[.val (.int st), .val (.int lo), .val (.int h), .val (.int (12 : Int32)), .val (.int (144 : Int32))] []))
            refine EndsK.go (fun _ kz => XS.iloadN X0.here hx rfl (hb hby d2_66) rfl kz) ?_
            show EndsK p e below _ (s₁.setTop (mkF m 67 #[.val (.int st), .val (.int lo), .val (.int h), .val (.int (12 : Int32)), .val (.int (144 : Int32))] [(.int lo)]))
            by_cases H67_6 : lo < (0 : Int32)
            · refine EndsK.go (fun _ kz => XS.ifNo X0.here hx rfl (hb hby d2_67) rfl ((if0 _ _).trans (tlt H67_6).2.1) kz) ?_
              show EndsK p e below _ (s₁.setTop (mkF m 70 #[.val (.int st), .val (.int lo), .val (.int h), .val (.int (12 : Int32)), .val (.int (144 : Int32))] []))
              refine EndsK.go (fun _ kz => XS.iconst X0.here hx rfl (hb hby d2_70) kz) ?_
              show EndsK p e below _ (s₁.setTop (mkF m 71 #[.val (.int st), .val (.int lo), .val (.int h), .val (.int (12 : Int32)), .val (.int (144 : Int32))] [(.int (0 : Int32))]))
              exact endN X0 hx (t := .boolean) Bd.returns (by simp) (hb hby d2_71) hlk ⟨(0 : Int32), rfl, N0, e0, Or.inr ⟨rfl, by
                  unfold Enc
                  have fz1 := rng32 h
                  have fz2 : ((0 : Int32)).toInt = 0 := rfl
                  have fz3 : ¬ ((h).toInt < ((0 : Int32)).toInt) := fun qz => H1_1 (Int32.lt_iff_toInt_lt.mpr qz)
                  have fz4 : ((2 : Int32)).toInt = 2 := rfl
                  have fz5 : ¬ (((2 : Int32)).toInt < (h).toInt) := fun qz => H6_2 (Int32.lt_iff_toInt_lt.mpr qz)
                  have fz6 : (h).toInt = ((0 : Int32)).toInt := congrArg Int32.toInt H12_3
                  have fz7 := rng32 st
                  have fz8 : ¬ ((st).toInt < ((0 : Int32)).toInt) := fun qz => H58_4 (Int32.lt_iff_toInt_lt.mpr qz)
                  have fz9 : ((12 : Int32)).toInt = 12 := rfl
                  have fz10 : (st).toInt < ((12 : Int32)).toInt := Int32.lt_iff_toInt_lt.mp H63_5
                  have fz11 := rng32 lo
                  have fz12 : (lo).toInt < ((0 : Int32)).toInt := Int32.lt_iff_toInt_lt.mp H67_6
                  omega⟩⟩ (by decide) (by decide)
            · refine EndsK.go (fun _ kz => XS.ifYes X0.here hx rfl (pc0 := 67) (pc' := 72) rfl (hb hby d2_67) rfl ((if0 _ _).trans (flt H67_6).2.1) (by decide) (by decide) kz) ?_
              show EndsK p e below _ (s₁.setTop (mkF m 72 #[.val (.int st), .val (.int lo), .val (.int h), .val (.int (12 : Int32)), .val (.int (144 : Int32))] []))
              refine EndsK.go (fun _ kz => XS.iloadN X0.here hx rfl (hb hby d2_72) rfl kz) ?_
              show EndsK p e below _ (s₁.setTop (mkF m 73 #[.val (.int st), .val (.int lo), .val (.int h), .val (.int (12 : Int32)), .val (.int (144 : Int32))] [(.int lo)]))
              refine EndsK.go (fun _ kz => XS.i2l X0.here hx rfl (hb hby d2_73) rfl kz) ?_
              show EndsK p e below _ (s₁.setTop (mkF m 74 #[.val (.int st), .val (.int lo), .val (.int h), .val (.int (12 : Int32)), .val (.int (144 : Int32))] [(.long lo.toInt64)]))
              refine EndsK.go (fun _ kz => XS.iloadN X0.here hx rfl (hb hby d2_74) rfl kz) ?_
              show EndsK p e below _ (s₁.setTop (mkF m 75 #[.val (.int st), .val (.int lo), .val (.int h), .val (.int (12 : Int32)), .val (.int (144 : Int32))] [(.int (12 : Int32)), (.long lo.toInt64)]))
              refine EndsK.go (fun _ kz => XS.i2l X0.here hx rfl (hb hby d2_75) rfl kz) ?_
              show EndsK p e below _ (s₁.setTop (mkF m 76 #[.val (.int st), .val (.int lo), .val (.int h), .val (.int (12 : Int32)), .val (.int (144 : Int32))] [(.long (12 : Int32).toInt64), (.long lo.toInt64)]))
              refine EndsK.go (fun _ kz => XS.lmul X0.here hx rfl (hb hby d2_76) rfl kz) ?_
              show EndsK p e below _ (s₁.setTop (mkF m 77 #[.val (.int st), .val (.int lo), .val (.int h), .val (.int (12 : Int32)), .val (.int (144 : Int32))] [(.long (lo.toInt64 * (12 : Int32).toInt64))]))
              refine EndsK.go (fun _ kz => XS.iloadN X0.here hx rfl (hb hby d2_77) rfl kz) ?_
              show EndsK p e below _ (s₁.setTop (mkF m 78 #[.val (.int st), .val (.int lo), .val (.int h), .val (.int (12 : Int32)), .val (.int (144 : Int32))] [(.int st), (.long (lo.toInt64 * (12 : Int32).toInt64))]))
              refine EndsK.go (fun _ kz => XS.i2l X0.here hx rfl (hb hby d2_78) rfl kz) ?_
              show EndsK p e below _ (s₁.setTop (mkF m 79 #[.val (.int st), .val (.int lo), .val (.int h), .val (.int (12 : Int32)), .val (.int (144 : Int32))] [(.long st.toInt64), (.long (lo.toInt64 * (12 : Int32).toInt64))]))
              refine EndsK.go (fun _ kz => XS.ladd X0.here hx rfl (hb hby d2_79) rfl kz) ?_
              show EndsK p e below _ (s₁.setTop (mkF m 80 #[.val (.int st), .val (.int lo), .val (.int h), .val (.int (12 : Int32)), .val (.int (144 : Int32))] [(.long ((lo.toInt64 * (12 : Int32).toInt64) + st.toInt64))]))
              refine EndsK.go (fun _ kz => XS.iload X0.here hx rfl (hb hby d2_80) rfl kz) ?_
              show EndsK p e below _ (s₁.setTop (mkF m 82 #[.val (.int st), .val (.int lo), .val (.int h), .val (.int (12 : Int32)), .val (.int (144 : Int32))] [(.int (144 : Int32)), (.long ((lo.toInt64 * (12 : Int32).toInt64) + st.toInt64))]))
              refine EndsK.go (fun _ kz => XS.i2l X0.here hx rfl (hb hby d2_82) rfl kz) ?_
              show EndsK p e below _ (s₁.setTop (mkF m 83 #[.val (.int st), .val (.int lo), .val (.int h), .val (.int (12 : Int32)), .val (.int (144 : Int32))] [(.long (144 : Int32).toInt64), (.long ((lo.toInt64 * (12 : Int32).toInt64) + st.toInt64))]))
              refine EndsK.go (fun _ kz => XS.lcmp X0.here hx rfl (hb hby d2_83) rfl kz) ?_
              show EndsK p e below _ (s₁.setTop (mkF m 84 #[.val (.int st), .val (.int lo), .val (.int h), .val (.int (12 : Int32)), .val (.int (144 : Int32))] [(.int (lcmpW ((lo.toInt64 * (12 : Int32).toInt64) + st.toInt64) (144 : Int32).toInt64))]))
              by_cases H84_7 : (lcmpW ((lo.toInt64 * (12 : Int32).toInt64) + st.toInt64) (144 : Int32).toInt64) < (0 : Int32)
              · refine EndsK.go (fun _ kz => XS.ifNo X0.here hx rfl (hb hby d2_84) rfl ((if0 _ _).trans (tlt H84_7).2.1) kz) ?_
                show EndsK p e below _ (s₁.setTop (mkF m 87 #[.val (.int st), .val (.int lo), .val (.int h), .val (.int (12 : Int32)), .val (.int (144 : Int32))] []))
                refine EndsK.go (fun _ kz => XS.iconst X0.here hx rfl (hb hby d2_87) kz) ?_
                show EndsK p e below _ (s₁.setTop (mkF m 88 #[.val (.int st), .val (.int lo), .val (.int h), .val (.int (12 : Int32)), .val (.int (144 : Int32))] [(.int (1 : Int32))]))
                refine EndsK.go (fun _ kz => XS.goto X0.here hx rfl (pc0 := 88) (pc' := 92) rfl (hb hby d2_88) (by decide) (by decide) kz) ?_
                show EndsK p e below _ (s₁.setTop (mkF m 92 #[.val (.int st), .val (.int lo), .val (.int h), .val (.int (12 : Int32)), .val (.int (144 : Int32))] [(.int (1 : Int32))]))
                exact endN X0 hx (t := .boolean) Bd.returns (by simp) (hb hby d2_92) hlk ⟨(1 : Int32), rfl, N0, e0, Or.inl ⟨rfl, by
                    unfold Enc
                    have fz1 := rng32 h
                    have fz2 : ((0 : Int32)).toInt = 0 := rfl
                    have fz3 : ¬ ((h).toInt < ((0 : Int32)).toInt) := fun qz => H1_1 (Int32.lt_iff_toInt_lt.mpr qz)
                    have fz4 : ((2 : Int32)).toInt = 2 := rfl
                    have fz5 : ¬ (((2 : Int32)).toInt < (h).toInt) := fun qz => H6_2 (Int32.lt_iff_toInt_lt.mpr qz)
                    have fz6 : (h).toInt = ((0 : Int32)).toInt := congrArg Int32.toInt H12_3
                    have fz7 := rng32 st
                    have fz8 : ¬ ((st).toInt < ((0 : Int32)).toInt) := fun qz => H58_4 (Int32.lt_iff_toInt_lt.mpr qz)
                    have fz9 : ((12 : Int32)).toInt = 12 := rfl
                    have fz10 : (st).toInt < ((12 : Int32)).toInt := Int32.lt_iff_toInt_lt.mp H63_5
                    have fz11 := rng32 lo
                    have fz12 : ¬ ((lo).toInt < ((0 : Int32)).toInt) := fun qz => H67_6 (Int32.lt_iff_toInt_lt.mpr qz)
                    have fz13 := c_i2l lo
                    have fz14 := c_i2l (12 : Int32)
                    have fz15 := own_wide lo (12 : Int32) 12 rfl
                    have fz16 := c_i2l st
                    have fz17 : (((lo.toInt64 * (12 : Int32).toInt64) + st.toInt64)).toInt = ((lo.toInt64 * (12 : Int32).toInt64)).toInt + (st.toInt64).toInt := own_ladd (lo.toInt64 * (12 : Int32).toInt64) st.toInt64 (by omega) (by omega)
                    have fz18 : ((144 : Int32)).toInt = 144 := rfl
                    have fz19 := c_i2l (144 : Int32)
                    have fz20 := c_lcmp ((lo.toInt64 * (12 : Int32).toInt64) + st.toInt64) (144 : Int32).toInt64
                    have fz21 : ((lcmpW ((lo.toInt64 * (12 : Int32).toInt64) + st.toInt64) (144 : Int32).toInt64)).toInt < ((0 : Int32)).toInt := Int32.lt_iff_toInt_lt.mp H84_7
                    omega⟩⟩ (by decide) (by decide)
              · refine EndsK.go (fun _ kz => XS.ifYes X0.here hx rfl (pc0 := 84) (pc' := 91) rfl (hb hby d2_84) rfl ((if0 _ _).trans (flt H84_7).2.1) (by decide) (by decide) kz) ?_
                show EndsK p e below _ (s₁.setTop (mkF m 91 #[.val (.int st), .val (.int lo), .val (.int h), .val (.int (12 : Int32)), .val (.int (144 : Int32))] []))
                refine EndsK.go (fun _ kz => XS.iconst X0.here hx rfl (hb hby d2_91) kz) ?_
                show EndsK p e below _ (s₁.setTop (mkF m 92 #[.val (.int st), .val (.int lo), .val (.int h), .val (.int (12 : Int32)), .val (.int (144 : Int32))] [(.int (0 : Int32))]))
                exact endN X0 hx (t := .boolean) Bd.returns (by simp) (hb hby d2_92) hlk ⟨(0 : Int32), rfl, N0, e0, Or.inr ⟨rfl, by
                    unfold Enc
                    have fz1 := rng32 h
                    have fz2 : ((0 : Int32)).toInt = 0 := rfl
                    have fz3 : ¬ ((h).toInt < ((0 : Int32)).toInt) := fun qz => H1_1 (Int32.lt_iff_toInt_lt.mpr qz)
                    have fz4 : ((2 : Int32)).toInt = 2 := rfl
                    have fz5 : ¬ (((2 : Int32)).toInt < (h).toInt) := fun qz => H6_2 (Int32.lt_iff_toInt_lt.mpr qz)
                    have fz6 : (h).toInt = ((0 : Int32)).toInt := congrArg Int32.toInt H12_3
                    have fz7 := rng32 st
                    have fz8 : ¬ ((st).toInt < ((0 : Int32)).toInt) := fun qz => H58_4 (Int32.lt_iff_toInt_lt.mpr qz)
                    have fz9 : ((12 : Int32)).toInt = 12 := rfl
                    have fz10 : (st).toInt < ((12 : Int32)).toInt := Int32.lt_iff_toInt_lt.mp H63_5
                    have fz11 := rng32 lo
                    have fz12 : ¬ ((lo).toInt < ((0 : Int32)).toInt) := fun qz => H67_6 (Int32.lt_iff_toInt_lt.mpr qz)
                    have fz13 := c_i2l lo
                    have fz14 := c_i2l (12 : Int32)
                    have fz15 := own_wide lo (12 : Int32) 12 rfl
                    have fz16 := c_i2l st
                    have fz17 : (((lo.toInt64 * (12 : Int32).toInt64) + st.toInt64)).toInt = ((lo.toInt64 * (12 : Int32).toInt64)).toInt + (st.toInt64).toInt := own_ladd (lo.toInt64 * (12 : Int32).toInt64) st.toInt64 (by omega) (by omega)
                    have fz18 : ((144 : Int32)).toInt = 144 := rfl
                    have fz19 := c_i2l (144 : Int32)
                    have fz20 := c_lcmp ((lo.toInt64 * (12 : Int32).toInt64) + st.toInt64) (144 : Int32).toInt64
                    have fz21 : ¬ (((lcmpW ((lo.toInt64 * (12 : Int32).toInt64) + st.toInt64) (144 : Int32).toInt64)).toInt < ((0 : Int32)).toInt) := fun qz => H84_7 (Int32.lt_iff_toInt_lt.mpr qz)
                    omega⟩⟩ (by decide) (by decide)
          · refine EndsK.go (fun _ kz => XS.icmpYes X0.here hx rfl (pc0 := 63) (pc' := 70) rfl (hb hby d2_63) rfl (flt H63_5).2.1 (by decide) (by decide) kz) ?_
            show EndsK p e below _ (s₁.setTop (mkF m 70 #[.val (.int st), .val (.int lo), .val (.int h), .val (.int (12 : Int32)), .val (.int (144 : Int32))] []))
            refine EndsK.go (fun _ kz => XS.iconst X0.here hx rfl (hb hby d2_70) kz) ?_
            show EndsK p e below _ (s₁.setTop (mkF m 71 #[.val (.int st), .val (.int lo), .val (.int h), .val (.int (12 : Int32)), .val (.int (144 : Int32))] [(.int (0 : Int32))]))
            exact endN X0 hx (t := .boolean) Bd.returns (by simp) (hb hby d2_71) hlk ⟨(0 : Int32), rfl, N0, e0, Or.inr ⟨rfl, by
                unfold Enc
                have fz1 := rng32 h
                have fz2 : ((0 : Int32)).toInt = 0 := rfl
                have fz3 : ¬ ((h).toInt < ((0 : Int32)).toInt) := fun qz => H1_1 (Int32.lt_iff_toInt_lt.mpr qz)
                have fz4 : ((2 : Int32)).toInt = 2 := rfl
                have fz5 : ¬ (((2 : Int32)).toInt < (h).toInt) := fun qz => H6_2 (Int32.lt_iff_toInt_lt.mpr qz)
                have fz6 : (h).toInt = ((0 : Int32)).toInt := congrArg Int32.toInt H12_3
                have fz7 := rng32 st
                have fz8 : ¬ ((st).toInt < ((0 : Int32)).toInt) := fun qz => H58_4 (Int32.lt_iff_toInt_lt.mpr qz)
                have fz9 : ((12 : Int32)).toInt = 12 := rfl
                have fz10 : ¬ ((st).toInt < ((12 : Int32)).toInt) := fun qz => H63_5 (Int32.lt_iff_toInt_lt.mpr qz)
                have fz11 := rng32 lo
                omega⟩⟩ (by decide) (by decide)
      · refine EndsK.go (fun _ kz => XS.ifYes X0.here hx rfl (pc0 := 12) (pc' := 20) rfl (hb hby d2_12) rfl ((if0 _ _).trans (feq H12_3).2) (by decide) (by decide) kz) ?_
        show EndsK p e below _ (s₁.setTop (mkF m 20 #[.val (.int st), .val (.int lo), .val (.int h), .unset, .unset] []))
        refine EndsK.go (fun _ kz => XS.iloadN X0.here hx rfl (hb hby d2_20) rfl kz) ?_
        show EndsK p e below _ (s₁.setTop (mkF m 21 #[.val (.int st), .val (.int lo), .val (.int h), .unset, .unset] [(.int h)]))
        refine EndsK.go (fun _ kz => XS.iconst X0.here hx rfl (hb hby d2_21) kz) ?_
        show EndsK p e below _ (s₁.setTop (mkF m 22 #[.val (.int st), .val (.int lo), .val (.int h), .unset, .unset] [(.int (1 : Int32)), (.int h)]))
        by_cases H22_8 : h = (1 : Int32)
        · refine EndsK.go (fun _ kz => XS.icmpNo X0.here hx rfl (hb hby d2_22) rfl (teq H22_8).2 kz) ?_
          show EndsK p e below _ (s₁.setTop (mkF m 25 #[.val (.int st), .val (.int lo), .val (.int h), .unset, .unset] []))
          refine EndsK.go (fun _ kz => XS.bipush X0.here hx rfl (hb hby d2_25) kz) ?_
          show EndsK p e below _ (s₁.setTop (mkF m 27 #[.val (.int st), .val (.int lo), .val (.int h), .unset, .unset] [(.int (8 : Int32))]))
          refine EndsK.go (fun _ kz => XS.goto X0.here hx rfl (pc0 := 27) (pc' := 32) rfl (hb hby d2_27) (by decide) (by decide) kz) ?_
          show EndsK p e below _ (s₁.setTop (mkF m 32 #[.val (.int st), .val (.int lo), .val (.int h), .unset, .unset] [(.int (8 : Int32))]))
          refine EndsK.go (fun _ kz => XS.istoreN X0.here hx rfl (hb hby d2_32) rfl (l' := #[.val (.int st), .val (.int lo), .val (.int h), .val (.int (8 : Int32)), .unset]) rfl kz) ?_
          show EndsK p e below _ (s₁.setTop (mkF m 33 #[.val (.int st), .val (.int lo), .val (.int h), .val (.int (8 : Int32)), .unset] []))
          refine EndsK.go (fun _ kz => XS.iloadN X0.here hx rfl (hb hby d2_33) rfl kz) ?_
          show EndsK p e below _ (s₁.setTop (mkF m 34 #[.val (.int st), .val (.int lo), .val (.int h), .val (.int (8 : Int32)), .unset] [(.int h)]))
          refine EndsK.go (fun _ kz => XS.ifYes X0.here hx rfl (pc0 := 34) (pc' := 43) rfl (hb hby d2_34) rfl ((if0 _ _).trans (feq H12_3).2) (by decide) (by decide) kz) ?_
          show EndsK p e below _ (s₁.setTop (mkF m 43 #[.val (.int st), .val (.int lo), .val (.int h), .val (.int (8 : Int32)), .unset] []))
          refine EndsK.go (fun _ kz => XS.iloadN X0.here hx rfl (hb hby d2_43) rfl kz) ?_
          show EndsK p e below _ (s₁.setTop (mkF m 44 #[.val (.int st), .val (.int lo), .val (.int h), .val (.int (8 : Int32)), .unset] [(.int h)]))
          refine EndsK.go (fun _ kz => XS.iconst X0.here hx rfl (hb hby d2_44) kz) ?_
          show EndsK p e below _ (s₁.setTop (mkF m 45 #[.val (.int st), .val (.int lo), .val (.int h), .val (.int (8 : Int32)), .unset] [(.int (1 : Int32)), (.int h)]))
          refine EndsK.go (fun _ kz => XS.icmpNo X0.here hx rfl (hb hby d2_45) rfl (teq H22_8).2 kz) ?_
          show EndsK p e below _ (s₁.setTop (mkF m 48 #[.val (.int st), .val (.int lo), .val (.int h), .val (.int (8 : Int32)), .unset] []))
          refine EndsK.go (fun _ kz => XS.bipush X0.here hx rfl (hb hby d2_48) kz) ?_
          show EndsK p e below _ (s₁.setTop (mkF m 50 #[.val (.int st), .val (.int lo), .val (.int h), .val (.int (8 : Int32)), .unset] [(.int (64 : Int32))]))
          refine EndsK.go (fun _ kz => XS.goto X0.here hx rfl (pc0 := 50) (pc' := 55) rfl (hb hby d2_50) (by decide) (by decide) kz) ?_
          show EndsK p e below _ (s₁.setTop (mkF m 55 #[.val (.int st), .val (.int lo), .val (.int h), .val (.int (8 : Int32)), .unset] [(.int (64 : Int32))]))
          refine EndsK.go (fun _ kz => XS.istore X0.here hx rfl (hb hby d2_55) rfl (l' := #[.val (.int st), .val (.int lo), .val (.int h), .val (.int (8 : Int32)), .val (.int (64 : Int32))]) rfl kz) ?_
          show EndsK p e below _ (s₁.setTop (mkF m 57 #[.val (.int st), .val (.int lo), .val (.int h), .val (.int (8 : Int32)), .val (.int (64 : Int32))] []))
          refine EndsK.go (fun _ kz => XS.iloadN X0.here hx rfl (hb hby d2_57) rfl kz) ?_
          show EndsK p e below _ (s₁.setTop (mkF m 58 #[.val (.int st), .val (.int lo), .val (.int h), .val (.int (8 : Int32)), .val (.int (64 : Int32))] [(.int st)]))
          by_cases H58_9 : st < (0 : Int32)
          · refine EndsK.go (fun _ kz => XS.ifYes X0.here hx rfl (pc0 := 58) (pc' := 70) rfl (hb hby d2_58) rfl ((if0 _ _).trans (tlt H58_9).1) (by decide) (by decide) kz) ?_
            show EndsK p e below _ (s₁.setTop (mkF m 70 #[.val (.int st), .val (.int lo), .val (.int h), .val (.int (8 : Int32)), .val (.int (64 : Int32))] []))
            refine EndsK.go (fun _ kz => XS.iconst X0.here hx rfl (hb hby d2_70) kz) ?_
            show EndsK p e below _ (s₁.setTop (mkF m 71 #[.val (.int st), .val (.int lo), .val (.int h), .val (.int (8 : Int32)), .val (.int (64 : Int32))] [(.int (0 : Int32))]))
            exact endN X0 hx (t := .boolean) Bd.returns (by simp) (hb hby d2_71) hlk ⟨(0 : Int32), rfl, N0, e0, Or.inr ⟨rfl, by
                unfold Enc
                have fz1 := rng32 h
                have fz2 : ((0 : Int32)).toInt = 0 := rfl
                have fz3 : ¬ ((h).toInt < ((0 : Int32)).toInt) := fun qz => H1_1 (Int32.lt_iff_toInt_lt.mpr qz)
                have fz4 : ((2 : Int32)).toInt = 2 := rfl
                have fz5 : ¬ (((2 : Int32)).toInt < (h).toInt) := fun qz => H6_2 (Int32.lt_iff_toInt_lt.mpr qz)
                have fz6 : ¬ ((h).toInt = ((0 : Int32)).toInt) := fun qz => H12_3 (Int32.toInt_inj.mp qz)
                have fz7 : ((1 : Int32)).toInt = 1 := rfl
                have fz8 : (h).toInt = ((1 : Int32)).toInt := congrArg Int32.toInt H22_8
                have fz9 := rng32 st
                have fz10 : (st).toInt < ((0 : Int32)).toInt := Int32.lt_iff_toInt_lt.mp H58_9
                have fz11 := rng32 lo
                omega⟩⟩ (by decide) (by decide)
          · refine EndsK.go (fun _ kz => XS.ifNo X0.here hx rfl (hb hby d2_58) rfl ((if0 _ _).trans (flt H58_9).1) kz) ?_
            show EndsK p e below _ (s₁.setTop (mkF m 61 #[.val (.int st), .val (.int lo), .val (.int h), .val (.int (8 : Int32)), .val (.int (64 : Int32))] []))
            refine EndsK.go (fun _ kz => XS.iloadN X0.here hx rfl (hb hby d2_61) rfl kz) ?_
            show EndsK p e below _ (s₁.setTop (mkF m 62 #[.val (.int st), .val (.int lo), .val (.int h), .val (.int (8 : Int32)), .val (.int (64 : Int32))] [(.int st)]))
            refine EndsK.go (fun _ kz => XS.iloadN X0.here hx rfl (hb hby d2_62) rfl kz) ?_
            show EndsK p e below _ (s₁.setTop (mkF m 63 #[.val (.int st), .val (.int lo), .val (.int h), .val (.int (8 : Int32)), .val (.int (64 : Int32))] [(.int (8 : Int32)), (.int st)]))
            by_cases H63_10 : st < (8 : Int32)
            · refine EndsK.go (fun _ kz => XS.icmpNo X0.here hx rfl (hb hby d2_63) rfl (tlt H63_10).2.1 kz) ?_
              show EndsK p e below _ (s₁.setTop (mkF m 66 #[.val (.int st), .val (.int lo), .val (.int h), .val (.int (8 : Int32)), .val (.int (64 : Int32))] []))
              refine EndsK.go (fun _ kz => XS.iloadN X0.here hx rfl (hb hby d2_66) rfl kz) ?_
              show EndsK p e below _ (s₁.setTop (mkF m 67 #[.val (.int st), .val (.int lo), .val (.int h), .val (.int (8 : Int32)), .val (.int (64 : Int32))] [(.int lo)]))
              by_cases H67_11 : lo < (0 : Int32)
              · refine EndsK.go (fun _ kz => XS.ifNo X0.here hx rfl (hb hby d2_67) rfl ((if0 _ _).trans (tlt H67_11).2.1) kz) ?_
                show EndsK p e below _ (s₁.setTop (mkF m 70 #[.val (.int st), .val (.int lo), .val (.int h), .val (.int (8 : Int32)), .val (.int (64 : Int32))] []))
                refine EndsK.go (fun _ kz => XS.iconst X0.here hx rfl (hb hby d2_70) kz) ?_
                show EndsK p e below _ (s₁.setTop (mkF m 71 #[.val (.int st), .val (.int lo), .val (.int h), .val (.int (8 : Int32)), .val (.int (64 : Int32))] [(.int (0 : Int32))]))
                exact endN X0 hx (t := .boolean) Bd.returns (by simp) (hb hby d2_71) hlk ⟨(0 : Int32), rfl, N0, e0, Or.inr ⟨rfl, by
                    unfold Enc
                    have fz1 := rng32 h
                    have fz2 : ((0 : Int32)).toInt = 0 := rfl
                    have fz3 : ¬ ((h).toInt < ((0 : Int32)).toInt) := fun qz => H1_1 (Int32.lt_iff_toInt_lt.mpr qz)
                    have fz4 : ((2 : Int32)).toInt = 2 := rfl
                    have fz5 : ¬ (((2 : Int32)).toInt < (h).toInt) := fun qz => H6_2 (Int32.lt_iff_toInt_lt.mpr qz)
                    have fz6 : ¬ ((h).toInt = ((0 : Int32)).toInt) := fun qz => H12_3 (Int32.toInt_inj.mp qz)
                    have fz7 : ((1 : Int32)).toInt = 1 := rfl
                    have fz8 : (h).toInt = ((1 : Int32)).toInt := congrArg Int32.toInt H22_8
                    have fz9 := rng32 st
                    have fz10 : ¬ ((st).toInt < ((0 : Int32)).toInt) := fun qz => H58_9 (Int32.lt_iff_toInt_lt.mpr qz)
                    have fz11 : ((8 : Int32)).toInt = 8 := rfl
                    have fz12 : (st).toInt < ((8 : Int32)).toInt := Int32.lt_iff_toInt_lt.mp H63_10
                    have fz13 := rng32 lo
                    have fz14 : (lo).toInt < ((0 : Int32)).toInt := Int32.lt_iff_toInt_lt.mp H67_11
                    omega⟩⟩ (by decide) (by decide)
              · refine EndsK.go (fun _ kz => XS.ifYes X0.here hx rfl (pc0 := 67) (pc' := 72) rfl (hb hby d2_67) rfl ((if0 _ _).trans (flt H67_11).2.1) (by decide) (by decide) kz) ?_
                show EndsK p e below _ (s₁.setTop (mkF m 72 #[.val (.int st), .val (.int lo), .val (.int h), .val (.int (8 : Int32)), .val (.int (64 : Int32))] []))
                refine EndsK.go (fun _ kz => XS.iloadN X0.here hx rfl (hb hby d2_72) rfl kz) ?_
                show EndsK p e below _ (s₁.setTop (mkF m 73 #[.val (.int st), .val (.int lo), .val (.int h), .val (.int (8 : Int32)), .val (.int (64 : Int32))] [(.int lo)]))
                refine EndsK.go (fun _ kz => XS.i2l X0.here hx rfl (hb hby d2_73) rfl kz) ?_
                show EndsK p e below _ (s₁.setTop (mkF m 74 #[.val (.int st), .val (.int lo), .val (.int h), .val (.int (8 : Int32)), .val (.int (64 : Int32))] [(.long lo.toInt64)]))
                refine EndsK.go (fun _ kz => XS.iloadN X0.here hx rfl (hb hby d2_74) rfl kz) ?_
                show EndsK p e below _ (s₁.setTop (mkF m 75 #[.val (.int st), .val (.int lo), .val (.int h), .val (.int (8 : Int32)), .val (.int (64 : Int32))] [(.int (8 : Int32)), (.long lo.toInt64)]))
                refine EndsK.go (fun _ kz => XS.i2l X0.here hx rfl (hb hby d2_75) rfl kz) ?_
                show EndsK p e below _ (s₁.setTop (mkF m 76 #[.val (.int st), .val (.int lo), .val (.int h), .val (.int (8 : Int32)), .val (.int (64 : Int32))] [(.long (8 : Int32).toInt64), (.long lo.toInt64)]))
                refine EndsK.go (fun _ kz => XS.lmul X0.here hx rfl (hb hby d2_76) rfl kz) ?_
                show EndsK p e below _ (s₁.setTop (mkF m 77 #[.val (.int st), .val (.int lo), .val (.int h), .val (.int (8 : Int32)), .val (.int (64 : Int32))] [(.long (lo.toInt64 * (8 : Int32).toInt64))]))
                refine EndsK.go (fun _ kz => XS.iloadN X0.here hx rfl (hb hby d2_77) rfl kz) ?_
                show EndsK p e below _ (s₁.setTop (mkF m 78 #[.val (.int st), .val (.int lo), .val (.int h), .val (.int (8 : Int32)), .val (.int (64 : Int32))] [(.int st), (.long (lo.toInt64 * (8 : Int32).toInt64))]))
                refine EndsK.go (fun _ kz => XS.i2l X0.here hx rfl (hb hby d2_78) rfl kz) ?_
                show EndsK p e below _ (s₁.setTop (mkF m 79 #[.val (.int st), .val (.int lo), .val (.int h), .val (.int (8 : Int32)), .val (.int (64 : Int32))] [(.long st.toInt64), (.long (lo.toInt64 * (8 : Int32).toInt64))]))
                refine EndsK.go (fun _ kz => XS.ladd X0.here hx rfl (hb hby d2_79) rfl kz) ?_
                show EndsK p e below _ (s₁.setTop (mkF m 80 #[.val (.int st), .val (.int lo), .val (.int h), .val (.int (8 : Int32)), .val (.int (64 : Int32))] [(.long ((lo.toInt64 * (8 : Int32).toInt64) + st.toInt64))]))
                refine EndsK.go (fun _ kz => XS.iload X0.here hx rfl (hb hby d2_80) rfl kz) ?_
                show EndsK p e below _ (s₁.setTop (mkF m 82 #[.val (.int st), .val (.int lo), .val (.int h), .val (.int (8 : Int32)), .val (.int (64 : Int32))] [(.int (64 : Int32)), (.long ((lo.toInt64 * (8 : Int32).toInt64) + st.toInt64))]))
                refine EndsK.go (fun _ kz => XS.i2l X0.here hx rfl (hb hby d2_82) rfl kz) ?_
                show EndsK p e below _ (s₁.setTop (mkF m 83 #[.val (.int st), .val (.int lo), .val (.int h), .val (.int (8 : Int32)), .val (.int (64 : Int32))] [(.long (64 : Int32).toInt64), (.long ((lo.toInt64 * (8 : Int32).toInt64) + st.toInt64))]))
                refine EndsK.go (fun _ kz => XS.lcmp X0.here hx rfl (hb hby d2_83) rfl kz) ?_
                show EndsK p e below _ (s₁.setTop (mkF m 84 #[.val (.int st), .val (.int lo), .val (.int h), .val (.int (8 : Int32)), .val (.int (64 : Int32))] [(.int (lcmpW ((lo.toInt64 * (8 : Int32).toInt64) + st.toInt64) (64 : Int32).toInt64))]))
                by_cases H84_12 : (lcmpW ((lo.toInt64 * (8 : Int32).toInt64) + st.toInt64) (64 : Int32).toInt64) < (0 : Int32)
                · refine EndsK.go (fun _ kz => XS.ifNo X0.here hx rfl (hb hby d2_84) rfl ((if0 _ _).trans (tlt H84_12).2.1) kz) ?_
                  show EndsK p e below _ (s₁.setTop (mkF m 87 #[.val (.int st), .val (.int lo), .val (.int h), .val (.int (8 : Int32)), .val (.int (64 : Int32))] []))
                  refine EndsK.go (fun _ kz => XS.iconst X0.here hx rfl (hb hby d2_87) kz) ?_
                  show EndsK p e below _ (s₁.setTop (mkF m 88 #[.val (.int st), .val (.int lo), .val (.int h), .val (.int (8 : Int32)), .val (.int (64 : Int32))] [(.int (1 : Int32))]))
                  refine EndsK.go (fun _ kz => XS.goto X0.here hx rfl (pc0 := 88) (pc' := 92) rfl (hb hby d2_88) (by decide) (by decide) kz) ?_
                  show EndsK p e below _ (s₁.setTop (mkF m 92 #[.val (.int st), .val (.int lo), .val (.int h), .val (.int (8 : Int32)), .val (.int (64 : Int32))] [(.int (1 : Int32))]))
                  exact endN X0 hx (t := .boolean) Bd.returns (by simp) (hb hby d2_92) hlk ⟨(1 : Int32), rfl, N0, e0, Or.inl ⟨rfl, by
                      unfold Enc
                      have fz1 := rng32 h
                      have fz2 : ((0 : Int32)).toInt = 0 := rfl
                      have fz3 : ¬ ((h).toInt < ((0 : Int32)).toInt) := fun qz => H1_1 (Int32.lt_iff_toInt_lt.mpr qz)
                      have fz4 : ((2 : Int32)).toInt = 2 := rfl
                      have fz5 : ¬ (((2 : Int32)).toInt < (h).toInt) := fun qz => H6_2 (Int32.lt_iff_toInt_lt.mpr qz)
                      have fz6 : ¬ ((h).toInt = ((0 : Int32)).toInt) := fun qz => H12_3 (Int32.toInt_inj.mp qz)
                      have fz7 : ((1 : Int32)).toInt = 1 := rfl
                      have fz8 : (h).toInt = ((1 : Int32)).toInt := congrArg Int32.toInt H22_8
                      have fz9 := rng32 st
                      have fz10 : ¬ ((st).toInt < ((0 : Int32)).toInt) := fun qz => H58_9 (Int32.lt_iff_toInt_lt.mpr qz)
                      have fz11 : ((8 : Int32)).toInt = 8 := rfl
                      have fz12 : (st).toInt < ((8 : Int32)).toInt := Int32.lt_iff_toInt_lt.mp H63_10
                      have fz13 := rng32 lo
                      have fz14 : ¬ ((lo).toInt < ((0 : Int32)).toInt) := fun qz => H67_11 (Int32.lt_iff_toInt_lt.mpr qz)
                      have fz15 := c_i2l lo
                      have fz16 := c_i2l (8 : Int32)
                      have fz17 := own_wide lo (8 : Int32) 8 rfl
                      have fz18 := c_i2l st
                      have fz19 : (((lo.toInt64 * (8 : Int32).toInt64) + st.toInt64)).toInt = ((lo.toInt64 * (8 : Int32).toInt64)).toInt + (st.toInt64).toInt := own_ladd (lo.toInt64 * (8 : Int32).toInt64) st.toInt64 (by omega) (by omega)
                      have fz20 : ((64 : Int32)).toInt = 64 := rfl
                      have fz21 := c_i2l (64 : Int32)
                      have fz22 := c_lcmp ((lo.toInt64 * (8 : Int32).toInt64) + st.toInt64) (64 : Int32).toInt64
                      have fz23 : ((lcmpW ((lo.toInt64 * (8 : Int32).toInt64) + st.toInt64) (64 : Int32).toInt64)).toInt < ((0 : Int32)).toInt := Int32.lt_iff_toInt_lt.mp H84_12
                      omega⟩⟩ (by decide) (by decide)
                · refine EndsK.go (fun _ kz => XS.ifYes X0.here hx rfl (pc0 := 84) (pc' := 91) rfl (hb hby d2_84) rfl ((if0 _ _).trans (flt H84_12).2.1) (by decide) (by decide) kz) ?_
                  show EndsK p e below _ (s₁.setTop (mkF m 91 #[.val (.int st), .val (.int lo), .val (.int h), .val (.int (8 : Int32)), .val (.int (64 : Int32))] []))
                  refine EndsK.go (fun _ kz => XS.iconst X0.here hx rfl (hb hby d2_91) kz) ?_
                  show EndsK p e below _ (s₁.setTop (mkF m 92 #[.val (.int st), .val (.int lo), .val (.int h), .val (.int (8 : Int32)), .val (.int (64 : Int32))] [(.int (0 : Int32))]))
                  exact endN X0 hx (t := .boolean) Bd.returns (by simp) (hb hby d2_92) hlk ⟨(0 : Int32), rfl, N0, e0, Or.inr ⟨rfl, by
                      unfold Enc
                      have fz1 := rng32 h
                      have fz2 : ((0 : Int32)).toInt = 0 := rfl
                      have fz3 : ¬ ((h).toInt < ((0 : Int32)).toInt) := fun qz => H1_1 (Int32.lt_iff_toInt_lt.mpr qz)
                      have fz4 : ((2 : Int32)).toInt = 2 := rfl
                      have fz5 : ¬ (((2 : Int32)).toInt < (h).toInt) := fun qz => H6_2 (Int32.lt_iff_toInt_lt.mpr qz)
                      have fz6 : ¬ ((h).toInt = ((0 : Int32)).toInt) := fun qz => H12_3 (Int32.toInt_inj.mp qz)
                      have fz7 : ((1 : Int32)).toInt = 1 := rfl
                      have fz8 : (h).toInt = ((1 : Int32)).toInt := congrArg Int32.toInt H22_8
                      have fz9 := rng32 st
                      have fz10 : ¬ ((st).toInt < ((0 : Int32)).toInt) := fun qz => H58_9 (Int32.lt_iff_toInt_lt.mpr qz)
                      have fz11 : ((8 : Int32)).toInt = 8 := rfl
                      have fz12 : (st).toInt < ((8 : Int32)).toInt := Int32.lt_iff_toInt_lt.mp H63_10
                      have fz13 := rng32 lo
                      have fz14 : ¬ ((lo).toInt < ((0 : Int32)).toInt) := fun qz => H67_11 (Int32.lt_iff_toInt_lt.mpr qz)
                      have fz15 := c_i2l lo
                      have fz16 := c_i2l (8 : Int32)
                      have fz17 := own_wide lo (8 : Int32) 8 rfl
                      have fz18 := c_i2l st
                      have fz19 : (((lo.toInt64 * (8 : Int32).toInt64) + st.toInt64)).toInt = ((lo.toInt64 * (8 : Int32).toInt64)).toInt + (st.toInt64).toInt := own_ladd (lo.toInt64 * (8 : Int32).toInt64) st.toInt64 (by omega) (by omega)
                      have fz20 : ((64 : Int32)).toInt = 64 := rfl
                      have fz21 := c_i2l (64 : Int32)
                      have fz22 := c_lcmp ((lo.toInt64 * (8 : Int32).toInt64) + st.toInt64) (64 : Int32).toInt64
                      have fz23 : ¬ (((lcmpW ((lo.toInt64 * (8 : Int32).toInt64) + st.toInt64) (64 : Int32).toInt64)).toInt < ((0 : Int32)).toInt) := fun qz => H84_12 (Int32.lt_iff_toInt_lt.mpr qz)
                      omega⟩⟩ (by decide) (by decide)
            · refine EndsK.go (fun _ kz => XS.icmpYes X0.here hx rfl (pc0 := 63) (pc' := 70) rfl (hb hby d2_63) rfl (flt H63_10).2.1 (by decide) (by decide) kz) ?_
              show EndsK p e below _ (s₁.setTop (mkF m 70 #[.val (.int st), .val (.int lo), .val (.int h), .val (.int (8 : Int32)), .val (.int (64 : Int32))] []))
              refine EndsK.go (fun _ kz => XS.iconst X0.here hx rfl (hb hby d2_70) kz) ?_
              show EndsK p e below _ (s₁.setTop (mkF m 71 #[.val (.int st), .val (.int lo), .val (.int h), .val (.int (8 : Int32)), .val (.int (64 : Int32))] [(.int (0 : Int32))]))
              exact endN X0 hx (t := .boolean) Bd.returns (by simp) (hb hby d2_71) hlk ⟨(0 : Int32), rfl, N0, e0, Or.inr ⟨rfl, by
                  unfold Enc
                  have fz1 := rng32 h
                  have fz2 : ((0 : Int32)).toInt = 0 := rfl
                  have fz3 : ¬ ((h).toInt < ((0 : Int32)).toInt) := fun qz => H1_1 (Int32.lt_iff_toInt_lt.mpr qz)
                  have fz4 : ((2 : Int32)).toInt = 2 := rfl
                  have fz5 : ¬ (((2 : Int32)).toInt < (h).toInt) := fun qz => H6_2 (Int32.lt_iff_toInt_lt.mpr qz)
                  have fz6 : ¬ ((h).toInt = ((0 : Int32)).toInt) := fun qz => H12_3 (Int32.toInt_inj.mp qz)
                  have fz7 : ((1 : Int32)).toInt = 1 := rfl
                  have fz8 : (h).toInt = ((1 : Int32)).toInt := congrArg Int32.toInt H22_8
                  have fz9 := rng32 st
                  have fz10 : ¬ ((st).toInt < ((0 : Int32)).toInt) := fun qz => H58_9 (Int32.lt_iff_toInt_lt.mpr qz)
                  have fz11 : ((8 : Int32)).toInt = 8 := rfl
                  have fz12 : ¬ ((st).toInt < ((8 : Int32)).toInt) := fun qz => H63_10 (Int32.lt_iff_toInt_lt.mpr qz)
                  have fz13 := rng32 lo
                  omega⟩⟩ (by decide) (by decide)
        · refine EndsK.go (fun _ kz => XS.icmpYes X0.here hx rfl (pc0 := 22) (pc' := 30) rfl (hb hby d2_22) rfl (feq H22_8).2 (by decide) (by decide) kz) ?_
          show EndsK p e below _ (s₁.setTop (mkF m 30 #[.val (.int st), .val (.int lo), .val (.int h), .unset, .unset] []))
          refine EndsK.go (fun _ kz => XS.bipush X0.here hx rfl (hb hby d2_30) kz) ?_
          show EndsK p e below _ (s₁.setTop (mkF m 32 #[.val (.int st), .val (.int lo), .val (.int h), .unset, .unset] [(.int (7 : Int32))]))
          refine EndsK.go (fun _ kz => XS.istoreN X0.here hx rfl (hb hby d2_32) rfl (l' := #[.val (.int st), .val (.int lo), .val (.int h), .val (.int (7 : Int32)), .unset]) rfl kz) ?_
          show EndsK p e below _ (s₁.setTop (mkF m 33 #[.val (.int st), .val (.int lo), .val (.int h), .val (.int (7 : Int32)), .unset] []))
          refine EndsK.go (fun _ kz => XS.iloadN X0.here hx rfl (hb hby d2_33) rfl kz) ?_
          show EndsK p e below _ (s₁.setTop (mkF m 34 #[.val (.int st), .val (.int lo), .val (.int h), .val (.int (7 : Int32)), .unset] [(.int h)]))
          refine EndsK.go (fun _ kz => XS.ifYes X0.here hx rfl (pc0 := 34) (pc' := 43) rfl (hb hby d2_34) rfl ((if0 _ _).trans (feq H12_3).2) (by decide) (by decide) kz) ?_
          show EndsK p e below _ (s₁.setTop (mkF m 43 #[.val (.int st), .val (.int lo), .val (.int h), .val (.int (7 : Int32)), .unset] []))
          refine EndsK.go (fun _ kz => XS.iloadN X0.here hx rfl (hb hby d2_43) rfl kz) ?_
          show EndsK p e below _ (s₁.setTop (mkF m 44 #[.val (.int st), .val (.int lo), .val (.int h), .val (.int (7 : Int32)), .unset] [(.int h)]))
          refine EndsK.go (fun _ kz => XS.iconst X0.here hx rfl (hb hby d2_44) kz) ?_
          show EndsK p e below _ (s₁.setTop (mkF m 45 #[.val (.int st), .val (.int lo), .val (.int h), .val (.int (7 : Int32)), .unset] [(.int (1 : Int32)), (.int h)]))
          refine EndsK.go (fun _ kz => XS.icmpYes X0.here hx rfl (pc0 := 45) (pc' := 53) rfl (hb hby d2_45) rfl (feq H22_8).2 (by decide) (by decide) kz) ?_
          show EndsK p e below _ (s₁.setTop (mkF m 53 #[.val (.int st), .val (.int lo), .val (.int h), .val (.int (7 : Int32)), .unset] []))
          refine EndsK.go (fun _ kz => XS.bipush X0.here hx rfl (hb hby d2_53) kz) ?_
          show EndsK p e below _ (s₁.setTop (mkF m 55 #[.val (.int st), .val (.int lo), .val (.int h), .val (.int (7 : Int32)), .unset] [(.int (47 : Int32))]))
          refine EndsK.go (fun _ kz => XS.istore X0.here hx rfl (hb hby d2_55) rfl (l' := #[.val (.int st), .val (.int lo), .val (.int h), .val (.int (7 : Int32)), .val (.int (47 : Int32))]) rfl kz) ?_
          show EndsK p e below _ (s₁.setTop (mkF m 57 #[.val (.int st), .val (.int lo), .val (.int h), .val (.int (7 : Int32)), .val (.int (47 : Int32))] []))
          refine EndsK.go (fun _ kz => XS.iloadN X0.here hx rfl (hb hby d2_57) rfl kz) ?_
          show EndsK p e below _ (s₁.setTop (mkF m 58 #[.val (.int st), .val (.int lo), .val (.int h), .val (.int (7 : Int32)), .val (.int (47 : Int32))] [(.int st)]))
          by_cases H58_13 : st < (0 : Int32)
          · refine EndsK.go (fun _ kz => XS.ifYes X0.here hx rfl (pc0 := 58) (pc' := 70) rfl (hb hby d2_58) rfl ((if0 _ _).trans (tlt H58_13).1) (by decide) (by decide) kz) ?_
            show EndsK p e below _ (s₁.setTop (mkF m 70 #[.val (.int st), .val (.int lo), .val (.int h), .val (.int (7 : Int32)), .val (.int (47 : Int32))] []))
            refine EndsK.go (fun _ kz => XS.iconst X0.here hx rfl (hb hby d2_70) kz) ?_
            show EndsK p e below _ (s₁.setTop (mkF m 71 #[.val (.int st), .val (.int lo), .val (.int h), .val (.int (7 : Int32)), .val (.int (47 : Int32))] [(.int (0 : Int32))]))
            exact endN X0 hx (t := .boolean) Bd.returns (by simp) (hb hby d2_71) hlk ⟨(0 : Int32), rfl, N0, e0, Or.inr ⟨rfl, by
                unfold Enc
                have fz1 := rng32 h
                have fz2 : ((0 : Int32)).toInt = 0 := rfl
                have fz3 : ¬ ((h).toInt < ((0 : Int32)).toInt) := fun qz => H1_1 (Int32.lt_iff_toInt_lt.mpr qz)
                have fz4 : ((2 : Int32)).toInt = 2 := rfl
                have fz5 : ¬ (((2 : Int32)).toInt < (h).toInt) := fun qz => H6_2 (Int32.lt_iff_toInt_lt.mpr qz)
                have fz6 : ¬ ((h).toInt = ((0 : Int32)).toInt) := fun qz => H12_3 (Int32.toInt_inj.mp qz)
                have fz7 : ((1 : Int32)).toInt = 1 := rfl
                have fz8 : ¬ ((h).toInt = ((1 : Int32)).toInt) := fun qz => H22_8 (Int32.toInt_inj.mp qz)
                have fz9 := rng32 st
                have fz10 : (st).toInt < ((0 : Int32)).toInt := Int32.lt_iff_toInt_lt.mp H58_13
                have fz11 := rng32 lo
                omega⟩⟩ (by decide) (by decide)
          · refine EndsK.go (fun _ kz => XS.ifNo X0.here hx rfl (hb hby d2_58) rfl ((if0 _ _).trans (flt H58_13).1) kz) ?_
            show EndsK p e below _ (s₁.setTop (mkF m 61 #[.val (.int st), .val (.int lo), .val (.int h), .val (.int (7 : Int32)), .val (.int (47 : Int32))] []))
            refine EndsK.go (fun _ kz => XS.iloadN X0.here hx rfl (hb hby d2_61) rfl kz) ?_
            show EndsK p e below _ (s₁.setTop (mkF m 62 #[.val (.int st), .val (.int lo), .val (.int h), .val (.int (7 : Int32)), .val (.int (47 : Int32))] [(.int st)]))
            refine EndsK.go (fun _ kz => XS.iloadN X0.here hx rfl (hb hby d2_62) rfl kz) ?_
            show EndsK p e below _ (s₁.setTop (mkF m 63 #[.val (.int st), .val (.int lo), .val (.int h), .val (.int (7 : Int32)), .val (.int (47 : Int32))] [(.int (7 : Int32)), (.int st)]))
            by_cases H63_14 : st < (7 : Int32)
            · refine EndsK.go (fun _ kz => XS.icmpNo X0.here hx rfl (hb hby d2_63) rfl (tlt H63_14).2.1 kz) ?_
              show EndsK p e below _ (s₁.setTop (mkF m 66 #[.val (.int st), .val (.int lo), .val (.int h), .val (.int (7 : Int32)), .val (.int (47 : Int32))] []))
              refine EndsK.go (fun _ kz => XS.iloadN X0.here hx rfl (hb hby d2_66) rfl kz) ?_
              show EndsK p e below _ (s₁.setTop (mkF m 67 #[.val (.int st), .val (.int lo), .val (.int h), .val (.int (7 : Int32)), .val (.int (47 : Int32))] [(.int lo)]))
              by_cases H67_15 : lo < (0 : Int32)
              · refine EndsK.go (fun _ kz => XS.ifNo X0.here hx rfl (hb hby d2_67) rfl ((if0 _ _).trans (tlt H67_15).2.1) kz) ?_
                show EndsK p e below _ (s₁.setTop (mkF m 70 #[.val (.int st), .val (.int lo), .val (.int h), .val (.int (7 : Int32)), .val (.int (47 : Int32))] []))
                refine EndsK.go (fun _ kz => XS.iconst X0.here hx rfl (hb hby d2_70) kz) ?_
                show EndsK p e below _ (s₁.setTop (mkF m 71 #[.val (.int st), .val (.int lo), .val (.int h), .val (.int (7 : Int32)), .val (.int (47 : Int32))] [(.int (0 : Int32))]))
                exact endN X0 hx (t := .boolean) Bd.returns (by simp) (hb hby d2_71) hlk ⟨(0 : Int32), rfl, N0, e0, Or.inr ⟨rfl, by
                    unfold Enc
                    have fz1 := rng32 h
                    have fz2 : ((0 : Int32)).toInt = 0 := rfl
                    have fz3 : ¬ ((h).toInt < ((0 : Int32)).toInt) := fun qz => H1_1 (Int32.lt_iff_toInt_lt.mpr qz)
                    have fz4 : ((2 : Int32)).toInt = 2 := rfl
                    have fz5 : ¬ (((2 : Int32)).toInt < (h).toInt) := fun qz => H6_2 (Int32.lt_iff_toInt_lt.mpr qz)
                    have fz6 : ¬ ((h).toInt = ((0 : Int32)).toInt) := fun qz => H12_3 (Int32.toInt_inj.mp qz)
                    have fz7 : ((1 : Int32)).toInt = 1 := rfl
                    have fz8 : ¬ ((h).toInt = ((1 : Int32)).toInt) := fun qz => H22_8 (Int32.toInt_inj.mp qz)
                    have fz9 := rng32 st
                    have fz10 : ¬ ((st).toInt < ((0 : Int32)).toInt) := fun qz => H58_13 (Int32.lt_iff_toInt_lt.mpr qz)
                    have fz11 : ((7 : Int32)).toInt = 7 := rfl
                    have fz12 : (st).toInt < ((7 : Int32)).toInt := Int32.lt_iff_toInt_lt.mp H63_14
                    have fz13 := rng32 lo
                    have fz14 : (lo).toInt < ((0 : Int32)).toInt := Int32.lt_iff_toInt_lt.mp H67_15
                    omega⟩⟩ (by decide) (by decide)
              · refine EndsK.go (fun _ kz => XS.ifYes X0.here hx rfl (pc0 := 67) (pc' := 72) rfl (hb hby d2_67) rfl ((if0 _ _).trans (flt H67_15).2.1) (by decide) (by decide) kz) ?_
                show EndsK p e below _ (s₁.setTop (mkF m 72 #[.val (.int st), .val (.int lo), .val (.int h), .val (.int (7 : Int32)), .val (.int (47 : Int32))] []))
                refine EndsK.go (fun _ kz => XS.iloadN X0.here hx rfl (hb hby d2_72) rfl kz) ?_
                show EndsK p e below _ (s₁.setTop (mkF m 73 #[.val (.int st), .val (.int lo), .val (.int h), .val (.int (7 : Int32)), .val (.int (47 : Int32))] [(.int lo)]))
                refine EndsK.go (fun _ kz => XS.i2l X0.here hx rfl (hb hby d2_73) rfl kz) ?_
                show EndsK p e below _ (s₁.setTop (mkF m 74 #[.val (.int st), .val (.int lo), .val (.int h), .val (.int (7 : Int32)), .val (.int (47 : Int32))] [(.long lo.toInt64)]))
                refine EndsK.go (fun _ kz => XS.iloadN X0.here hx rfl (hb hby d2_74) rfl kz) ?_
                show EndsK p e below _ (s₁.setTop (mkF m 75 #[.val (.int st), .val (.int lo), .val (.int h), .val (.int (7 : Int32)), .val (.int (47 : Int32))] [(.int (7 : Int32)), (.long lo.toInt64)]))
                refine EndsK.go (fun _ kz => XS.i2l X0.here hx rfl (hb hby d2_75) rfl kz) ?_
                show EndsK p e below _ (s₁.setTop (mkF m 76 #[.val (.int st), .val (.int lo), .val (.int h), .val (.int (7 : Int32)), .val (.int (47 : Int32))] [(.long (7 : Int32).toInt64), (.long lo.toInt64)]))
                refine EndsK.go (fun _ kz => XS.lmul X0.here hx rfl (hb hby d2_76) rfl kz) ?_
                show EndsK p e below _ (s₁.setTop (mkF m 77 #[.val (.int st), .val (.int lo), .val (.int h), .val (.int (7 : Int32)), .val (.int (47 : Int32))] [(.long (lo.toInt64 * (7 : Int32).toInt64))]))
                refine EndsK.go (fun _ kz => XS.iloadN X0.here hx rfl (hb hby d2_77) rfl kz) ?_
                show EndsK p e below _ (s₁.setTop (mkF m 78 #[.val (.int st), .val (.int lo), .val (.int h), .val (.int (7 : Int32)), .val (.int (47 : Int32))] [(.int st), (.long (lo.toInt64 * (7 : Int32).toInt64))]))
                refine EndsK.go (fun _ kz => XS.i2l X0.here hx rfl (hb hby d2_78) rfl kz) ?_
                show EndsK p e below _ (s₁.setTop (mkF m 79 #[.val (.int st), .val (.int lo), .val (.int h), .val (.int (7 : Int32)), .val (.int (47 : Int32))] [(.long st.toInt64), (.long (lo.toInt64 * (7 : Int32).toInt64))]))
                refine EndsK.go (fun _ kz => XS.ladd X0.here hx rfl (hb hby d2_79) rfl kz) ?_
                show EndsK p e below _ (s₁.setTop (mkF m 80 #[.val (.int st), .val (.int lo), .val (.int h), .val (.int (7 : Int32)), .val (.int (47 : Int32))] [(.long ((lo.toInt64 * (7 : Int32).toInt64) + st.toInt64))]))
                refine EndsK.go (fun _ kz => XS.iload X0.here hx rfl (hb hby d2_80) rfl kz) ?_
                show EndsK p e below _ (s₁.setTop (mkF m 82 #[.val (.int st), .val (.int lo), .val (.int h), .val (.int (7 : Int32)), .val (.int (47 : Int32))] [(.int (47 : Int32)), (.long ((lo.toInt64 * (7 : Int32).toInt64) + st.toInt64))]))
                refine EndsK.go (fun _ kz => XS.i2l X0.here hx rfl (hb hby d2_82) rfl kz) ?_
                show EndsK p e below _ (s₁.setTop (mkF m 83 #[.val (.int st), .val (.int lo), .val (.int h), .val (.int (7 : Int32)), .val (.int (47 : Int32))] [(.long (47 : Int32).toInt64), (.long ((lo.toInt64 * (7 : Int32).toInt64) + st.toInt64))]))
                refine EndsK.go (fun _ kz => XS.lcmp X0.here hx rfl (hb hby d2_83) rfl kz) ?_
                show EndsK p e below _ (s₁.setTop (mkF m 84 #[.val (.int st), .val (.int lo), .val (.int h), .val (.int (7 : Int32)), .val (.int (47 : Int32))] [(.int (lcmpW ((lo.toInt64 * (7 : Int32).toInt64) + st.toInt64) (47 : Int32).toInt64))]))
                by_cases H84_16 : (lcmpW ((lo.toInt64 * (7 : Int32).toInt64) + st.toInt64) (47 : Int32).toInt64) < (0 : Int32)
                · refine EndsK.go (fun _ kz => XS.ifNo X0.here hx rfl (hb hby d2_84) rfl ((if0 _ _).trans (tlt H84_16).2.1) kz) ?_
                  show EndsK p e below _ (s₁.setTop (mkF m 87 #[.val (.int st), .val (.int lo), .val (.int h), .val (.int (7 : Int32)), .val (.int (47 : Int32))] []))
                  refine EndsK.go (fun _ kz => XS.iconst X0.here hx rfl (hb hby d2_87) kz) ?_
                  show EndsK p e below _ (s₁.setTop (mkF m 88 #[.val (.int st), .val (.int lo), .val (.int h), .val (.int (7 : Int32)), .val (.int (47 : Int32))] [(.int (1 : Int32))]))
                  refine EndsK.go (fun _ kz => XS.goto X0.here hx rfl (pc0 := 88) (pc' := 92) rfl (hb hby d2_88) (by decide) (by decide) kz) ?_
                  show EndsK p e below _ (s₁.setTop (mkF m 92 #[.val (.int st), .val (.int lo), .val (.int h), .val (.int (7 : Int32)), .val (.int (47 : Int32))] [(.int (1 : Int32))]))
                  exact endN X0 hx (t := .boolean) Bd.returns (by simp) (hb hby d2_92) hlk ⟨(1 : Int32), rfl, N0, e0, Or.inl ⟨rfl, by
                      unfold Enc
                      have fz1 := rng32 h
                      have fz2 : ((0 : Int32)).toInt = 0 := rfl
                      have fz3 : ¬ ((h).toInt < ((0 : Int32)).toInt) := fun qz => H1_1 (Int32.lt_iff_toInt_lt.mpr qz)
                      have fz4 : ((2 : Int32)).toInt = 2 := rfl
                      have fz5 : ¬ (((2 : Int32)).toInt < (h).toInt) := fun qz => H6_2 (Int32.lt_iff_toInt_lt.mpr qz)
                      have fz6 : ¬ ((h).toInt = ((0 : Int32)).toInt) := fun qz => H12_3 (Int32.toInt_inj.mp qz)
                      have fz7 : ((1 : Int32)).toInt = 1 := rfl
                      have fz8 : ¬ ((h).toInt = ((1 : Int32)).toInt) := fun qz => H22_8 (Int32.toInt_inj.mp qz)
                      have fz9 := rng32 st
                      have fz10 : ¬ ((st).toInt < ((0 : Int32)).toInt) := fun qz => H58_13 (Int32.lt_iff_toInt_lt.mpr qz)
                      have fz11 : ((7 : Int32)).toInt = 7 := rfl
                      have fz12 : (st).toInt < ((7 : Int32)).toInt := Int32.lt_iff_toInt_lt.mp H63_14
                      have fz13 := rng32 lo
                      have fz14 : ¬ ((lo).toInt < ((0 : Int32)).toInt) := fun qz => H67_15 (Int32.lt_iff_toInt_lt.mpr qz)
                      have fz15 := c_i2l lo
                      have fz16 := c_i2l (7 : Int32)
                      have fz17 := own_wide lo (7 : Int32) 7 rfl
                      have fz18 := c_i2l st
                      have fz19 : (((lo.toInt64 * (7 : Int32).toInt64) + st.toInt64)).toInt = ((lo.toInt64 * (7 : Int32).toInt64)).toInt + (st.toInt64).toInt := own_ladd (lo.toInt64 * (7 : Int32).toInt64) st.toInt64 (by omega) (by omega)
                      have fz20 : ((47 : Int32)).toInt = 47 := rfl
                      have fz21 := c_i2l (47 : Int32)
                      have fz22 := c_lcmp ((lo.toInt64 * (7 : Int32).toInt64) + st.toInt64) (47 : Int32).toInt64
                      have fz23 : ((lcmpW ((lo.toInt64 * (7 : Int32).toInt64) + st.toInt64) (47 : Int32).toInt64)).toInt < ((0 : Int32)).toInt := Int32.lt_iff_toInt_lt.mp H84_16
                      omega⟩⟩ (by decide) (by decide)
                · refine EndsK.go (fun _ kz => XS.ifYes X0.here hx rfl (pc0 := 84) (pc' := 91) rfl (hb hby d2_84) rfl ((if0 _ _).trans (flt H84_16).2.1) (by decide) (by decide) kz) ?_
                  show EndsK p e below _ (s₁.setTop (mkF m 91 #[.val (.int st), .val (.int lo), .val (.int h), .val (.int (7 : Int32)), .val (.int (47 : Int32))] []))
                  refine EndsK.go (fun _ kz => XS.iconst X0.here hx rfl (hb hby d2_91) kz) ?_
                  show EndsK p e below _ (s₁.setTop (mkF m 92 #[.val (.int st), .val (.int lo), .val (.int h), .val (.int (7 : Int32)), .val (.int (47 : Int32))] [(.int (0 : Int32))]))
                  exact endN X0 hx (t := .boolean) Bd.returns (by simp) (hb hby d2_92) hlk ⟨(0 : Int32), rfl, N0, e0, Or.inr ⟨rfl, by
                      unfold Enc
                      have fz1 := rng32 h
                      have fz2 : ((0 : Int32)).toInt = 0 := rfl
                      have fz3 : ¬ ((h).toInt < ((0 : Int32)).toInt) := fun qz => H1_1 (Int32.lt_iff_toInt_lt.mpr qz)
                      have fz4 : ((2 : Int32)).toInt = 2 := rfl
                      have fz5 : ¬ (((2 : Int32)).toInt < (h).toInt) := fun qz => H6_2 (Int32.lt_iff_toInt_lt.mpr qz)
                      have fz6 : ¬ ((h).toInt = ((0 : Int32)).toInt) := fun qz => H12_3 (Int32.toInt_inj.mp qz)
                      have fz7 : ((1 : Int32)).toInt = 1 := rfl
                      have fz8 : ¬ ((h).toInt = ((1 : Int32)).toInt) := fun qz => H22_8 (Int32.toInt_inj.mp qz)
                      have fz9 := rng32 st
                      have fz10 : ¬ ((st).toInt < ((0 : Int32)).toInt) := fun qz => H58_13 (Int32.lt_iff_toInt_lt.mpr qz)
                      have fz11 : ((7 : Int32)).toInt = 7 := rfl
                      have fz12 : (st).toInt < ((7 : Int32)).toInt := Int32.lt_iff_toInt_lt.mp H63_14
                      have fz13 := rng32 lo
                      have fz14 : ¬ ((lo).toInt < ((0 : Int32)).toInt) := fun qz => H67_15 (Int32.lt_iff_toInt_lt.mpr qz)
                      have fz15 := c_i2l lo
                      have fz16 := c_i2l (7 : Int32)
                      have fz17 := own_wide lo (7 : Int32) 7 rfl
                      have fz18 := c_i2l st
                      have fz19 : (((lo.toInt64 * (7 : Int32).toInt64) + st.toInt64)).toInt = ((lo.toInt64 * (7 : Int32).toInt64)).toInt + (st.toInt64).toInt := own_ladd (lo.toInt64 * (7 : Int32).toInt64) st.toInt64 (by omega) (by omega)
                      have fz20 : ((47 : Int32)).toInt = 47 := rfl
                      have fz21 := c_i2l (47 : Int32)
                      have fz22 := c_lcmp ((lo.toInt64 * (7 : Int32).toInt64) + st.toInt64) (47 : Int32).toInt64
                      have fz23 : ¬ (((lcmpW ((lo.toInt64 * (7 : Int32).toInt64) + st.toInt64) (47 : Int32).toInt64)).toInt < ((0 : Int32)).toInt) := fun qz => H84_16 (Int32.lt_iff_toInt_lt.mpr qz)
                      omega⟩⟩ (by decide) (by decide)
            · refine EndsK.go (fun _ kz => XS.icmpYes X0.here hx rfl (pc0 := 63) (pc' := 70) rfl (hb hby d2_63) rfl (flt H63_14).2.1 (by decide) (by decide) kz) ?_
              show EndsK p e below _ (s₁.setTop (mkF m 70 #[.val (.int st), .val (.int lo), .val (.int h), .val (.int (7 : Int32)), .val (.int (47 : Int32))] []))
              refine EndsK.go (fun _ kz => XS.iconst X0.here hx rfl (hb hby d2_70) kz) ?_
              show EndsK p e below _ (s₁.setTop (mkF m 71 #[.val (.int st), .val (.int lo), .val (.int h), .val (.int (7 : Int32)), .val (.int (47 : Int32))] [(.int (0 : Int32))]))
              exact endN X0 hx (t := .boolean) Bd.returns (by simp) (hb hby d2_71) hlk ⟨(0 : Int32), rfl, N0, e0, Or.inr ⟨rfl, by
                  unfold Enc
                  have fz1 := rng32 h
                  have fz2 : ((0 : Int32)).toInt = 0 := rfl
                  have fz3 : ¬ ((h).toInt < ((0 : Int32)).toInt) := fun qz => H1_1 (Int32.lt_iff_toInt_lt.mpr qz)
                  have fz4 : ((2 : Int32)).toInt = 2 := rfl
                  have fz5 : ¬ (((2 : Int32)).toInt < (h).toInt) := fun qz => H6_2 (Int32.lt_iff_toInt_lt.mpr qz)
                  have fz6 : ¬ ((h).toInt = ((0 : Int32)).toInt) := fun qz => H12_3 (Int32.toInt_inj.mp qz)
                  have fz7 : ((1 : Int32)).toInt = 1 := rfl
                  have fz8 : ¬ ((h).toInt = ((1 : Int32)).toInt) := fun qz => H22_8 (Int32.toInt_inj.mp qz)
                  have fz9 := rng32 st
                  have fz10 : ¬ ((st).toInt < ((0 : Int32)).toInt) := fun qz => H58_13 (Int32.lt_iff_toInt_lt.mpr qz)
                  have fz11 : ((7 : Int32)).toInt = 7 := rfl
                  have fz12 : ¬ ((st).toInt < ((7 : Int32)).toInt) := fun qz => H63_14 (Int32.lt_iff_toInt_lt.mpr qz)
                  have fz13 := rng32 lo
                  omega⟩⟩ (by decide) (by decide)
theorem d1_0 : decode prog_94_method_2_code 0 = .ok (.iload_n 2, 1) := by decide +kernel
theorem d1_1 : decode prog_94_method_2_code 1 = .ok (.ifCond .lt 11, 3) := by decide +kernel
theorem d1_4 : decode prog_94_method_2_code 4 = .ok (.iload_n 2, 1) := by decide +kernel
theorem d1_5 : decode prog_94_method_2_code 5 = .ok (.getstatic 67, 3) := by decide +kernel
theorem d1_8 : decode prog_94_method_2_code 8 = .ok (.arraylength, 1) := by decide +kernel
theorem d1_9 : decode prog_94_method_2_code 9 = .ok (.if_icmp .lt 5, 3) := by decide +kernel
theorem d1_12 : decode prog_94_method_2_code 12 = .ok (.iconst 0, 1) := by decide +kernel
theorem d1_13 : decode prog_94_method_2_code 13 = .ok (.ireturn, 1) := by decide +kernel
theorem d1_14 : decode prog_94_method_2_code 14 = .ok (.getstatic 67, 3) := by decide +kernel
theorem d1_17 : decode prog_94_method_2_code 17 = .ok (.iload_n 2, 1) := by decide +kernel
theorem d1_18 : decode prog_94_method_2_code 18 = .ok (.iaload, 1) := by decide +kernel
theorem d1_19 : decode prog_94_method_2_code 19 = .ok (.istore_n 3, 1) := by decide +kernel
theorem d1_20 : decode prog_94_method_2_code 20 = .ok (.iload_n 0, 1) := by decide +kernel
theorem d1_21 : decode prog_94_method_2_code 21 = .ok (.ifCond .lt 12, 3) := by decide +kernel
theorem d1_24 : decode prog_94_method_2_code 24 = .ok (.iload_n 0, 1) := by decide +kernel
theorem d1_25 : decode prog_94_method_2_code 25 = .ok (.iload_n 3, 1) := by decide +kernel
theorem d1_26 : decode prog_94_method_2_code 26 = .ok (.if_icmp .ge 7, 3) := by decide +kernel
theorem d1_29 : decode prog_94_method_2_code 29 = .ok (.iload_n 1, 1) := by decide +kernel
theorem d1_30 : decode prog_94_method_2_code 30 = .ok (.ifCond .ge 5, 3) := by decide +kernel
theorem d1_33 : decode prog_94_method_2_code 33 = .ok (.iconst 0, 1) := by decide +kernel
theorem d1_34 : decode prog_94_method_2_code 34 = .ok (.ireturn, 1) := by decide +kernel
theorem d1_35 : decode prog_94_method_2_code 35 = .ok (.getstatic 64, 3) := by decide +kernel
theorem d1_38 : decode prog_94_method_2_code 38 = .ok (.iload_n 2, 1) := by decide +kernel
theorem d1_39 : decode prog_94_method_2_code 39 = .ok (.iaload, 1) := by decide +kernel
theorem d1_40 : decode prog_94_method_2_code 40 = .ok (.iload_n 0, 1) := by decide +kernel
theorem d1_41 : decode prog_94_method_2_code 41 = .ok (.iadd, 1) := by decide +kernel
theorem d1_42 : decode prog_94_method_2_code 42 = .ok (.i2l, 1) := by decide +kernel
theorem d1_43 : decode prog_94_method_2_code 43 = .ok (.iload_n 1, 1) := by decide +kernel
theorem d1_44 : decode prog_94_method_2_code 44 = .ok (.i2l, 1) := by decide +kernel
theorem d1_45 : decode prog_94_method_2_code 45 = .ok (.iload_n 3, 1) := by decide +kernel
theorem d1_46 : decode prog_94_method_2_code 46 = .ok (.i2l, 1) := by decide +kernel
theorem d1_47 : decode prog_94_method_2_code 47 = .ok (.lmul, 1) := by decide +kernel
theorem d1_48 : decode prog_94_method_2_code 48 = .ok (.ladd, 1) := by decide +kernel
theorem d1_49 : decode prog_94_method_2_code 49 = .ok (.lstore 4, 2) := by decide +kernel
theorem d1_51 : decode prog_94_method_2_code 51 = .ok (.lload 4, 2) := by decide +kernel
theorem d1_53 : decode prog_94_method_2_code 53 = .ok (.getstatic 64, 3) := by decide +kernel
theorem d1_56 : decode prog_94_method_2_code 56 = .ok (.iload_n 2, 1) := by decide +kernel
theorem d1_57 : decode prog_94_method_2_code 57 = .ok (.iconst 1, 1) := by decide +kernel
theorem d1_58 : decode prog_94_method_2_code 58 = .ok (.iadd, 1) := by decide +kernel
theorem d1_59 : decode prog_94_method_2_code 59 = .ok (.iaload, 1) := by decide +kernel
theorem d1_60 : decode prog_94_method_2_code 60 = .ok (.i2l, 1) := by decide +kernel
theorem d1_61 : decode prog_94_method_2_code 61 = .ok (.lcmp, 1) := by decide +kernel
theorem d1_62 : decode prog_94_method_2_code 62 = .ok (.ifCond .ge 9, 3) := by decide +kernel
theorem d1_65 : decode prog_94_method_2_code 65 = .ok (.lload 4, 2) := by decide +kernel
theorem d1_67 : decode prog_94_method_2_code 67 = .ok (.l2i, 1) := by decide +kernel
theorem d1_68 : decode prog_94_method_2_code 68 = .ok (.goto 4, 3) := by decide +kernel
theorem d1_71 : decode prog_94_method_2_code 71 = .ok (.iconst 0, 1) := by decide +kernel
theorem d1_72 : decode prog_94_method_2_code 72 = .ok (.ireturn, 1) := by decide +kernel
theorem pn1 : plainName "com/example/packwright/packwright/pack200/CodeBands" = true := by first | (simp [plainName, overriddenIn]; done) | decide +kernel
theorem ef_short (m : MethodId) (st : Int32) (lo : Int32) (h : Int32) (b0 : Addr) (b1 : Addr) (c0 : Cell) (c1 : Cell) : entryFrame m #[(.int st), (.int lo), (.int h)] 6 = mkF m 0 #[.val (.int st), .val (.int lo), .val (.int h), .unset, .unset, .unset] [] := by first | (simp [entryFrame, mkF, argsToLocals, Value.category]; done) | rfl
def Q_short (Z : State) (st : Int32) (lo : Int32) (h : Int32) (b0 : Addr) (b1 : Addr) (c0 : Cell) (c1 : Cell) (h0 : Heap) (n0 : Nat) (vz : Option Value) (hz : Heap) (Lz : List Loc) : Prop := ∃ r : Int32, vz = some (.int r) ∧ Fr n0 Lz ∧ hz = h0 ∧ Sh st lo h r
set_option maxRecDepth 65536 in
set_option maxHeartbeats 40000000 in
theorem rm_short (l : Launch) (Z : State) (a0 : Array Value) (hw : ∀ d ∈ tables_1, d.before a0 Z = true) (ws : List Jvm.Cond) (st : Int32) (lo : Int32) (h : Int32) (b0 : Addr) (b1 : Addr) (c0 : Cell) (c1 : Cell) (h0 : Heap) (n0 : Nat) (Z0 : n0 ≤ h0.size) (S0 : Sta Z h0 "com/example/packwright/packwright/pack200/CodeBands" "SHORT_FORM_STACKS" "[I" (.ref b0)) (S1 : Sta Z h0 "com/example/packwright/packwright/pack200/CodeBands" "SHORT_FORM_STARTS" "[I" (.ref b1)) (A0 : Arr Z h0 b0 c0 .int) (A1 : Arr Z h0 b1 c1 .int) (z0 : c0.slots.size.toInt32 = 3) (z1 : c1.slots.size.toInt32 = 4) (ub0_0 : ¬ ((0 : Int32) < 0 ∨ c0.slots.size ≤ (0 : Int32).toNatClampNeg) ∧ c0.slots[(0 : Int32).toNatClampNeg]? = some (.int (12 : Int32))) (ub0_1 : ¬ ((1 : Int32) < 0 ∨ c0.slots.size ≤ (1 : Int32).toNatClampNeg) ∧ c0.slots[(1 : Int32).toNatClampNeg]? = some (.int (8 : Int32))) (ub0_2 : ¬ ((2 : Int32) < 0 ∨ c0.slots.size ≤ (2 : Int32).toNatClampNeg) ∧ c0.slots[(2 : Int32).toNatClampNeg]? = some (.int (7 : Int32))) (ub1_0 : ¬ ((0 : Int32) < 0 ∨ c1.slots.size ≤ (0 : Int32).toNatClampNeg) ∧ c1.slots[(0 : Int32).toNatClampNeg]? = some (.int (1 : Int32))) (ub1_1 : ¬ ((1 : Int32) < 0 ∨ c1.slots.size ≤ (1 : Int32).toNatClampNeg) ∧ c1.slots[(1 : Int32).toNatClampNeg]? = some (.int (145 : Int32))) (ub1_2 : ¬ ((2 : Int32) < 0 ∨ c1.slots.size ≤ (2 : Int32).toNatClampNeg) ∧ c1.slots[(2 : Int32).toNatClampNeg]? = some (.int (209 : Int32))) (ub1_3 : ¬ ((3 : Int32) < 0 ∨ c1.slots.size ≤ (3 : Int32).toNatClampNeg) ∧ c1.slots[(3 : Int32).toNatClampNeg]? = some (.int (256 : Int32))) :
    MetFree l (⟨"com/example/packwright/packwright/pack200/CodeBands", "shortHeader", "(III)I"⟩ : MethodName) (head1 (Jvm.Cond.code (⟨"com/example/packwright/packwright/pack200/CodeBands", "shortHeader", "(III)I"⟩ : MethodName) prog_94_method_2_code 6 (some .int) :: ws) ({ frames := 0, cells := 0, slots := 0, locals := 0 } : Room)) (fun az Uz => az = #[(.int st), (.int lo), (.int h)] ∧ Z.Warmed39 Uz.vm ∧ Uz.heap = h0) (fun _ _ _ _ _ => True) (fun _ Uz oz Ut => ∃ vz Lz, oz = .returned vz ∧ Q_short Z st lo h b0 b1 c0 c1 h0 n0 vz Ut.heap Lz ∧ FrameEnd Uz oz Ut Lz (({ frames := 0, cells := 0, slots := 0, locals := 0 } : Room)).cells (({ frames := 0, cells := 0, slots := 0, locals := 0 } : Room)).slots) := by
  refine MetFree.of_bodySF (plainFor_of_name pn1) hisR ?_
  intro p e s m args below meth c s₁ Bd hml0 hP hK
  obtain ⟨rfl, hZ, hh⟩ := hP
  have hx := Bd.exec
  have hby := Bd.bytes
  have hml : c.maxLocals = 6 := hml0
  have hown : s.vm.findClass "com/example/packwright/packwright/pack200/CodeBands" = some m.cls := findClass_of_methodNamed Bd.named
  have hnm := (name_of_methodNamed Bd.named Bd.method).1
  have hlk : meth.locks = false := Bd.notSynchronized
  have X0 : Stand p l e ({ frames := 0, cells := 0, slots := 0, locals := 0 } : Room) s m #[(.int st), (.int lo), (.int h)] below meth c s₁ [] 0 0 := Stand.of_body Bd
  have e0 : s₁.heap = h0 := by rw [← hh, Bd.state]; rfl
  have N0 := Fr.nil n0
  show EndsK p e below (OQ s (Q_short Z st lo h b0 b1 c0 c1 h0 n0) (({ frames := 0, cells := 0, slots := 0, locals := 0 } : Room)).cells (({ frames := 0, cells := 0, slots := 0, locals := 0 } : Room)).slots) (s₁.setTop (entryFrame m #[(.int st), (.int lo), (.int h)] 6))
  refine EndsK.start (ef_short m st lo h b0 b1 c0 c1) ?_
  show EndsK p e below _ (s₁.setTop (mkF m 0 #[.val (.int st), .val (.int lo), .val (.int h), .unset, .unset, .unset] []))
  refine EndsK.go (fun _ kz => XS.iloadN X0.here hx rfl (hb hby d1_0) rfl kz) ?_
  show EndsK p e below _ (s₁.setTop (mkF m 1 #[.val (.int st), .val (.int lo), .val (.int h), .unset, .unset, .unset] [(.int h)]))
  by_cases H1_1 : h < (0 : Int32)
  · refine EndsK.go (fun _ kz => XS.ifYes X0.here hx rfl (pc0 := 1) (pc' := 12) rfl (hb hby d1_1) rfl ((if0 _ _).trans (tlt H1_1).1) (by decide) (by decide) kz) ?_
    show EndsK p e below _ (s₁.setTop (mkF m 12 #[.val (.int st), .val (.int lo), .val (.int h), .unset, .unset, .unset] []))
    refine EndsK.go (fun _ kz => XS.iconst X0.here hx rfl (hb hby d1_12) kz) ?_
    show EndsK p e below _ (s₁.setTop (mkF m 13 #[.val (.int st), .val (.int lo), .val (.int h), .unset, .unset, .unset] [(.int (0 : Int32))]))
    exact endI X0 hx Bd.returns (hb hby d1_13) hlk ⟨_, rfl, N0, e0, by
        unfold Sh Enc
        have fz1 := rng32 h
        have fz2 : ((0 : Int32)).toInt = 0 := rfl
        have fz3 : (h).toInt < ((0 : Int32)).toInt := Int32.lt_iff_toInt_lt.mp H1_1
        have fz4 := rng32 st
        have fz5 := rng32 lo
        omega⟩ (by decide) (by decide)
  · refine EndsK.go (fun _ kz => XS.ifNo X0.here hx rfl (hb hby d1_1) rfl ((if0 _ _).trans (flt H1_1).1) kz) ?_
    show EndsK p e below _ (s₁.setTop (mkF m 4 #[.val (.int st), .val (.int lo), .val (.int h), .unset, .unset, .unset] []))
    refine EndsK.go (fun _ kz => XS.iloadN X0.here hx rfl (hb hby d1_4) rfl kz) ?_
    show EndsK p e below _ (s₁.setTop (mkF m 5 #[.val (.int st), .val (.int lo), .val (.int h), .unset, .unset, .unset] [(.int h)]))
    obtain ⟨T2, X2, e2, st2⟩ := getS2 X0 hx hZ hown (host := "") (Or.inl (hw _ (List.mem_of_getElem? (i := 4) rfl))) Via.refl e0 S0 (g := (mkF m 5 #[.val (.int st), .val (.int lo), .val (.int h), .unset, .unset, .unset] [(.int h)])) rfl (hb hby d1_5)
    refine EndsK.go st2 ?_
    show EndsK p e below _ (T2.setTop (mkF m 8 #[.val (.int st), .val (.int lo), .val (.int h), .unset, .unset, .unset] [(.ref b0), (.int h)]))
    refine EndsK.go (fun tz kz => X2.arraylength hx (by rw [e2]; exact A0.1) (State.isArrayOf_alike hZ.alike A0.2.1) (g := (mkF m 8 #[.val (.int st), .val (.int lo), .val (.int h), .unset, .unset, .unset] [(.ref b0), (.int h)])) rfl rfl (hb hby d1_8) tz kz) ?_
    rw [z0]
    show EndsK p e below _ (T2.setTop (mkF m 9 #[.val (.int st), .val (.int lo), .val (.int h), .unset, .unset, .unset] [(.int (3 : Int32)), (.int h)]))
    by_cases H9_3 : h < (3 : Int32)
    · refine EndsK.go (fun _ kz => XS.icmpYes X2.here hx rfl (pc0 := 9) (pc' := 14) rfl (hb hby d1_9) rfl (tlt H9_3).1 (by decide) (by decide) kz) ?_
      show EndsK p e below _ (T2.setTop (mkF m 14 #[.val (.int st), .val (.int lo), .val (.int h), .unset, .unset, .unset] []))
      obtain rfl | rfl | rfl := own_three H1_1 H9_3
      · show EndsK p e below _ (T2.setTop (mkF m 14 #[.val (.int st), .val (.int lo), .val (.int (0 : Int32)), .unset, .unset, .unset] []))
        obtain ⟨T4, X4, e4, st4⟩ := getS2 X2 hx hZ hown (host := "") (Or.inl (hw _ (List.mem_of_getElem? (i := 4) rfl))) Via.refl e2 S0 (g := (mkF m 14 #[.val (.int st), .val (.int lo), .val (.int (0 : Int32)), .unset, .unset, .unset] [])) rfl (hb hby d1_14)
        refine EndsK.go st4 ?_
        show EndsK p e below _ (T4.setTop (mkF m 17 #[.val (.int st), .val (.int lo), .val (.int (0 : Int32)), .unset, .unset, .unset] [(.ref b0)]))
        refine EndsK.go (fun _ kz => XS.iloadN X4.here hx rfl (hb hby d1_17) rfl kz) ?_
        show EndsK p e below _ (T4.setTop (mkF m 18 #[.val (.int st), .val (.int lo), .val (.int (0 : Int32)), .unset, .unset, .unset] [(.int (0 : Int32)), (.ref b0)]))
        refine EndsK.go (fun tz kz => X4.iaload hx (j := (0 : Int32)) (v := (.int (12 : Int32))) (by rw [e4]; exact A0.1) (State.isArrayOf_alike hZ.alike A0.2.1) A0.2.2 ub0_0.1 ub0_0.2 (g := (mkF m 18 #[.val (.int st), .val (.int lo), .val (.int (0 : Int32)), .unset, .unset, .unset] [(.int (0 : Int32)), (.ref b0)])) rfl rfl (hb hby d1_18) tz kz) ?_
        show EndsK p e below _ (T4.setTop (mkF m 19 #[.val (.int st), .val (.int lo), .val (.int (0 : Int32)), .unset, .unset, .unset] [(.int (12 : Int32))]))
        refine EndsK.go (fun _ kz => XS.istoreN X4.here hx rfl (hb hby d1_19) rfl (l' := #[.val (.int st), .val (.int lo), .val (.int (0 : Int32)), .val (.int (12 : Int32)), .unset, .unset]) rfl kz) ?_
        show EndsK p e below _ (T4.setTop (mkF m 20 #[.val (.int st), .val (.int lo), .val (.int (0 : Int32)), .val (.int (12 : Int32)), .unset, .unset] []))
        refine EndsK.go (fun _ kz => XS.iloadN X4.here hx rfl (hb hby d1_20) rfl kz) ?_
        show EndsK p e below _ (T4.setTop (mkF m 21 #[.val (.int st), .val (.int lo), .val (.int (0 : Int32)), .val (.int (12 : Int32)), .unset, .unset] [(.int st)]))
        by_cases H21_5 : st < (0 : Int32)
        · refine EndsK.go (fun _ kz => XS.ifYes X4.here hx rfl (pc0 := 21) (pc' := 33) rfl (hb hby d1_21) rfl ((if0 _ _).trans (tlt H21_5).1) (by decide) (by decide) kz) ?_
          show EndsK p e below _ (T4.setTop (mkF m 33 #[.val (.int st), .val (.int lo), .val (.int (0 : Int32)), .val (.int (12 : Int32)), .unset, .unset] []))
          refine EndsK.go (fun _ kz => XS.iconst X4.here hx rfl (hb hby d1_33) kz) ?_
          show EndsK p e below _ (T4.setTop (mkF m 34 #[.val (.int st), .val (.int lo), .val (.int (0 : Int32)), .val (.int (12 : Int32)), .unset, .unset] [(.int (0 : Int32))]))
          exact endI X4 hx Bd.returns (hb hby d1_34) hlk ⟨_, rfl, N0, e4, by
              unfold Sh Enc
              have fz1 := rng32 st
              have fz2 : ((0 : Int32)).toInt = 0 := rfl
              have fz3 : (st).toInt < ((0 : Int32)).toInt := Int32.lt_iff_toInt_lt.mp H21_5
              have fz4 := rng32 lo
              omega⟩ (by decide) (by decide)
        · refine EndsK.go (fun _ kz => XS.ifNo X4.here hx rfl (hb hby d1_21) rfl ((if0 _ _).trans (flt H21_5).1) kz) ?_
          show EndsK p e below _ (T4.setTop (mkF m 24 #[.val (.int st), .val (.int lo), .val (.int (0 : Int32)), .val (.int (12 : Int32)), .unset, .unset] []))
          refine EndsK.go (fun _ kz => XS.iloadN X4.here hx rfl (hb hby d1_24) rfl kz) ?_
          show EndsK p e below _ (T4.setTop (mkF m 25 #[.val (.int st), .val (.int lo), .val (.int (0 : Int32)), .val (.int (12 : Int32)), .unset, .unset] [(.int st)]))
          refine EndsK.go (fun _ kz => XS.iloadN X4.here hx rfl (hb hby d1_25) rfl kz) ?_
          show EndsK p e below _ (T4.setTop (mkF m 26 #[.val (.int st), .val (.int lo), .val (.int (0 : Int32)), .val (.int (12 : Int32)), .unset, .unset] [(.int (12 : Int32)), (.int st)]))
          by_cases H26_6 : st < (12 : Int32)
          · refine EndsK.go (fun _ kz => XS.icmpNo X4.here hx rfl (hb hby d1_26) rfl (tlt H26_6).2.1 kz) ?_
            show EndsK p e below _ (T4.setTop (mkF m 29 #[.val (.int st), .val (.int lo), .val (.int (0 : Int32)), .val (.int (12 : Int32)), .unset, .unset] []))
            refine EndsK.go (fun _ kz => XS.iloadN X4.here hx rfl (hb hby d1_29) rfl kz) ?_
            show EndsK p e below _ (T4.setTop (mkF m 30 #[.val (.int st), .val (.int lo), .val (.int (0 : Int32)), .val (.int (12 : Int32)), .unset, .unset] [(.int lo)]))
            by_cases H30_7 : lo < (0 : Int32)
            · refine EndsK.go (fun _ kz => XS.ifNo X4.here hx rfl (hb hby d1_30) rfl ((if0 _ _).trans (tlt H30_7).2.1) kz) ?_
              show EndsK p e below _ (T4.setTop (mkF m 33 #[.val (.int st), .val (.int lo), .val (.int (0 : Int32)), .val (.int (12 : Int32)), .unset, .unset] []))
              refine EndsK.go (fun _ kz => XS.iconst X4.here hx rfl (hb hby d1_33) kz) ?_
              show EndsK p e below _ (T4.setTop (mkF m 34 #[.val (.int st), .val (.int lo), .val (.int (0 : Int32)), .val (.int (12 : Int32)), .unset, .unset] [(.int (0 : Int32))]))
              exact endI X4 hx Bd.returns (hb hby d1_34) hlk ⟨_, rfl, N0, e4, by
                  unfold Sh Enc
                  have fz1 := rng32 st
                  have fz2 : ((0 : Int32)).toInt = 0 := rfl
                  have fz3 : ¬ ((st).toInt < ((0 : Int32)).toInt) := fun qz => H21_5 (Int32.lt_iff_toInt_lt.mpr qz)
                  have fz4 : ((12 : Int32)).toInt = 12 := rfl
                  have fz5 : (st).toInt < ((12 : Int32)).toInt := Int32.lt_iff_toInt_lt.mp H26_6
                  have fz6 := rng32 lo
                  have fz7 : (lo).toInt < ((0 : Int32)).toInt := Int32.lt_iff_toInt_lt.mp H30_7
                  omega⟩ (by decide) (by decide)
            · refine EndsK.go (fun _ kz => XS.ifYes X4.here hx rfl (pc0 := 30) (pc' := 35) rfl (hb hby d1_30) rfl ((if0 _ _).trans (flt H30_7).2.1) (by decide) (by decide) kz) ?_
              show EndsK p e below _ (T4.setTop (mkF m 35 #[.val (.int st), .val (.int lo), .val (.int (0 : Int32)), .val (.int (12 : Int32)), .unset, .unset] []))
              obtain ⟨T8, X8, e8, st8⟩ := getS2 X4 hx hZ hown (host := "") (Or.inl (hw _ (List.mem_of_getElem? (i := 6) rfl))) Via.refl e4 S1 (g := (mkF m 35 #[.val (.int st), .val (.int lo), .val (.int (0 : Int32)), .val (.int (12 : Int32)), .unset, .unset] [])) rfl (hb hby d1_35)
              refine EndsK.go st8 ?_
              show EndsK p e below _ (T8.setTop (mkF m 38 #[.val (.int st), .val (.int lo), .val (.int (0 : Int32)), .val (.int (12 : Int32)), .unset, .unset] [(.ref b1)]))
              refine EndsK.go (fun _ kz => XS.iloadN X8.here hx rfl (hb hby d1_38) rfl kz) ?_
              show EndsK p e below _ (T8.setTop (mkF m 39 #[.val (.int st), .val (.int lo), .val (.int (0 : Int32)), .val (.int (12 : Int32)), .unset, .unset] [(.int (0 : Int32)), (.ref b1)]))
              refine EndsK.go (fun tz kz => X8.iaload hx (j := (0 : Int32)) (v := (.int (1 : Int32))) (by rw [e8]; exact A1.1) (State.isArrayOf_alike hZ.alike A1.2.1) A1.2.2 ub1_0.1 ub1_0.2 (g := (mkF m 39 #[.val (.int st), .val (.int lo), .val (.int (0 : Int32)), .val (.int (12 : Int32)), .unset, .unset] [(.int (0 : Int32)), (.ref b1)])) rfl rfl (hb hby d1_39) tz kz) ?_
              show EndsK p e below _ (T8.setTop (mkF m 40 #[.val (.int st), .val (.int lo), .val (.int (0 : Int32)), .val (.int (12 : Int32)), .unset, .unset] [(.int (1 : Int32))]))
              refine EndsK.go (fun _ kz => XS.iloadN X8.here hx rfl (hb hby d1_40) rfl kz) ?_
              show EndsK p e below _ (T8.setTop (mkF m 41 #[.val (.int st), .val (.int lo), .val (.int (0 : Int32)), .val (.int (12 : Int32)), .unset, .unset] [(.int st), (.int (1 : Int32))]))
              refine EndsK.go (fun _ kz => XS.iadd X8.here hx rfl (hb hby d1_41) rfl kz) ?_
              show EndsK p e below _ (T8.setTop (mkF m 42 #[.val (.int st), .val (.int lo), .val (.int (0 : Int32)), .val (.int (12 : Int32)), .unset, .unset] [(.int ((1 : Int32) + st))]))
              refine EndsK.go (fun _ kz => XS.i2l X8.here hx rfl (hb hby d1_42) rfl kz) ?_
              show EndsK p e below _ (T8.setTop (mkF m 43 #[.val (.int st), .val (.int lo), .val (.int (0 : Int32)), .val (.int (12 : Int32)), .unset, .unset] [(.long ((1 : Int32) + st).toInt64)]))
              refine EndsK.go (fun _ kz => XS.iloadN X8.here hx rfl (hb hby d1_43) rfl kz) ?_
              show EndsK p e below _ (T8.setTop (mkF m 44 #[.val (.int st), .val (.int lo), .val (.int (0 : Int32)), .val (.int (12 : Int32)), .unset, .unset] [(.int lo), (.long ((1 : Int32) + st).toInt64)]))
              refine EndsK.go (fun _ kz => XS.i2l X8.here hx rfl (hb hby d1_44) rfl kz) ?_
              show EndsK p e below _ (T8.setTop (mkF m 45 #[.val (.int st), .val (.int lo), .val (.int (0 : Int32)), .val (.int (12 : Int32)), .unset, .unset] [(.long lo.toInt64), (.long ((1 : Int32) + st).toInt64)]))
              refine EndsK.go (fun _ kz => XS.iloadN X8.here hx rfl (hb hby d1_45) rfl kz) ?_
              show EndsK p e below _ (T8.setTop (mkF m 46 #[.val (.int st), .val (.int lo), .val (.int (0 : Int32)), .val (.int (12 : Int32)), .unset, .unset] [(.int (12 : Int32)), (.long lo.toInt64), (.long ((1 : Int32) + st).toInt64)]))
              refine EndsK.go (fun _ kz => XS.i2l X8.here hx rfl (hb hby d1_46) rfl kz) ?_
              show EndsK p e below _ (T8.setTop (mkF m 47 #[.val (.int st), .val (.int lo), .val (.int (0 : Int32)), .val (.int (12 : Int32)), .unset, .unset] [(.long (12 : Int32).toInt64), (.long lo.toInt64), (.long ((1 : Int32) + st).toInt64)]))
              refine EndsK.go (fun _ kz => XS.lmul X8.here hx rfl (hb hby d1_47) rfl kz) ?_
              show EndsK p e below _ (T8.setTop (mkF m 48 #[.val (.int st), .val (.int lo), .val (.int (0 : Int32)), .val (.int (12 : Int32)), .unset, .unset] [(.long (lo.toInt64 * (12 : Int32).toInt64)), (.long ((1 : Int32) + st).toInt64)]))
              refine EndsK.go (fun _ kz => XS.ladd X8.here hx rfl (hb hby d1_48) rfl kz) ?_
              show EndsK p e below _ (T8.setTop (mkF m 49 #[.val (.int st), .val (.int lo), .val (.int (0 : Int32)), .val (.int (12 : Int32)), .unset, .unset] [(.long (((1 : Int32) + st).toInt64 + (lo.toInt64 * (12 : Int32).toInt64)))]))
              refine EndsK.go (fun _ kz => XS.lstore X8.here hx rfl (hb hby d1_49) rfl (l' := #[.val (.int st), .val (.int lo), .val (.int (0 : Int32)), .val (.int (12 : Int32)), .val (.long (((1 : Int32) + st).toInt64 + (lo.toInt64 * (12 : Int32).toInt64))), .second]) rfl kz) ?_
              show EndsK p e below _ (T8.setTop (mkF m 51 #[.val (.int st), .val (.int lo), .val (.int (0 : Int32)), .val (.int (12 : Int32)), .val (.long (((1 : Int32) + st).toInt64 + (lo.toInt64 * (12 : Int32).toInt64))), .second] []))
              refine EndsK.go (fun _ kz => XS.lload X8.here hx rfl (hb hby d1_51) rfl kz) ?_
              show EndsK p e below _ (T8.setTop (mkF m 53 #[.val (.int st), .val (.int lo), .val (.int (0 : Int32)), .val (.int (12 : Int32)), .val (.long (((1 : Int32) + st).toInt64 + (lo.toInt64 * (12 : Int32).toInt64))), .second] [(.long (((1 : Int32) + st).toInt64 + (lo.toInt64 * (12 : Int32).toInt64)))]))
              obtain ⟨T9, X9, e9, st9⟩ := getS2 X8 hx hZ hown (host := "") (Or.inl (hw _ (List.mem_of_getElem? (i := 6) rfl))) Via.refl e8 S1 (g := (mkF m 53 #[.val (.int st), .val (.int lo), .val (.int (0 : Int32)), .val (.int (12 : Int32)), .val (.long (((1 : Int32) + st).toInt64 + (lo.toInt64 * (12 : Int32).toInt64))), .second] [(.long (((1 : Int32) + st).toInt64 + (lo.toInt64 * (12 : Int32).toInt64)))])) rfl (hb hby d1_53)
              refine EndsK.go st9 ?_
              show EndsK p e below _ (T9.setTop (mkF m 56 #[.val (.int st), .val (.int lo), .val (.int (0 : Int32)), .val (.int (12 : Int32)), .val (.long (((1 : Int32) + st).toInt64 + (lo.toInt64 * (12 : Int32).toInt64))), .second] [(.ref b1), (.long (((1 : Int32) + st).toInt64 + (lo.toInt64 * (12 : Int32).toInt64)))]))
              refine EndsK.go (fun _ kz => XS.iloadN X9.here hx rfl (hb hby d1_56) rfl kz) ?_
              show EndsK p e below _ (T9.setTop (mkF m 57 #[.val (.int st), .val (.int lo), .val (.int (0 : Int32)), .val (.int (12 : Int32)), .val (.long (((1 : Int32) + st).toInt64 + (lo.toInt64 * (12 : Int32).toInt64))), .second] [(.int (0 : Int32)), (.ref b1), (.long (((1 : Int32) + st).toInt64 + (lo.toInt64 * (12 : Int32).toInt64)))]))
              refine EndsK.go (fun _ kz => XS.iconst X9.here hx rfl (hb hby d1_57) kz) ?_
              show EndsK p e below _ (T9.setTop (mkF m 58 #[.val (.int st), .val (.int lo), .val (.int (0 : Int32)), .val (.int (12 : Int32)), .val (.long (((1 : Int32) + st).toInt64 + (lo.toInt64 * (12 : Int32).toInt64))), .second] [(.int (1 : Int32)), (.int (0 : Int32)), (.ref b1), (.long (((1 : Int32) + st).toInt64 + (lo.toInt64 * (12 : Int32).toInt64)))]))
              refine EndsK.go (fun _ kz => XS.iadd X9.here hx rfl (hb hby d1_58) rfl kz) ?_
              show EndsK p e below _ (T9.setTop (mkF m 59 #[.val (.int st), .val (.int lo), .val (.int (0 : Int32)), .val (.int (12 : Int32)), .val (.long (((1 : Int32) + st).toInt64 + (lo.toInt64 * (12 : Int32).toInt64))), .second] [(.int (1 : Int32)), (.ref b1), (.long (((1 : Int32) + st).toInt64 + (lo.toInt64 * (12 : Int32).toInt64)))]))
              refine EndsK.go (fun tz kz => X9.iaload hx (j := (1 : Int32)) (v := (.int (145 : Int32))) (by rw [e9]; exact A1.1) (State.isArrayOf_alike hZ.alike A1.2.1) A1.2.2 ub1_1.1 ub1_1.2 (g := (mkF m 59 #[.val (.int st), .val (.int lo), .val (.int (0 : Int32)), .val (.int (12 : Int32)), .val (.long (((1 : Int32) + st).toInt64 + (lo.toInt64 * (12 : Int32).toInt64))), .second] [(.int (1 : Int32)), (.ref b1), (.long (((1 : Int32) + st).toInt64 + (lo.toInt64 * (12 : Int32).toInt64)))])) rfl rfl (hb hby d1_59) tz kz) ?_
              show EndsK p e below _ (T9.setTop (mkF m 60 #[.val (.int st), .val (.int lo), .val (.int (0 : Int32)), .val (.int (12 : Int32)), .val (.long (((1 : Int32) + st).toInt64 + (lo.toInt64 * (12 : Int32).toInt64))), .second] [(.int (145 : Int32)), (.long (((1 : Int32) + st).toInt64 + (lo.toInt64 * (12 : Int32).toInt64)))]))
              refine EndsK.go (fun _ kz => XS.i2l X9.here hx rfl (hb hby d1_60) rfl kz) ?_
              show EndsK p e below _ (T9.setTop (mkF m 61 #[.val (.int st), .val (.int lo), .val (.int (0 : Int32)), .val (.int (12 : Int32)), .val (.long (((1 : Int32) + st).toInt64 + (lo.toInt64 * (12 : Int32).toInt64))), .second] [(.long (145 : Int32).toInt64), (.long (((1 : Int32) + st).toInt64 + (lo.toInt64 * (12 : Int32).toInt64)))]))
              refine EndsK.go (fun _ kz => XS.lcmp X9.here hx rfl (hb hby d1_61) rfl kz) ?_
              show EndsK p e below _ (T9.setTop (mkF m 62 #[.val (.int st), .val (.int lo), .val (.int (0 : Int32)), .val (.int (12 : Int32)), .val (.long (((1 : Int32) + st).toInt64 + (lo.toInt64 * (12 : Int32).toInt64))), .second] [(.int (lcmpW (((1 : Int32) + st).toInt64 + (lo.toInt64 * (12 : Int32).toInt64)) (145 : Int32).toInt64))]))
              by_cases H62_10 : (lcmpW (((1 : Int32) + st).toInt64 + (lo.toInt64 * (12 : Int32).toInt64)) (145 : Int32).toInt64) < (0 : Int32)
              · refine EndsK.go (fun _ kz => XS.ifNo X9.here hx rfl (hb hby d1_62) rfl ((if0 _ _).trans (tlt H62_10).2.1) kz) ?_
                show EndsK p e below _ (T9.setTop (mkF m 65 #[.val (.int st), .val (.int lo), .val (.int (0 : Int32)), .val (.int (12 : Int32)), .val (.long (((1 : Int32) + st).toInt64 + (lo.toInt64 * (12 : Int32).toInt64))), .second] []))
                refine EndsK.go (fun _ kz => XS.lload X9.here hx rfl (hb hby d1_65) rfl kz) ?_
                show EndsK p e below _ (T9.setTop (mkF m 67 #[.val (.int st), .val (.int lo), .val (.int (0 : Int32)), .val (.int (12 : Int32)), .val (.long (((1 : Int32) + st).toInt64 + (lo.toInt64 * (12 : Int32).toInt64))), .second] [(.long (((1 : Int32) + st).toInt64 + (lo.toInt64 * (12 : Int32).toInt64)))]))
                refine EndsK.go (fun _ kz => XS.l2i X9.here hx rfl (hb hby d1_67) rfl kz) ?_
                show EndsK p e below _ (T9.setTop (mkF m 68 #[.val (.int st), .val (.int lo), .val (.int (0 : Int32)), .val (.int (12 : Int32)), .val (.long (((1 : Int32) + st).toInt64 + (lo.toInt64 * (12 : Int32).toInt64))), .second] [(.int (((1 : Int32) + st).toInt64 + (lo.toInt64 * (12 : Int32).toInt64)).toInt32)]))
                refine EndsK.go (fun _ kz => XS.goto X9.here hx rfl (pc0 := 68) (pc' := 72) rfl (hb hby d1_68) (by decide) (by decide) kz) ?_
                show EndsK p e below _ (T9.setTop (mkF m 72 #[.val (.int st), .val (.int lo), .val (.int (0 : Int32)), .val (.int (12 : Int32)), .val (.long (((1 : Int32) + st).toInt64 + (lo.toInt64 * (12 : Int32).toInt64))), .second] [(.int (((1 : Int32) + st).toInt64 + (lo.toInt64 * (12 : Int32).toInt64)).toInt32)]))
                exact endI X9 hx Bd.returns (hb hby d1_72) hlk ⟨_, rfl, N0, e9, by
                    unfold Sh Enc
                    have fz1 := rng32 st
                    have fz2 : ((0 : Int32)).toInt = 0 := rfl
                    have fz3 : ¬ ((st).toInt < ((0 : Int32)).toInt) := fun qz => H21_5 (Int32.lt_iff_toInt_lt.mpr qz)
                    have fz4 : ((12 : Int32)).toInt = 12 := rfl
                    have fz5 : (st).toInt < ((12 : Int32)).toInt := Int32.lt_iff_toInt_lt.mp H26_6
                    have fz6 := rng32 lo
                    have fz7 : ¬ ((lo).toInt < ((0 : Int32)).toInt) := fun qz => H30_7 (Int32.lt_iff_toInt_lt.mpr qz)
                    have fz8 : ((1 : Int32)).toInt = 1 := rfl
                    have fz9 : (((1 : Int32) + st)).toInt = ((1 : Int32)).toInt + (st).toInt := own_iadd (1 : Int32) st (by omega) (by omega)
                    have fz10 := c_i2l ((1 : Int32) + st)
                    have fz11 := c_i2l lo
                    have fz12 := c_i2l (12 : Int32)
                    have fz13 := own_wide lo (12 : Int32) 12 rfl
                    have fz14 : ((((1 : Int32) + st).toInt64 + (lo.toInt64 * (12 : Int32).toInt64))).toInt = (((1 : Int32) + st).toInt64).toInt + ((lo.toInt64 * (12 : Int32).toInt64)).toInt := own_ladd ((1 : Int32) + st).toInt64 (lo.toInt64 * (12 : Int32).toInt64) (by omega) (by omega)
                    have fz15 : ((145 : Int32)).toInt = 145 := rfl
                    have fz16 := c_i2l (145 : Int32)
                    have fz17 := c_lcmp (((1 : Int32) + st).toInt64 + (lo.toInt64 * (12 : Int32).toInt64)) (145 : Int32).toInt64
                    have fz18 : ((lcmpW (((1 : Int32) + st).toInt64 + (lo.toInt64 * (12 : Int32).toInt64)) (145 : Int32).toInt64)).toInt < ((0 : Int32)).toInt := Int32.lt_iff_toInt_lt.mp H62_10
                    have fz19 : ((((1 : Int32) + st).toInt64 + (lo.toInt64 * (12 : Int32).toInt64)).toInt32).toInt = ((((1 : Int32) + st).toInt64 + (lo.toInt64 * (12 : Int32).toInt64))).toInt := own_l2i (((1 : Int32) + st).toInt64 + (lo.toInt64 * (12 : Int32).toInt64)) (by omega) (by omega)
                    omega⟩ (by decide) (by decide)
              · refine EndsK.go (fun _ kz => XS.ifYes X9.here hx rfl (pc0 := 62) (pc' := 71) rfl (hb hby d1_62) rfl ((if0 _ _).trans (flt H62_10).2.1) (by decide) (by decide) kz) ?_
                show EndsK p e below _ (T9.setTop (mkF m 71 #[.val (.int st), .val (.int lo), .val (.int (0 : Int32)), .val (.int (12 : Int32)), .val (.long (((1 : Int32) + st).toInt64 + (lo.toInt64 * (12 : Int32).toInt64))), .second] []))
                refine EndsK.go (fun _ kz => XS.iconst X9.here hx rfl (hb hby d1_71) kz) ?_
                show EndsK p e below _ (T9.setTop (mkF m 72 #[.val (.int st), .val (.int lo), .val (.int (0 : Int32)), .val (.int (12 : Int32)), .val (.long (((1 : Int32) + st).toInt64 + (lo.toInt64 * (12 : Int32).toInt64))), .second] [(.int (0 : Int32))]))
                exact endI X9 hx Bd.returns (hb hby d1_72) hlk ⟨_, rfl, N0, e9, by
                    unfold Sh Enc
                    have fz1 := rng32 st
                    have fz2 : ((0 : Int32)).toInt = 0 := rfl
                    have fz3 : ¬ ((st).toInt < ((0 : Int32)).toInt) := fun qz => H21_5 (Int32.lt_iff_toInt_lt.mpr qz)
                    have fz4 : ((12 : Int32)).toInt = 12 := rfl
                    have fz5 : (st).toInt < ((12 : Int32)).toInt := Int32.lt_iff_toInt_lt.mp H26_6
                    have fz6 := rng32 lo
                    have fz7 : ¬ ((lo).toInt < ((0 : Int32)).toInt) := fun qz => H30_7 (Int32.lt_iff_toInt_lt.mpr qz)
                    have fz8 : ((1 : Int32)).toInt = 1 := rfl
                    have fz9 : (((1 : Int32) + st)).toInt = ((1 : Int32)).toInt + (st).toInt := own_iadd (1 : Int32) st (by omega) (by omega)
                    have fz10 := c_i2l ((1 : Int32) + st)
                    have fz11 := c_i2l lo
                    have fz12 := c_i2l (12 : Int32)
                    have fz13 := own_wide lo (12 : Int32) 12 rfl
                    have fz14 : ((((1 : Int32) + st).toInt64 + (lo.toInt64 * (12 : Int32).toInt64))).toInt = (((1 : Int32) + st).toInt64).toInt + ((lo.toInt64 * (12 : Int32).toInt64)).toInt := own_ladd ((1 : Int32) + st).toInt64 (lo.toInt64 * (12 : Int32).toInt64) (by omega) (by omega)
                    have fz15 : ((145 : Int32)).toInt = 145 := rfl
                    have fz16 := c_i2l (145 : Int32)
                    have fz17 := c_lcmp (((1 : Int32) + st).toInt64 + (lo.toInt64 * (12 : Int32).toInt64)) (145 : Int32).toInt64
                    have fz18 : ¬ (((lcmpW (((1 : Int32) + st).toInt64 + (lo.toInt64 * (12 : Int32).toInt64)) (145 : Int32).toInt64)).toInt < ((0 : Int32)).toInt) := fun qz => H62_10 (Int32.lt_iff_toInt_lt.mpr qz)
                    omega⟩ (by decide) (by decide)
          · refine EndsK.go (fun _ kz => XS.icmpYes X4.here hx rfl (pc0 := 26) (pc' := 33) rfl (hb hby d1_26) rfl (flt H26_6).2.1 (by decide) (by decide) kz) ?_
            show EndsK p e below _ (T4.setTop (mkF m 33 #[.val (.int st), .val (.int lo), .val (.int (0 : Int32)), .val (.int (12 : Int32)), .unset, .unset] []))
            refine EndsK.go (fun _ kz => XS.iconst X4.here hx rfl (hb hby d1_33) kz) ?_
            show EndsK p e below _ (T4.setTop (mkF m 34 #[.val (.int st), .val (.int lo), .val (.int (0 : Int32)), .val (.int (12 : Int32)), .unset, .unset] [(.int (0 : Int32))]))
            exact endI X4 hx Bd.returns (hb hby d1_34) hlk ⟨_, rfl, N0, e4, by
                unfold Sh Enc
                have fz1 := rng32 st
                have fz2 : ((0 : Int32)).toInt = 0 := rfl
                have fz3 : ¬ ((st).toInt < ((0 : Int32)).toInt) := fun qz => H21_5 (Int32.lt_iff_toInt_lt.mpr qz)
                have fz4 : ((12 : Int32)).toInt = 12 := rfl
                have fz5 : ¬ ((st).toInt < ((12 : Int32)).toInt) := fun qz => H26_6 (Int32.lt_iff_toInt_lt.mpr qz)
                have fz6 := rng32 lo
                omega⟩ (by decide) (by decide)
      · show EndsK p e below _ (T2.setTop (mkF m 14 #[.val (.int st), .val (.int lo), .val (.int (1 : Int32)), .unset, .unset, .unset] []))
        obtain ⟨T11, X11, e11, st11⟩ := getS2 X2 hx hZ hown (host := "") (Or.inl (hw _ (List.mem_of_getElem? (i := 4) rfl))) Via.refl e2 S0 (g := (mkF m 14 #[.val (.int st), .val (.int lo), .val (.int (1 : Int32)), .unset, .unset, .unset] [])) rfl (hb hby d1_14)
        refine EndsK.go st11 ?_
        show EndsK p e below _ (T11.setTop (mkF m 17 #[.val (.int st), .val (.int lo), .val (.int (1 : Int32)), .unset, .unset, .unset] [(.ref b0)]))
        refine EndsK.go (fun _ kz => XS.iloadN X11.here hx rfl (hb hby d1_17) rfl kz) ?_
        show EndsK p e below _ (T11.setTop (mkF m 18 #[.val (.int st), .val (.int lo), .val (.int (1 : Int32)), .unset, .unset, .unset] [(.int (1 : Int32)), (.ref b0)]))
        refine EndsK.go (fun tz kz => X11.iaload hx (j := (1 : Int32)) (v := (.int (8 : Int32))) (by rw [e11]; exact A0.1) (State.isArrayOf_alike hZ.alike A0.2.1) A0.2.2 ub0_1.1 ub0_1.2 (g := (mkF m 18 #[.val (.int st), .val (.int lo), .val (.int (1 : Int32)), .unset, .unset, .unset] [(.int (1 : Int32)), (.ref b0)])) rfl rfl (hb hby d1_18) tz kz) ?_
        show EndsK p e below _ (T11.setTop (mkF m 19 #[.val (.int st), .val (.int lo), .val (.int (1 : Int32)), .unset, .unset, .unset] [(.int (8 : Int32))]))
        refine EndsK.go (fun _ kz => XS.istoreN X11.here hx rfl (hb hby d1_19) rfl (l' := #[.val (.int st), .val (.int lo), .val (.int (1 : Int32)), .val (.int (8 : Int32)), .unset, .unset]) rfl kz) ?_
        show EndsK p e below _ (T11.setTop (mkF m 20 #[.val (.int st), .val (.int lo), .val (.int (1 : Int32)), .val (.int (8 : Int32)), .unset, .unset] []))
        refine EndsK.go (fun _ kz => XS.iloadN X11.here hx rfl (hb hby d1_20) rfl kz) ?_
        show EndsK p e below _ (T11.setTop (mkF m 21 #[.val (.int st), .val (.int lo), .val (.int (1 : Int32)), .val (.int (8 : Int32)), .unset, .unset] [(.int st)]))
        by_cases H21_12 : st < (0 : Int32)
        · refine EndsK.go (fun _ kz => XS.ifYes X11.here hx rfl (pc0 := 21) (pc' := 33) rfl (hb hby d1_21) rfl ((if0 _ _).trans (tlt H21_12).1) (by decide) (by decide) kz) ?_
          show EndsK p e below _ (T11.setTop (mkF m 33 #[.val (.int st), .val (.int lo), .val (.int (1 : Int32)), .val (.int (8 : Int32)), .unset, .unset] []))
          refine EndsK.go (fun _ kz => XS.iconst X11.here hx rfl (hb hby d1_33) kz) ?_
          show EndsK p e below _ (T11.setTop (mkF m 34 #[.val (.int st), .val (.int lo), .val (.int (1 : Int32)), .val (.int (8 : Int32)), .unset, .unset] [(.int (0 : Int32))]))
          exact endI X11 hx Bd.returns (hb hby d1_34) hlk ⟨_, rfl, N0, e11, by
              unfold Sh Enc
              have fz1 := rng32 st
              have fz2 : ((0 : Int32)).toInt = 0 := rfl
              have fz3 : (st).toInt < ((0 : Int32)).toInt := Int32.lt_iff_toInt_lt.mp H21_12
              have fz4 := rng32 lo
              have fz5 : ((1 : Int32)).toInt = 1 := rfl
              omega⟩ (by decide) (by decide)
        · refine EndsK.go (fun _ kz => XS.ifNo X11.here hx rfl (hb hby d1_21) rfl ((if0 _ _).trans (flt H21_12).1) kz) ?_
          show EndsK p e below _ (T11.setTop (mkF m 24 #[.val (.int st), .val (.int lo), .val (.int (1 : Int32)), .val (.int (8 : Int32)), .unset, .unset] []))
          refine EndsK.go (fun _ kz => XS.iloadN X11.here hx rfl (hb hby d1_24) rfl kz) ?_
          show EndsK p e below _ (T11.setTop (mkF m 25 #[.val (.int st), .val (.int lo), .val (.int (1 : Int32)), .val (.int (8 : Int32)), .unset, .unset] [(.int st)]))
          refine EndsK.go (fun _ kz => XS.iloadN X11.here hx rfl (hb hby d1_25) rfl kz) ?_
          show EndsK p e below _ (T11.setTop (mkF m 26 #[.val (.int st), .val (.int lo), .val (.int (1 : Int32)), .val (.int (8 : Int32)), .unset, .unset] [(.int (8 : Int32)), (.int st)]))
          by_cases H26_13 : st < (8 : Int32)
          · refine EndsK.go (fun _ kz => XS.icmpNo X11.here hx rfl (hb hby d1_26) rfl (tlt H26_13).2.1 kz) ?_
            show EndsK p e below _ (T11.setTop (mkF m 29 #[.val (.int st), .val (.int lo), .val (.int (1 : Int32)), .val (.int (8 : Int32)), .unset, .unset] []))
            refine EndsK.go (fun _ kz => XS.iloadN X11.here hx rfl (hb hby d1_29) rfl kz) ?_
            show EndsK p e below _ (T11.setTop (mkF m 30 #[.val (.int st), .val (.int lo), .val (.int (1 : Int32)), .val (.int (8 : Int32)), .unset, .unset] [(.int lo)]))
            by_cases H30_14 : lo < (0 : Int32)
            · refine EndsK.go (fun _ kz => XS.ifNo X11.here hx rfl (hb hby d1_30) rfl ((if0 _ _).trans (tlt H30_14).2.1) kz) ?_
              show EndsK p e below _ (T11.setTop (mkF m 33 #[.val (.int st), .val (.int lo), .val (.int (1 : Int32)), .val (.int (8 : Int32)), .unset, .unset] []))
              refine EndsK.go (fun _ kz => XS.iconst X11.here hx rfl (hb hby d1_33) kz) ?_
              show EndsK p e below _ (T11.setTop (mkF m 34 #[.val (.int st), .val (.int lo), .val (.int (1 : Int32)), .val (.int (8 : Int32)), .unset, .unset] [(.int (0 : Int32))]))
              exact endI X11 hx Bd.returns (hb hby d1_34) hlk ⟨_, rfl, N0, e11, by
                  unfold Sh Enc
                  have fz1 := rng32 st
                  have fz2 : ((0 : Int32)).toInt = 0 := rfl
                  have fz3 : ¬ ((st).toInt < ((0 : Int32)).toInt) := fun qz => H21_12 (Int32.lt_iff_toInt_lt.mpr qz)
                  have fz4 : ((8 : Int32)).toInt = 8 := rfl
                  have fz5 : (st).toInt < ((8 : Int32)).toInt := Int32.lt_iff_toInt_lt.mp H26_13
                  have fz6 := rng32 lo
                  have fz7 : (lo).toInt < ((0 : Int32)).toInt := Int32.lt_iff_toInt_lt.mp H30_14
                  have fz8 : ((1 : Int32)).toInt = 1 := rfl
                  omega⟩ (by decide) (by decide)
            · refine EndsK.go (fun _ kz => XS.ifYes X11.here hx rfl (pc0 := 30) (pc' := 35) rfl (hb hby d1_30) rfl ((if0 _ _).trans (flt H30_14).2.1) (by decide) (by decide) kz) ?_
              show EndsK p e below _ (T11.setTop (mkF m 35 #[.val (.int st), .val (.int lo), .val (.int (1 : Int32)), .val (.int (8 : Int32)), .unset, .unset] []))
              obtain ⟨T15, X15, e15, st15⟩ := getS2 X11 hx hZ hown (host := "") (Or.inl (hw _ (List.mem_of_getElem? (i := 6) rfl))) Via.refl e11 S1 (g := (mkF m 35 #[.val (.int st), .val (.int lo), .val (.int (1 : Int32)), .val (.int (8 : Int32)), .unset, .unset] [])) rfl (hb hby d1_35)
              refine EndsK.go st15 ?_
              show EndsK p e below _ (T15.setTop (mkF m 38 #[.val (.int st), .val (.int lo), .val (.int (1 : Int32)), .val (.int (8 : Int32)), .unset, .unset] [(.ref b1)]))
              refine EndsK.go (fun _ kz => XS.iloadN X15.here hx rfl (hb hby d1_38) rfl kz) ?_
              show EndsK p e below _ (T15.setTop (mkF m 39 #[.val (.int st), .val (.int lo), .val (.int (1 : Int32)), .val (.int (8 : Int32)), .unset, .unset] [(.int (1 : Int32)), (.ref b1)]))
              refine EndsK.go (fun tz kz => X15.iaload hx (j := (1 : Int32)) (v := (.int (145 : Int32))) (by rw [e15]; exact A1.1) (State.isArrayOf_alike hZ.alike A1.2.1) A1.2.2 ub1_1.1 ub1_1.2 (g := (mkF m 39 #[.val (.int st), .val (.int lo), .val (.int (1 : Int32)), .val (.int (8 : Int32)), .unset, .unset] [(.int (1 : Int32)), (.ref b1)])) rfl rfl (hb hby d1_39) tz kz) ?_
              show EndsK p e below _ (T15.setTop (mkF m 40 #[.val (.int st), .val (.int lo), .val (.int (1 : Int32)), .val (.int (8 : Int32)), .unset, .unset] [(.int (145 : Int32))]))
              refine EndsK.go (fun _ kz => XS.iloadN X15.here hx rfl (hb hby d1_40) rfl kz) ?_
              show EndsK p e below _ (T15.setTop (mkF m 41 #[.val (.int st), .val (.int lo), .val (.int (1 : Int32)), .val (.int (8 : Int32)), .unset, .unset] [(.int st), (.int (145 : Int32))]))
              refine EndsK.go (fun _ kz => XS.iadd X15.here hx rfl (hb hby d1_41) rfl kz) ?_
              show EndsK p e below _ (T15.setTop (mkF m 42 #[.val (.int st), .val (.int lo), .val (.int (1 : Int32)), .val (.int (8 : Int32)), .unset, .unset] [(.int ((145 : Int32) + st))]))
              refine EndsK.go (fun _ kz => XS.i2l X15.here hx rfl (hb hby d1_42) rfl kz) ?_
              show EndsK p e below _ (T15.setTop (mkF m 43 #[.val (.int st), .val (.int lo), .val (.int (1 : Int32)), .val (.int (8 : Int32)), .unset, .unset] [(.long ((145 : Int32) + st).toInt64)]))
              refine EndsK.go (fun _ kz => XS.iloadN X15.here hx rfl (hb hby d1_43) rfl kz) ?_
              show EndsK p e below _ (T15.setTop (mkF m 44 #[.val (.int st), .val (.int lo), .val (.int (1 : Int32)), .val (.int (8 : Int32)), .unset, .unset] [(.int lo), (.long ((145 : Int32) + st).toInt64)]))
              refine EndsK.go (fun _ kz => XS.i2l X15.here hx rfl (hb hby d1_44) rfl kz) ?_
              show EndsK p e below _ (T15.setTop (mkF m 45 #[.val (.int st), .val (.int lo), .val (.int (1 : Int32)), .val (.int (8 : Int32)), .unset, .unset] [(.long lo.toInt64), (.long ((145 : Int32) + st).toInt64)]))
              refine EndsK.go (fun _ kz => XS.iloadN X15.here hx rfl (hb hby d1_45) rfl kz) ?_
              show EndsK p e below _ (T15.setTop (mkF m 46 #[.val (.int st), .val (.int lo), .val (.int (1 : Int32)), .val (.int (8 : Int32)), .unset, .unset] [(.int (8 : Int32)), (.long lo.toInt64), (.long ((145 : Int32) + st).toInt64)]))
              refine EndsK.go (fun _ kz => XS.i2l X15.here hx rfl (hb hby d1_46) rfl kz) ?_
              show EndsK p e below _ (T15.setTop (mkF m 47 #[.val (.int st), .val (.int lo), .val (.int (1 : Int32)), .val (.int (8 : Int32)), .unset, .unset] [(.long (8 : Int32).toInt64), (.long lo.toInt64), (.long ((145 : Int32) + st).toInt64)]))
              refine EndsK.go (fun _ kz => XS.lmul X15.here hx rfl (hb hby d1_47) rfl kz) ?_
              show EndsK p e below _ (T15.setTop (mkF m 48 #[.val (.int st), .val (.int lo), .val (.int (1 : Int32)), .val (.int (8 : Int32)), .unset, .unset] [(.long (lo.toInt64 * (8 : Int32).toInt64)), (.long ((145 : Int32) + st).toInt64)]))
              refine EndsK.go (fun _ kz => XS.ladd X15.here hx rfl (hb hby d1_48) rfl kz) ?_
              show EndsK p e below _ (T15.setTop (mkF m 49 #[.val (.int st), .val (.int lo), .val (.int (1 : Int32)), .val (.int (8 : Int32)), .unset, .unset] [(.long (((145 : Int32) + st).toInt64 + (lo.toInt64 * (8 : Int32).toInt64)))]))
              refine EndsK.go (fun _ kz => XS.lstore X15.here hx rfl (hb hby d1_49) rfl (l' := #[.val (.int st), .val (.int lo), .val (.int (1 : Int32)), .val (.int (8 : Int32)), .val (.long (((145 : Int32) + st).toInt64 + (lo.toInt64 * (8 : Int32).toInt64))), .second]) rfl kz) ?_
              show EndsK p e below _ (T15.setTop (mkF m 51 #[.val (.int st), .val (.int lo), .val (.int (1 : Int32)), .val (.int (8 : Int32)), .val (.long (((145 : Int32) + st).toInt64 + (lo.toInt64 * (8 : Int32).toInt64))), .second] []))
              refine EndsK.go (fun _ kz => XS.lload X15.here hx rfl (hb hby d1_51) rfl kz) ?_
              show EndsK p e below _ (T15.setTop (mkF m 53 #[.val (.int st), .val (.int lo), .val (.int (1 : Int32)), .val (.int (8 : Int32)), .val (.long (((145 : Int32) + st).toInt64 + (lo.toInt64 * (8 : Int32).toInt64))), .second] [(.long (((145 : Int32) + st).toInt64 + (lo.toInt64 * (8 : Int32).toInt64)))]))
              obtain ⟨T16, X16, e16, st16⟩ := getS2 X15 hx hZ hown (host := "") (Or.inl (hw _ (List.mem_of_getElem? (i := 6) rfl))) Via.refl e15 S1 (g := (mkF m 53 #[.val (.int st), .val (.int lo), .val (.int (1 : Int32)), .val (.int (8 : Int32)), .val (.long (((145 : Int32) + st).toInt64 + (lo.toInt64 * (8 : Int32).toInt64))), .second] [(.long (((145 : Int32) + st).toInt64 + (lo.toInt64 * (8 : Int32).toInt64)))])) rfl (hb hby d1_53)
              refine EndsK.go st16 ?_
              show EndsK p e below _ (T16.setTop (mkF m 56 #[.val (.int st), .val (.int lo), .val (.int (1 : Int32)), .val (.int (8 : Int32)), .val (.long (((145 : Int32) + st).toInt64 + (lo.toInt64 * (8 : Int32).toInt64))), .second] [(.ref b1), (.long (((145 : Int32) + st).toInt64 + (lo.toInt64 * (8 : Int32).toInt64)))]))
              refine EndsK.go (fun _ kz => XS.iloadN X16.here hx rfl (hb hby d1_56) rfl kz) ?_
              show EndsK p e below _ (T16.setTop (mkF m 57 #[.val (.int st), .val (.int lo), .val (.int (1 : Int32)), .val (.int (8 : Int32)), .val (.long (((145 : Int32) + st).toInt64 + (lo.toInt64 * (8 : Int32).toInt64))), .second] [(.int (1 : Int32)), (.ref b1), (.long (((145 : Int32) + st).toInt64 + (lo.toInt64 * (8 : Int32).toInt64)))]))
              refine EndsK.go (fun _ kz => XS.iconst X16.here hx rfl (hb hby d1_57) kz) ?_
              show EndsK p e below _ (T16.setTop (mkF m 58 #[.val (.int st), .val (.int lo), .val (.int (1 : Int32)), .val (.int (8 : Int32)), .val (.long (((145 : Int32) + st).toInt64 + (lo.toInt64 * (8 : Int32).toInt64))), .second] [(.int (1 : Int32)), (.int (1 : Int32)), (.ref b1), (.long (((145 : Int32) + st).toInt64 + (lo.toInt64 * (8 : Int32).toInt64)))]))
              refine EndsK.go (fun _ kz => XS.iadd X16.here hx rfl (hb hby d1_58) rfl kz) ?_
              show EndsK p e below _ (T16.setTop (mkF m 59 #[.val (.int st), .val (.int lo), .val (.int (1 : Int32)), .val (.int (8 : Int32)), .val (.long (((145 : Int32) + st).toInt64 + (lo.toInt64 * (8 : Int32).toInt64))), .second] [(.int (2 : Int32)), (.ref b1), (.long (((145 : Int32) + st).toInt64 + (lo.toInt64 * (8 : Int32).toInt64)))]))
              refine EndsK.go (fun tz kz => X16.iaload hx (j := (2 : Int32)) (v := (.int (209 : Int32))) (by rw [e16]; exact A1.1) (State.isArrayOf_alike hZ.alike A1.2.1) A1.2.2 ub1_2.1 ub1_2.2 (g := (mkF m 59 #[.val (.int st), .val (.int lo), .val (.int (1 : Int32)), .val (.int (8 : Int32)), .val (.long (((145 : Int32) + st).toInt64 + (lo.toInt64 * (8 : Int32).toInt64))), .second] [(.int (2 : Int32)), (.ref b1), (.long (((145 : Int32) + st).toInt64 + (lo.toInt64 * (8 : Int32).toInt64)))])) rfl rfl (hb hby d1_59) tz kz) ?_
              show EndsK p e below _ (T16.setTop (mkF m 60 #[.val (.int st), .val (.int lo), .val (.int (1 : Int32)), .val (.int (8 : Int32)), .val (.long (((145 : Int32) + st).toInt64 + (lo.toInt64 * (8 : Int32).toInt64))), .second] [(.int (209 : Int32)), (.long (((145 : Int32) + st).toInt64 + (lo.toInt64 * (8 : Int32).toInt64)))]))
              refine EndsK.go (fun _ kz => XS.i2l X16.here hx rfl (hb hby d1_60) rfl kz) ?_
              show EndsK p e below _ (T16.setTop (mkF m 61 #[.val (.int st), .val (.int lo), .val (.int (1 : Int32)), .val (.int (8 : Int32)), .val (.long (((145 : Int32) + st).toInt64 + (lo.toInt64 * (8 : Int32).toInt64))), .second] [(.long (209 : Int32).toInt64), (.long (((145 : Int32) + st).toInt64 + (lo.toInt64 * (8 : Int32).toInt64)))]))
              refine EndsK.go (fun _ kz => XS.lcmp X16.here hx rfl (hb hby d1_61) rfl kz) ?_
              show EndsK p e below _ (T16.setTop (mkF m 62 #[.val (.int st), .val (.int lo), .val (.int (1 : Int32)), .val (.int (8 : Int32)), .val (.long (((145 : Int32) + st).toInt64 + (lo.toInt64 * (8 : Int32).toInt64))), .second] [(.int (lcmpW (((145 : Int32) + st).toInt64 + (lo.toInt64 * (8 : Int32).toInt64)) (209 : Int32).toInt64))]))
              by_cases H62_17 : (lcmpW (((145 : Int32) + st).toInt64 + (lo.toInt64 * (8 : Int32).toInt64)) (209 : Int32).toInt64) < (0 : Int32)
              · refine EndsK.go (fun _ kz => XS.ifNo X16.here hx rfl (hb hby d1_62) rfl ((if0 _ _).trans (tlt H62_17).2.1) kz) ?_
                show EndsK p e below _ (T16.setTop (mkF m 65 #[.val (.int st), .val (.int lo), .val (.int (1 : Int32)), .val (.int (8 : Int32)), .val (.long (((145 : Int32) + st).toInt64 + (lo.toInt64 * (8 : Int32).toInt64))), .second] []))
                refine EndsK.go (fun _ kz => XS.lload X16.here hx rfl (hb hby d1_65) rfl kz) ?_
                show EndsK p e below _ (T16.setTop (mkF m 67 #[.val (.int st), .val (.int lo), .val (.int (1 : Int32)), .val (.int (8 : Int32)), .val (.long (((145 : Int32) + st).toInt64 + (lo.toInt64 * (8 : Int32).toInt64))), .second] [(.long (((145 : Int32) + st).toInt64 + (lo.toInt64 * (8 : Int32).toInt64)))]))
                refine EndsK.go (fun _ kz => XS.l2i X16.here hx rfl (hb hby d1_67) rfl kz) ?_
                show EndsK p e below _ (T16.setTop (mkF m 68 #[.val (.int st), .val (.int lo), .val (.int (1 : Int32)), .val (.int (8 : Int32)), .val (.long (((145 : Int32) + st).toInt64 + (lo.toInt64 * (8 : Int32).toInt64))), .second] [(.int (((145 : Int32) + st).toInt64 + (lo.toInt64 * (8 : Int32).toInt64)).toInt32)]))
                refine EndsK.go (fun _ kz => XS.goto X16.here hx rfl (pc0 := 68) (pc' := 72) rfl (hb hby d1_68) (by decide) (by decide) kz) ?_
                show EndsK p e below _ (T16.setTop (mkF m 72 #[.val (.int st), .val (.int lo), .val (.int (1 : Int32)), .val (.int (8 : Int32)), .val (.long (((145 : Int32) + st).toInt64 + (lo.toInt64 * (8 : Int32).toInt64))), .second] [(.int (((145 : Int32) + st).toInt64 + (lo.toInt64 * (8 : Int32).toInt64)).toInt32)]))
                exact endI X16 hx Bd.returns (hb hby d1_72) hlk ⟨_, rfl, N0, e16, by
                    unfold Sh Enc
                    have fz1 := rng32 st
                    have fz2 : ((0 : Int32)).toInt = 0 := rfl
                    have fz3 : ¬ ((st).toInt < ((0 : Int32)).toInt) := fun qz => H21_12 (Int32.lt_iff_toInt_lt.mpr qz)
                    have fz4 : ((8 : Int32)).toInt = 8 := rfl
                    have fz5 : (st).toInt < ((8 : Int32)).toInt := Int32.lt_iff_toInt_lt.mp H26_13
                    have fz6 := rng32 lo
                    have fz7 : ¬ ((lo).toInt < ((0 : Int32)).toInt) := fun qz => H30_14 (Int32.lt_iff_toInt_lt.mpr qz)
                    have fz8 : ((145 : Int32)).toInt = 145 := rfl
                    have fz9 : (((145 : Int32) + st)).toInt = ((145 : Int32)).toInt + (st).toInt := own_iadd (145 : Int32) st (by omega) (by omega)
                    have fz10 := c_i2l ((145 : Int32) + st)
                    have fz11 := c_i2l lo
                    have fz12 := c_i2l (8 : Int32)
                    have fz13 := own_wide lo (8 : Int32) 8 rfl
                    have fz14 : ((((145 : Int32) + st).toInt64 + (lo.toInt64 * (8 : Int32).toInt64))).toInt = (((145 : Int32) + st).toInt64).toInt + ((lo.toInt64 * (8 : Int32).toInt64)).toInt := own_ladd ((145 : Int32) + st).toInt64 (lo.toInt64 * (8 : Int32).toInt64) (by omega) (by omega)
                    have fz15 : ((209 : Int32)).toInt = 209 := rfl
                    have fz16 := c_i2l (209 : Int32)
                    have fz17 := c_lcmp (((145 : Int32) + st).toInt64 + (lo.toInt64 * (8 : Int32).toInt64)) (209 : Int32).toInt64
                    have fz18 : ((lcmpW (((145 : Int32) + st).toInt64 + (lo.toInt64 * (8 : Int32).toInt64)) (209 : Int32).toInt64)).toInt < ((0 : Int32)).toInt := Int32.lt_iff_toInt_lt.mp H62_17
                    have fz19 : ((1 : Int32)).toInt = 1 := rfl
                    have fz20 : ((((145 : Int32) + st).toInt64 + (lo.toInt64 * (8 : Int32).toInt64)).toInt32).toInt = ((((145 : Int32) + st).toInt64 + (lo.toInt64 * (8 : Int32).toInt64))).toInt := own_l2i (((145 : Int32) + st).toInt64 + (lo.toInt64 * (8 : Int32).toInt64)) (by omega) (by omega)
                    omega⟩ (by decide) (by decide)
              · refine EndsK.go (fun _ kz => XS.ifYes X16.here hx rfl (pc0 := 62) (pc' := 71) rfl (hb hby d1_62) rfl ((if0 _ _).trans (flt H62_17).2.1) (by decide) (by decide) kz) ?_
                show EndsK p e below _ (T16.setTop (mkF m 71 #[.val (.int st), .val (.int lo), .val (.int (1 : Int32)), .val (.int (8 : Int32)), .val (.long (((145 : Int32) + st).toInt64 + (lo.toInt64 * (8 : Int32).toInt64))), .second] []))
                refine EndsK.go (fun _ kz => XS.iconst X16.here hx rfl (hb hby d1_71) kz) ?_
                show EndsK p e below _ (T16.setTop (mkF m 72 #[.val (.int st), .val (.int lo), .val (.int (1 : Int32)), .val (.int (8 : Int32)), .val (.long (((145 : Int32) + st).toInt64 + (lo.toInt64 * (8 : Int32).toInt64))), .second] [(.int (0 : Int32))]))
                exact endI X16 hx Bd.returns (hb hby d1_72) hlk ⟨_, rfl, N0, e16, by
                    unfold Sh Enc
                    have fz1 := rng32 st
                    have fz2 : ((0 : Int32)).toInt = 0 := rfl
                    have fz3 : ¬ ((st).toInt < ((0 : Int32)).toInt) := fun qz => H21_12 (Int32.lt_iff_toInt_lt.mpr qz)
                    have fz4 : ((8 : Int32)).toInt = 8 := rfl
                    have fz5 : (st).toInt < ((8 : Int32)).toInt := Int32.lt_iff_toInt_lt.mp H26_13
                    have fz6 := rng32 lo
                    have fz7 : ¬ ((lo).toInt < ((0 : Int32)).toInt) := fun qz => H30_14 (Int32.lt_iff_toInt_lt.mpr qz)
                    have fz8 : ((145 : Int32)).toInt = 145 := rfl
                    have fz9 : (((145 : Int32) + st)).toInt = ((145 : Int32)).toInt + (st).toInt := own_iadd (145 : Int32) st (by omega) (by omega)
                    have fz10 := c_i2l ((145 : Int32) + st)
                    have fz11 := c_i2l lo
                    have fz12 := c_i2l (8 : Int32)
                    have fz13 := own_wide lo (8 : Int32) 8 rfl
                    have fz14 : ((((145 : Int32) + st).toInt64 + (lo.toInt64 * (8 : Int32).toInt64))).toInt = (((145 : Int32) + st).toInt64).toInt + ((lo.toInt64 * (8 : Int32).toInt64)).toInt := own_ladd ((145 : Int32) + st).toInt64 (lo.toInt64 * (8 : Int32).toInt64) (by omega) (by omega)
                    have fz15 : ((209 : Int32)).toInt = 209 := rfl
                    have fz16 := c_i2l (209 : Int32)
                    have fz17 := c_lcmp (((145 : Int32) + st).toInt64 + (lo.toInt64 * (8 : Int32).toInt64)) (209 : Int32).toInt64
                    have fz18 : ¬ (((lcmpW (((145 : Int32) + st).toInt64 + (lo.toInt64 * (8 : Int32).toInt64)) (209 : Int32).toInt64)).toInt < ((0 : Int32)).toInt) := fun qz => H62_17 (Int32.lt_iff_toInt_lt.mpr qz)
                    have fz19 : ((1 : Int32)).toInt = 1 := rfl
                    omega⟩ (by decide) (by decide)
          · refine EndsK.go (fun _ kz => XS.icmpYes X11.here hx rfl (pc0 := 26) (pc' := 33) rfl (hb hby d1_26) rfl (flt H26_13).2.1 (by decide) (by decide) kz) ?_
            show EndsK p e below _ (T11.setTop (mkF m 33 #[.val (.int st), .val (.int lo), .val (.int (1 : Int32)), .val (.int (8 : Int32)), .unset, .unset] []))
            refine EndsK.go (fun _ kz => XS.iconst X11.here hx rfl (hb hby d1_33) kz) ?_
            show EndsK p e below _ (T11.setTop (mkF m 34 #[.val (.int st), .val (.int lo), .val (.int (1 : Int32)), .val (.int (8 : Int32)), .unset, .unset] [(.int (0 : Int32))]))
            exact endI X11 hx Bd.returns (hb hby d1_34) hlk ⟨_, rfl, N0, e11, by
                unfold Sh Enc
                have fz1 := rng32 st
                have fz2 : ((0 : Int32)).toInt = 0 := rfl
                have fz3 : ¬ ((st).toInt < ((0 : Int32)).toInt) := fun qz => H21_12 (Int32.lt_iff_toInt_lt.mpr qz)
                have fz4 : ((8 : Int32)).toInt = 8 := rfl
                have fz5 : ¬ ((st).toInt < ((8 : Int32)).toInt) := fun qz => H26_13 (Int32.lt_iff_toInt_lt.mpr qz)
                have fz6 := rng32 lo
                have fz7 : ((1 : Int32)).toInt = 1 := rfl
                omega⟩ (by decide) (by decide)
      · show EndsK p e below _ (T2.setTop (mkF m 14 #[.val (.int st), .val (.int lo), .val (.int (2 : Int32)), .unset, .unset, .unset] []))
        obtain ⟨T18, X18, e18, st18⟩ := getS2 X2 hx hZ hown (host := "") (Or.inl (hw _ (List.mem_of_getElem? (i := 4) rfl))) Via.refl e2 S0 (g := (mkF m 14 #[.val (.int st), .val (.int lo), .val (.int (2 : Int32)), .unset, .unset, .unset] [])) rfl (hb hby d1_14)
        refine EndsK.go st18 ?_
        show EndsK p e below _ (T18.setTop (mkF m 17 #[.val (.int st), .val (.int lo), .val (.int (2 : Int32)), .unset, .unset, .unset] [(.ref b0)]))
        refine EndsK.go (fun _ kz => XS.iloadN X18.here hx rfl (hb hby d1_17) rfl kz) ?_
        show EndsK p e below _ (T18.setTop (mkF m 18 #[.val (.int st), .val (.int lo), .val (.int (2 : Int32)), .unset, .unset, .unset] [(.int (2 : Int32)), (.ref b0)]))
        refine EndsK.go (fun tz kz => X18.iaload hx (j := (2 : Int32)) (v := (.int (7 : Int32))) (by rw [e18]; exact A0.1) (State.isArrayOf_alike hZ.alike A0.2.1) A0.2.2 ub0_2.1 ub0_2.2 (g := (mkF m 18 #[.val (.int st), .val (.int lo), .val (.int (2 : Int32)), .unset, .unset, .unset] [(.int (2 : Int32)), (.ref b0)])) rfl rfl (hb hby d1_18) tz kz) ?_
        show EndsK p e below _ (T18.setTop (mkF m 19 #[.val (.int st), .val (.int lo), .val (.int (2 : Int32)), .unset, .unset, .unset] [(.int (7 : Int32))]))
        refine EndsK.go (fun _ kz => XS.istoreN X18.here hx rfl (hb hby d1_19) rfl (l' := #[.val (.int st), .val (.int lo), .val (.int (2 : Int32)), .val (.int (7 : Int32)), .unset, .unset]) rfl kz) ?_
        show EndsK p e below _ (T18.setTop (mkF m 20 #[.val (.int st), .val (.int lo), .val (.int (2 : Int32)), .val (.int (7 : Int32)), .unset, .unset] []))
        refine EndsK.go (fun _ kz => XS.iloadN X18.here hx rfl (hb hby d1_20) rfl kz) ?_
        show EndsK p e below _ (T18.setTop (mkF m 21 #[.val (.int st), .val (.int lo), .val (.int (2 : Int32)), .val (.int (7 : Int32)), .unset, .unset] [(.int st)]))
        by_cases H21_19 : st < (0 : Int32)
        · refine EndsK.go (fun _ kz => XS.ifYes X18.here hx rfl (pc0 := 21) (pc' := 33) rfl (hb hby d1_21) rfl ((if0 _ _).trans (tlt H21_19).1) (by decide) (by decide) kz) ?_
          show EndsK p e below _ (T18.setTop (mkF m 33 #[.val (.int st), .val (.int lo), .val (.int (2 : Int32)), .val (.int (7 : Int32)), .unset, .unset] []))
          refine EndsK.go (fun _ kz => XS.iconst X18.here hx rfl (hb hby d1_33) kz) ?_
          show EndsK p e below _ (T18.setTop (mkF m 34 #[.val (.int st), .val (.int lo), .val (.int (2 : Int32)), .val (.int (7 : Int32)), .unset, .unset] [(.int (0 : Int32))]))
          exact endI X18 hx Bd.returns (hb hby d1_34) hlk ⟨_, rfl, N0, e18, by
              unfold Sh Enc
              have fz1 := rng32 st
              have fz2 : ((0 : Int32)).toInt = 0 := rfl
              have fz3 : (st).toInt < ((0 : Int32)).toInt := Int32.lt_iff_toInt_lt.mp H21_19
              have fz4 := rng32 lo
              have fz5 : ((2 : Int32)).toInt = 2 := rfl
              omega⟩ (by decide) (by decide)
        · refine EndsK.go (fun _ kz => XS.ifNo X18.here hx rfl (hb hby d1_21) rfl ((if0 _ _).trans (flt H21_19).1) kz) ?_
          show EndsK p e below _ (T18.setTop (mkF m 24 #[.val (.int st), .val (.int lo), .val (.int (2 : Int32)), .val (.int (7 : Int32)), .unset, .unset] []))
          refine EndsK.go (fun _ kz => XS.iloadN X18.here hx rfl (hb hby d1_24) rfl kz) ?_
          show EndsK p e below _ (T18.setTop (mkF m 25 #[.val (.int st), .val (.int lo), .val (.int (2 : Int32)), .val (.int (7 : Int32)), .unset, .unset] [(.int st)]))
          refine EndsK.go (fun _ kz => XS.iloadN X18.here hx rfl (hb hby d1_25) rfl kz) ?_
          show EndsK p e below _ (T18.setTop (mkF m 26 #[.val (.int st), .val (.int lo), .val (.int (2 : Int32)), .val (.int (7 : Int32)), .unset, .unset] [(.int (7 : Int32)), (.int st)]))
          by_cases H26_20 : st < (7 : Int32)
          · refine EndsK.go (fun _ kz => XS.icmpNo X18.here hx rfl (hb hby d1_26) rfl (tlt H26_20).2.1 kz) ?_
            show EndsK p e below _ (T18.setTop (mkF m 29 #[.val (.int st), .val (.int lo), .val (.int (2 : Int32)), .val (.int (7 : Int32)), .unset, .unset] []))
            refine EndsK.go (fun _ kz => XS.iloadN X18.here hx rfl (hb hby d1_29) rfl kz) ?_
            show EndsK p e below _ (T18.setTop (mkF m 30 #[.val (.int st), .val (.int lo), .val (.int (2 : Int32)), .val (.int (7 : Int32)), .unset, .unset] [(.int lo)]))
            by_cases H30_21 : lo < (0 : Int32)
            · refine EndsK.go (fun _ kz => XS.ifNo X18.here hx rfl (hb hby d1_30) rfl ((if0 _ _).trans (tlt H30_21).2.1) kz) ?_
              show EndsK p e below _ (T18.setTop (mkF m 33 #[.val (.int st), .val (.int lo), .val (.int (2 : Int32)), .val (.int (7 : Int32)), .unset, .unset] []))
              refine EndsK.go (fun _ kz => XS.iconst X18.here hx rfl (hb hby d1_33) kz) ?_
              show EndsK p e below _ (T18.setTop (mkF m 34 #[.val (.int st), .val (.int lo), .val (.int (2 : Int32)), .val (.int (7 : Int32)), .unset, .unset] [(.int (0 : Int32))]))
              exact endI X18 hx Bd.returns (hb hby d1_34) hlk ⟨_, rfl, N0, e18, by
                  unfold Sh Enc
                  have fz1 := rng32 st
                  have fz2 : ((0 : Int32)).toInt = 0 := rfl
                  have fz3 : ¬ ((st).toInt < ((0 : Int32)).toInt) := fun qz => H21_19 (Int32.lt_iff_toInt_lt.mpr qz)
                  have fz4 : ((7 : Int32)).toInt = 7 := rfl
                  have fz5 : (st).toInt < ((7 : Int32)).toInt := Int32.lt_iff_toInt_lt.mp H26_20
                  have fz6 := rng32 lo
                  have fz7 : (lo).toInt < ((0 : Int32)).toInt := Int32.lt_iff_toInt_lt.mp H30_21
                  have fz8 : ((2 : Int32)).toInt = 2 := rfl
                  omega⟩ (by decide) (by decide)
            · refine EndsK.go (fun _ kz => XS.ifYes X18.here hx rfl (pc0 := 30) (pc' := 35) rfl (hb hby d1_30) rfl ((if0 _ _).trans (flt H30_21).2.1) (by decide) (by decide) kz) ?_
              show EndsK p e below _ (T18.setTop (mkF m 35 #[.val (.int st), .val (.int lo), .val (.int (2 : Int32)), .val (.int (7 : Int32)), .unset, .unset] []))
              obtain ⟨T22, X22, e22, st22⟩ := getS2 X18 hx hZ hown (host := "") (Or.inl (hw _ (List.mem_of_getElem? (i := 6) rfl))) Via.refl e18 S1 (g := (mkF m 35 #[.val (.int st), .val (.int lo), .val (.int (2 : Int32)), .val (.int (7 : Int32)), .unset, .unset] [])) rfl (hb hby d1_35)
              refine EndsK.go st22 ?_
              show EndsK p e below _ (T22.setTop (mkF m 38 #[.val (.int st), .val (.int lo), .val (.int (2 : Int32)), .val (.int (7 : Int32)), .unset, .unset] [(.ref b1)]))
              refine EndsK.go (fun _ kz => XS.iloadN X22.here hx rfl (hb hby d1_38) rfl kz) ?_
              show EndsK p e below _ (T22.setTop (mkF m 39 #[.val (.int st), .val (.int lo), .val (.int (2 : Int32)), .val (.int (7 : Int32)), .unset, .unset] [(.int (2 : Int32)), (.ref b1)]))
              refine EndsK.go (fun tz kz => X22.iaload hx (j := (2 : Int32)) (v := (.int (209 : Int32))) (by rw [e22]; exact A1.1) (State.isArrayOf_alike hZ.alike A1.2.1) A1.2.2 ub1_2.1 ub1_2.2 (g := (mkF m 39 #[.val (.int st), .val (.int lo), .val (.int (2 : Int32)), .val (.int (7 : Int32)), .unset, .unset] [(.int (2 : Int32)), (.ref b1)])) rfl rfl (hb hby d1_39) tz kz) ?_
              show EndsK p e below _ (T22.setTop (mkF m 40 #[.val (.int st), .val (.int lo), .val (.int (2 : Int32)), .val (.int (7 : Int32)), .unset, .unset] [(.int (209 : Int32))]))
              refine EndsK.go (fun _ kz => XS.iloadN X22.here hx rfl (hb hby d1_40) rfl kz) ?_
              show EndsK p e below _ (T22.setTop (mkF m 41 #[.val (.int st), .val (.int lo), .val (.int (2 : Int32)), .val (.int (7 : Int32)), .unset, .unset] [(.int st), (.int (209 : Int32))]))
              refine EndsK.go (fun _ kz => XS.iadd X22.here hx rfl (hb hby d1_41) rfl kz) ?_
              show EndsK p e below _ (T22.setTop (mkF m 42 #[.val (.int st), .val (.int lo), .val (.int (2 : Int32)), .val (.int (7 : Int32)), .unset, .unset] [(.int ((209 : Int32) + st))]))
              refine EndsK.go (fun _ kz => XS.i2l X22.here hx rfl (hb hby d1_42) rfl kz) ?_
              show EndsK p e below _ (T22.setTop (mkF m 43 #[.val (.int st), .val (.int lo), .val (.int (2 : Int32)), .val (.int (7 : Int32)), .unset, .unset] [(.long ((209 : Int32) + st).toInt64)]))
              refine EndsK.go (fun _ kz => XS.iloadN X22.here hx rfl (hb hby d1_43) rfl kz) ?_
              show EndsK p e below _ (T22.setTop (mkF m 44 #[.val (.int st), .val (.int lo), .val (.int (2 : Int32)), .val (.int (7 : Int32)), .unset, .unset] [(.int lo), (.long ((209 : Int32) + st).toInt64)]))
              refine EndsK.go (fun _ kz => XS.i2l X22.here hx rfl (hb hby d1_44) rfl kz) ?_
              show EndsK p e below _ (T22.setTop (mkF m 45 #[.val (.int st), .val (.int lo), .val (.int (2 : Int32)), .val (.int (7 : Int32)), .unset, .unset] [(.long lo.toInt64), (.long ((209 : Int32) + st).toInt64)]))
              refine EndsK.go (fun _ kz => XS.iloadN X22.here hx rfl (hb hby d1_45) rfl kz) ?_
              show EndsK p e below _ (T22.setTop (mkF m 46 #[.val (.int st), .val (.int lo), .val (.int (2 : Int32)), .val (.int (7 : Int32)), .unset, .unset] [(.int (7 : Int32)), (.long lo.toInt64), (.long ((209 : Int32) + st).toInt64)]))
              refine EndsK.go (fun _ kz => XS.i2l X22.here hx rfl (hb hby d1_46) rfl kz) ?_
              show EndsK p e below _ (T22.setTop (mkF m 47 #[.val (.int st), .val (.int lo), .val (.int (2 : Int32)), .val (.int (7 : Int32)), .unset, .unset] [(.long (7 : Int32).toInt64), (.long lo.toInt64), (.long ((209 : Int32) + st).toInt64)]))
              refine EndsK.go (fun _ kz => XS.lmul X22.here hx rfl (hb hby d1_47) rfl kz) ?_
              show EndsK p e below _ (T22.setTop (mkF m 48 #[.val (.int st), .val (.int lo), .val (.int (2 : Int32)), .val (.int (7 : Int32)), .unset, .unset] [(.long (lo.toInt64 * (7 : Int32).toInt64)), (.long ((209 : Int32) + st).toInt64)]))
              refine EndsK.go (fun _ kz => XS.ladd X22.here hx rfl (hb hby d1_48) rfl kz) ?_
              show EndsK p e below _ (T22.setTop (mkF m 49 #[.val (.int st), .val (.int lo), .val (.int (2 : Int32)), .val (.int (7 : Int32)), .unset, .unset] [(.long (((209 : Int32) + st).toInt64 + (lo.toInt64 * (7 : Int32).toInt64)))]))
              refine EndsK.go (fun _ kz => XS.lstore X22.here hx rfl (hb hby d1_49) rfl (l' := #[.val (.int st), .val (.int lo), .val (.int (2 : Int32)), .val (.int (7 : Int32)), .val (.long (((209 : Int32) + st).toInt64 + (lo.toInt64 * (7 : Int32).toInt64))), .second]) rfl kz) ?_
              show EndsK p e below _ (T22.setTop (mkF m 51 #[.val (.int st), .val (.int lo), .val (.int (2 : Int32)), .val (.int (7 : Int32)), .val (.long (((209 : Int32) + st).toInt64 + (lo.toInt64 * (7 : Int32).toInt64))), .second] []))
              refine EndsK.go (fun _ kz => XS.lload X22.here hx rfl (hb hby d1_51) rfl kz) ?_
              show EndsK p e below _ (T22.setTop (mkF m 53 #[.val (.int st), .val (.int lo), .val (.int (2 : Int32)), .val (.int (7 : Int32)), .val (.long (((209 : Int32) + st).toInt64 + (lo.toInt64 * (7 : Int32).toInt64))), .second] [(.long (((209 : Int32) + st).toInt64 + (lo.toInt64 * (7 : Int32).toInt64)))]))
              obtain ⟨T23, X23, e23, st23⟩ := getS2 X22 hx hZ hown (host := "") (Or.inl (hw _ (List.mem_of_getElem? (i := 6) rfl))) Via.refl e22 S1 (g := (mkF m 53 #[.val (.int st), .val (.int lo), .val (.int (2 : Int32)), .val (.int (7 : Int32)), .val (.long (((209 : Int32) + st).toInt64 + (lo.toInt64 * (7 : Int32).toInt64))), .second] [(.long (((209 : Int32) + st).toInt64 + (lo.toInt64 * (7 : Int32).toInt64)))])) rfl (hb hby d1_53)
              refine EndsK.go st23 ?_
              show EndsK p e below _ (T23.setTop (mkF m 56 #[.val (.int st), .val (.int lo), .val (.int (2 : Int32)), .val (.int (7 : Int32)), .val (.long (((209 : Int32) + st).toInt64 + (lo.toInt64 * (7 : Int32).toInt64))), .second] [(.ref b1), (.long (((209 : Int32) + st).toInt64 + (lo.toInt64 * (7 : Int32).toInt64)))]))
              refine EndsK.go (fun _ kz => XS.iloadN X23.here hx rfl (hb hby d1_56) rfl kz) ?_
              show EndsK p e below _ (T23.setTop (mkF m 57 #[.val (.int st), .val (.int lo), .val (.int (2 : Int32)), .val (.int (7 : Int32)), .val (.long (((209 : Int32) + st).toInt64 + (lo.toInt64 * (7 : Int32).toInt64))), .second] [(.int (2 : Int32)), (.ref b1), (.long (((209 : Int32) + st).toInt64 + (lo.toInt64 * (7 : Int32).toInt64)))]))
              refine EndsK.go (fun _ kz => XS.iconst X23.here hx rfl (hb hby d1_57) kz) ?_
              show EndsK p e below _ (T23.setTop (mkF m 58 #[.val (.int st), .val (.int lo), .val (.int (2 : Int32)), .val (.int (7 : Int32)), .val (.long (((209 : Int32) + st).toInt64 + (lo.toInt64 * (7 : Int32).toInt64))), .second] [(.int (1 : Int32)), (.int (2 : Int32)), (.ref b1), (.long (((209 : Int32) + st).toInt64 + (lo.toInt64 * (7 : Int32).toInt64)))]))
              refine EndsK.go (fun _ kz => XS.iadd X23.here hx rfl (hb hby d1_58) rfl kz) ?_
              show EndsK p e below _ (T23.setTop (mkF m 59 #[.val (.int st), .val (.int lo), .val (.int (2 : Int32)), .val (.int (7 : Int32)), .val (.long (((209 : Int32) + st).toInt64 + (lo.toInt64 * (7 : Int32).toInt64))), .second] [(.int (3 : Int32)), (.ref b1), (.long (((209 : Int32) + st).toInt64 + (lo.toInt64 * (7 : Int32).toInt64)))]))
              refine EndsK.go (fun tz kz => X23.iaload hx (j := (3 : Int32)) (v := (.int (256 : Int32))) (by rw [e23]; exact A1.1) (State.isArrayOf_alike hZ.alike A1.2.1) A1.2.2 ub1_3.1 ub1_3.2 (g := (mkF m 59 #[.val (.int st), .val (.int lo), .val (.int (2 : Int32)), .val (.int (7 : Int32)), .val (.long (((209 : Int32) + st).toInt64 + (lo.toInt64 * (7 : Int32).toInt64))), .second] [(.int (3 : Int32)), (.ref b1), (.long (((209 : Int32) + st).toInt64 + (lo.toInt64 * (7 : Int32).toInt64)))])) rfl rfl (hb hby d1_59) tz kz) ?_
              show EndsK p e below _ (T23.setTop (mkF m 60 #[.val (.int st), .val (.int lo), .val (.int (2 : Int32)), .val (.int (7 : Int32)), .val (.long (((209 : Int32) + st).toInt64 + (lo.toInt64 * (7 : Int32).toInt64))), .second] [(.int (256 : Int32)), (.long (((209 : Int32) + st).toInt64 + (lo.toInt64 * (7 : Int32).toInt64)))]))
              refine EndsK.go (fun _ kz => XS.i2l X23.here hx rfl (hb hby d1_60) rfl kz) ?_
              show EndsK p e below _ (T23.setTop (mkF m 61 #[.val (.int st), .val (.int lo), .val (.int (2 : Int32)), .val (.int (7 : Int32)), .val (.long (((209 : Int32) + st).toInt64 + (lo.toInt64 * (7 : Int32).toInt64))), .second] [(.long (256 : Int32).toInt64), (.long (((209 : Int32) + st).toInt64 + (lo.toInt64 * (7 : Int32).toInt64)))]))
              refine EndsK.go (fun _ kz => XS.lcmp X23.here hx rfl (hb hby d1_61) rfl kz) ?_
              show EndsK p e below _ (T23.setTop (mkF m 62 #[.val (.int st), .val (.int lo), .val (.int (2 : Int32)), .val (.int (7 : Int32)), .val (.long (((209 : Int32) + st).toInt64 + (lo.toInt64 * (7 : Int32).toInt64))), .second] [(.int (lcmpW (((209 : Int32) + st).toInt64 + (lo.toInt64 * (7 : Int32).toInt64)) (256 : Int32).toInt64))]))
              by_cases H62_24 : (lcmpW (((209 : Int32) + st).toInt64 + (lo.toInt64 * (7 : Int32).toInt64)) (256 : Int32).toInt64) < (0 : Int32)
              · refine EndsK.go (fun _ kz => XS.ifNo X23.here hx rfl (hb hby d1_62) rfl ((if0 _ _).trans (tlt H62_24).2.1) kz) ?_
                show EndsK p e below _ (T23.setTop (mkF m 65 #[.val (.int st), .val (.int lo), .val (.int (2 : Int32)), .val (.int (7 : Int32)), .val (.long (((209 : Int32) + st).toInt64 + (lo.toInt64 * (7 : Int32).toInt64))), .second] []))
                refine EndsK.go (fun _ kz => XS.lload X23.here hx rfl (hb hby d1_65) rfl kz) ?_
                show EndsK p e below _ (T23.setTop (mkF m 67 #[.val (.int st), .val (.int lo), .val (.int (2 : Int32)), .val (.int (7 : Int32)), .val (.long (((209 : Int32) + st).toInt64 + (lo.toInt64 * (7 : Int32).toInt64))), .second] [(.long (((209 : Int32) + st).toInt64 + (lo.toInt64 * (7 : Int32).toInt64)))]))
                refine EndsK.go (fun _ kz => XS.l2i X23.here hx rfl (hb hby d1_67) rfl kz) ?_
                show EndsK p e below _ (T23.setTop (mkF m 68 #[.val (.int st), .val (.int lo), .val (.int (2 : Int32)), .val (.int (7 : Int32)), .val (.long (((209 : Int32) + st).toInt64 + (lo.toInt64 * (7 : Int32).toInt64))), .second] [(.int (((209 : Int32) + st).toInt64 + (lo.toInt64 * (7 : Int32).toInt64)).toInt32)]))
                refine EndsK.go (fun _ kz => XS.goto X23.here hx rfl (pc0 := 68) (pc' := 72) rfl (hb hby d1_68) (by decide) (by decide) kz) ?_
                show EndsK p e below _ (T23.setTop (mkF m 72 #[.val (.int st), .val (.int lo), .val (.int (2 : Int32)), .val (.int (7 : Int32)), .val (.long (((209 : Int32) + st).toInt64 + (lo.toInt64 * (7 : Int32).toInt64))), .second] [(.int (((209 : Int32) + st).toInt64 + (lo.toInt64 * (7 : Int32).toInt64)).toInt32)]))
                exact endI X23 hx Bd.returns (hb hby d1_72) hlk ⟨_, rfl, N0, e23, by
                    unfold Sh Enc
                    have fz1 := rng32 st
                    have fz2 : ((0 : Int32)).toInt = 0 := rfl
                    have fz3 : ¬ ((st).toInt < ((0 : Int32)).toInt) := fun qz => H21_19 (Int32.lt_iff_toInt_lt.mpr qz)
                    have fz4 : ((7 : Int32)).toInt = 7 := rfl
                    have fz5 : (st).toInt < ((7 : Int32)).toInt := Int32.lt_iff_toInt_lt.mp H26_20
                    have fz6 := rng32 lo
                    have fz7 : ¬ ((lo).toInt < ((0 : Int32)).toInt) := fun qz => H30_21 (Int32.lt_iff_toInt_lt.mpr qz)
                    have fz8 : ((209 : Int32)).toInt = 209 := rfl
                    have fz9 : (((209 : Int32) + st)).toInt = ((209 : Int32)).toInt + (st).toInt := own_iadd (209 : Int32) st (by omega) (by omega)
                    have fz10 := c_i2l ((209 : Int32) + st)
                    have fz11 := c_i2l lo
                    have fz12 := c_i2l (7 : Int32)
                    have fz13 := own_wide lo (7 : Int32) 7 rfl
                    have fz14 : ((((209 : Int32) + st).toInt64 + (lo.toInt64 * (7 : Int32).toInt64))).toInt = (((209 : Int32) + st).toInt64).toInt + ((lo.toInt64 * (7 : Int32).toInt64)).toInt := own_ladd ((209 : Int32) + st).toInt64 (lo.toInt64 * (7 : Int32).toInt64) (by omega) (by omega)
                    have fz15 : ((256 : Int32)).toInt = 256 := rfl
                    have fz16 := c_i2l (256 : Int32)
                    have fz17 := c_lcmp (((209 : Int32) + st).toInt64 + (lo.toInt64 * (7 : Int32).toInt64)) (256 : Int32).toInt64
                    have fz18 : ((lcmpW (((209 : Int32) + st).toInt64 + (lo.toInt64 * (7 : Int32).toInt64)) (256 : Int32).toInt64)).toInt < ((0 : Int32)).toInt := Int32.lt_iff_toInt_lt.mp H62_24
                    have fz19 : ((2 : Int32)).toInt = 2 := rfl
                    have fz20 : ((((209 : Int32) + st).toInt64 + (lo.toInt64 * (7 : Int32).toInt64)).toInt32).toInt = ((((209 : Int32) + st).toInt64 + (lo.toInt64 * (7 : Int32).toInt64))).toInt := own_l2i (((209 : Int32) + st).toInt64 + (lo.toInt64 * (7 : Int32).toInt64)) (by omega) (by omega)
                    omega⟩ (by decide) (by decide)
              · refine EndsK.go (fun _ kz => XS.ifYes X23.here hx rfl (pc0 := 62) (pc' := 71) rfl (hb hby d1_62) rfl ((if0 _ _).trans (flt H62_24).2.1) (by decide) (by decide) kz) ?_
                show EndsK p e below _ (T23.setTop (mkF m 71 #[.val (.int st), .val (.int lo), .val (.int (2 : Int32)), .val (.int (7 : Int32)), .val (.long (((209 : Int32) + st).toInt64 + (lo.toInt64 * (7 : Int32).toInt64))), .second] []))
                refine EndsK.go (fun _ kz => XS.iconst X23.here hx rfl (hb hby d1_71) kz) ?_
                show EndsK p e below _ (T23.setTop (mkF m 72 #[.val (.int st), .val (.int lo), .val (.int (2 : Int32)), .val (.int (7 : Int32)), .val (.long (((209 : Int32) + st).toInt64 + (lo.toInt64 * (7 : Int32).toInt64))), .second] [(.int (0 : Int32))]))
                exact endI X23 hx Bd.returns (hb hby d1_72) hlk ⟨_, rfl, N0, e23, by
                    unfold Sh Enc
                    have fz1 := rng32 st
                    have fz2 : ((0 : Int32)).toInt = 0 := rfl
                    have fz3 : ¬ ((st).toInt < ((0 : Int32)).toInt) := fun qz => H21_19 (Int32.lt_iff_toInt_lt.mpr qz)
                    have fz4 : ((7 : Int32)).toInt = 7 := rfl
                    have fz5 : (st).toInt < ((7 : Int32)).toInt := Int32.lt_iff_toInt_lt.mp H26_20
                    have fz6 := rng32 lo
                    have fz7 : ¬ ((lo).toInt < ((0 : Int32)).toInt) := fun qz => H30_21 (Int32.lt_iff_toInt_lt.mpr qz)
                    have fz8 : ((209 : Int32)).toInt = 209 := rfl
                    have fz9 : (((209 : Int32) + st)).toInt = ((209 : Int32)).toInt + (st).toInt := own_iadd (209 : Int32) st (by omega) (by omega)
                    have fz10 := c_i2l ((209 : Int32) + st)
                    have fz11 := c_i2l lo
                    have fz12 := c_i2l (7 : Int32)
                    have fz13 := own_wide lo (7 : Int32) 7 rfl
                    have fz14 : ((((209 : Int32) + st).toInt64 + (lo.toInt64 * (7 : Int32).toInt64))).toInt = (((209 : Int32) + st).toInt64).toInt + ((lo.toInt64 * (7 : Int32).toInt64)).toInt := own_ladd ((209 : Int32) + st).toInt64 (lo.toInt64 * (7 : Int32).toInt64) (by omega) (by omega)
                    have fz15 : ((256 : Int32)).toInt = 256 := rfl
                    have fz16 := c_i2l (256 : Int32)
                    have fz17 := c_lcmp (((209 : Int32) + st).toInt64 + (lo.toInt64 * (7 : Int32).toInt64)) (256 : Int32).toInt64
                    have fz18 : ¬ (((lcmpW (((209 : Int32) + st).toInt64 + (lo.toInt64 * (7 : Int32).toInt64)) (256 : Int32).toInt64)).toInt < ((0 : Int32)).toInt) := fun qz => H62_24 (Int32.lt_iff_toInt_lt.mpr qz)
                    have fz19 : ((2 : Int32)).toInt = 2 := rfl
                    omega⟩ (by decide) (by decide)
          · refine EndsK.go (fun _ kz => XS.icmpYes X18.here hx rfl (pc0 := 26) (pc' := 33) rfl (hb hby d1_26) rfl (flt H26_20).2.1 (by decide) (by decide) kz) ?_
            show EndsK p e below _ (T18.setTop (mkF m 33 #[.val (.int st), .val (.int lo), .val (.int (2 : Int32)), .val (.int (7 : Int32)), .unset, .unset] []))
            refine EndsK.go (fun _ kz => XS.iconst X18.here hx rfl (hb hby d1_33) kz) ?_
            show EndsK p e below _ (T18.setTop (mkF m 34 #[.val (.int st), .val (.int lo), .val (.int (2 : Int32)), .val (.int (7 : Int32)), .unset, .unset] [(.int (0 : Int32))]))
            exact endI X18 hx Bd.returns (hb hby d1_34) hlk ⟨_, rfl, N0, e18, by
                unfold Sh Enc
                have fz1 := rng32 st
                have fz2 : ((0 : Int32)).toInt = 0 := rfl
                have fz3 : ¬ ((st).toInt < ((0 : Int32)).toInt) := fun qz => H21_19 (Int32.lt_iff_toInt_lt.mpr qz)
                have fz4 : ((7 : Int32)).toInt = 7 := rfl
                have fz5 : ¬ ((st).toInt < ((7 : Int32)).toInt) := fun qz => H26_20 (Int32.lt_iff_toInt_lt.mpr qz)
                have fz6 := rng32 lo
                have fz7 : ((2 : Int32)).toInt = 2 := rfl
                omega⟩ (by decide) (by decide)
    · refine EndsK.go (fun _ kz => XS.icmpNo X2.here hx rfl (hb hby d1_9) rfl (flt H9_3).1 kz) ?_
      show EndsK p e below _ (T2.setTop (mkF m 12 #[.val (.int st), .val (.int lo), .val (.int h), .unset, .unset, .unset] []))
      refine EndsK.go (fun _ kz => XS.iconst X2.here hx rfl (hb hby d1_12) kz) ?_
      show EndsK p e below _ (T2.setTop (mkF m 13 #[.val (.int st), .val (.int lo), .val (.int h), .unset, .unset, .unset] [(.int (0 : Int32))]))
      exact endI X2 hx Bd.returns (hb hby d1_13) hlk ⟨_, rfl, N0, e2, by
          unfold Sh Enc
          have fz1 := rng32 h
          have fz2 : ((0 : Int32)).toInt = 0 := rfl
          have fz3 : ¬ ((h).toInt < ((0 : Int32)).toInt) := fun qz => H1_1 (Int32.lt_iff_toInt_lt.mpr qz)
          have fz4 : ((3 : Int32)).toInt = 3 := rfl
          have fz5 : ¬ ((h).toInt < ((3 : Int32)).toInt) := fun qz => H9_3 (Int32.lt_iff_toInt_lt.mpr qz)
          have fz6 := rng32 st
          have fz7 := rng32 lo
          omega⟩ (by decide) (by decide)
theorem ef_law (m : MethodId) (i0 : Int32) (i1 : Int32) (i2 : Int32) (i3 : Int32) (b0 : Addr) (b1 : Addr) (c0 : Cell) (c1 : Cell) : entryFrame m #[(.int i0), (.int i1), (.int i2), (.int i3)] maxLocals = mkF m 0 #[.val (.int i0), .val (.int i1), .val (.int i2), .val (.int i3), .unset, .unset, .unset, .unset, .unset, .unset, .unset, .unset, .unset] [] := by first | (simp [entryFrame, mkF, argsToLocals, Value.category, maxLocals]; done) | rfl
def Q_law (Z : State) (i0 : Int32) (i1 : Int32) (i2 : Int32) (i3 : Int32) (b0 : Addr) (b1 : Addr) (c0 : Cell) (c1 : Cell) (h0 : Heap) (n0 : Nat) (vz : Option Value) (hz : Heap) (Lz : List Loc) : Prop := vz = some (.int 1) ∧ Fr n0 Lz
theorem pd0 : parseMethodDescriptor "(III)I" = some ⟨[.int, .int, .int], some .int⟩ := by decide +kernel
theorem pd1 : parseMethodDescriptor "(III)Z" = some ⟨[.int, .int, .int], some .boolean⟩ := by decide +kernel
set_option maxRecDepth 65536 in
set_option maxHeartbeats 40000000 in
theorem rm_law (l : Launch) (Z : State) (a0 : Array Value) (hw : ∀ d ∈ tables_1, d.before a0 Z = true) (ws : List Jvm.Cond) (i0 : Int32) (i1 : Int32) (i2 : Int32) (i3 : Int32) (b0 : Addr) (b1 : Addr) (c0 : Cell) (c1 : Cell) (h0 : Heap) (n0 : Nat) (Z0 : n0 ≤ h0.size) (S0 : Sta Z h0 "com/example/packwright/packwright/pack200/CodeBands" "SHORT_FORM_STACKS" "[I" (.ref b0)) (S1 : Sta Z h0 "com/example/packwright/packwright/pack200/CodeBands" "SHORT_FORM_STARTS" "[I" (.ref b1)) (A0 : Arr Z h0 b0 c0 .int) (A1 : Arr Z h0 b1 c1 .int) (z0 : c0.slots.size.toInt32 = 3) (z1 : c1.slots.size.toInt32 = 4) (ub0_0 : ¬ ((0 : Int32) < 0 ∨ c0.slots.size ≤ (0 : Int32).toNatClampNeg) ∧ c0.slots[(0 : Int32).toNatClampNeg]? = some (.int (12 : Int32))) (ub0_1 : ¬ ((1 : Int32) < 0 ∨ c0.slots.size ≤ (1 : Int32).toNatClampNeg) ∧ c0.slots[(1 : Int32).toNatClampNeg]? = some (.int (8 : Int32))) (ub0_2 : ¬ ((2 : Int32) < 0 ∨ c0.slots.size ≤ (2 : Int32).toNatClampNeg) ∧ c0.slots[(2 : Int32).toNatClampNeg]? = some (.int (7 : Int32))) (ub1_0 : ¬ ((0 : Int32) < 0 ∨ c1.slots.size ≤ (0 : Int32).toNatClampNeg) ∧ c1.slots[(0 : Int32).toNatClampNeg]? = some (.int (1 : Int32))) (ub1_1 : ¬ ((1 : Int32) < 0 ∨ c1.slots.size ≤ (1 : Int32).toNatClampNeg) ∧ c1.slots[(1 : Int32).toNatClampNeg]? = some (.int (145 : Int32))) (ub1_2 : ¬ ((2 : Int32) < 0 ∨ c1.slots.size ≤ (2 : Int32).toNatClampNeg) ∧ c1.slots[(2 : Int32).toNatClampNeg]? = some (.int (209 : Int32))) (ub1_3 : ¬ ((3 : Int32) < 0 ∨ c1.slots.size ≤ (3 : Int32).toNatClampNeg) ∧ c1.slots[(3 : Int32).toNatClampNeg]? = some (.int (256 : Int32))) :
    MetFree l x (head1 (Jvm.Cond.code x code maxLocals ret :: ws) room_1) (fun az Uz => az = #[(.int i0), (.int i1), (.int i2), (.int i3)] ∧ Z.Warmed39 Uz.vm ∧ Uz.heap = h0) (fun _ _ _ _ _ => True) (fun _ Uz oz Ut => ∃ vz Lz, oz = .returned vz ∧ Q_law Z i0 i1 i2 i3 b0 b1 c0 c1 h0 n0 vz Ut.heap Lz ∧ FrameEnd Uz oz Ut Lz (room_1).cells (room_1).slots) := by
  refine MetFree.of_bodySF (plainFor_of_name pn0) hisR ?_
  intro p e s m args below meth c s₁ Bd hml0 hP hK
  obtain ⟨rfl, hZ, hh⟩ := hP
  have hx := Bd.exec
  have hby := Bd.bytes
  have hml : c.maxLocals = 13 := hml0
  have hown : s.vm.findClass "com/example/packwright/packwright/pack200/CodeBandsShortHeaderPinLaw" = some m.cls := findClass_of_methodNamed Bd.named
  have hnm := (name_of_methodNamed Bd.named Bd.method).1
  have hlk : meth.locks = false := Bd.notSynchronized
  have X0 : Stand p l e room_1 s m #[(.int i0), (.int i1), (.int i2), (.int i3)] below meth c s₁ [] 0 0 := Stand.of_body Bd
  have e0 : s₁.heap = h0 := by rw [← hh, Bd.state]; rfl
  have N0 := Fr.nil n0
  show EndsK p e below (OQ s (Q_law Z i0 i1 i2 i3 b0 b1 c0 c1 h0 n0) (room_1).cells (room_1).slots) (s₁.setTop (entryFrame m #[(.int i0), (.int i1), (.int i2), (.int i3)] maxLocals))
  refine EndsK.start (ef_law m i0 i1 i2 i3 b0 b1 c0 c1) ?_
  have J47 : ∀ v4 v5 v6 : Int32, EndsK p e below (OQ s (Q_law Z i0 i1 i2 i3 b0 b1 c0 c1 h0 n0) room_1.cells room_1.slots) (s₁.setTop (mkF m 47 #[.val (.int i0), .val (.int i1), .val (.int i2), .val (.int i3), .val (.int v4), .val (.int v5), .val (.int v6), .unset, .unset, .unset, .unset, .unset, .unset] [])) := by
    intro v4 v5 v6
    show EndsK p e below _ (s₁.setTop (mkF m 47 #[.val (.int i0), .val (.int i1), .val (.int i2), .val (.int i3), .val (.int v4), .val (.int v5), .val (.int v6), .unset, .unset, .unset, .unset, .unset, .unset] []))
    refine EndsK.go (fun _ kz => XS.iload X0.here hx rfl (hb hby at_47) rfl kz) ?_
    show EndsK p e below _ (s₁.setTop (mkF m 49 #[.val (.int i0), .val (.int i1), .val (.int i2), .val (.int i3), .val (.int v4), .val (.int v5), .val (.int v6), .unset, .unset, .unset, .unset, .unset, .unset] [(.int v4)]))
    refine EndsK.go (fun _ kz => XS.iload X0.here hx rfl (hb hby at_49) rfl kz) ?_
    show EndsK p e below _ (s₁.setTop (mkF m 51 #[.val (.int i0), .val (.int i1), .val (.int i2), .val (.int i3), .val (.int v4), .val (.int v5), .val (.int v6), .unset, .unset, .unset, .unset, .unset, .unset] [(.int v5), (.int v4)]))
    refine EndsK.go (fun _ kz => XS.iload X0.here hx rfl (hb hby at_51) rfl kz) ?_
    show EndsK p e below _ (s₁.setTop (mkF m 53 #[.val (.int i0), .val (.int i1), .val (.int i2), .val (.int i3), .val (.int v4), .val (.int v5), .val (.int v6), .unset, .unset, .unset, .unset, .unset, .unset] [(.int v6), (.int v5), (.int v4)]))
    obtain ⟨_, _, ⟨T1, L1, k1, n1⟩, -, X1, ⟨Lc1, hQ1, l1, y1, z1⟩, st1⟩ := Jvm.LawKit.callS X0 hx (y := (⟨"com/example/packwright/packwright/pack200/CodeBands", "shortHeader", "(III)I"⟩ : MethodName)) hown (mvT hZ (hw _ (List.mem_of_getElem? (i := 0) rfl))) (mvT hZ (hw _ (List.mem_of_getElem? (i := 1) rfl))) (mvT hZ (hw _ (List.mem_of_getElem? (i := 2) rfl))) (mvT hZ (hw _ (List.mem_of_getElem? (i := 3) rfl))) (by decide) (backOf (W := 0) (rm_short l Z a0 hw [] v4 v5 v6 b0 b1 c0 c1 h0 n0 Z0 S0 S1 A0 A1 z0 z1 ub0_0 ub0_1 ub0_2 ub1_0 ub1_1 ub1_2 ub1_3) hZ (hw _ (List.mem_of_getElem? (i := 3) rfl)) (hw _ (List.mem_of_getElem? (i := 2) rfl)) (by decide) (by decide)) (g := (mkF m 53 #[.val (.int i0), .val (.int i1), .val (.int i2), .val (.int i3), .val (.int v4), .val (.int v5), .val (.int v6), .unset, .unset, .unset, .unset, .unset, .unset] [(.int v6), (.int v5), (.int v4)])) rfl (by rw [hml]; rfl) (argsL := [(.int v4), (.int v5), (.int v6)]) (rest := []) (lenOf pd0 rfl) rfl (by show 2 * 0 + _ ≤ _; exact Nat.le_of_eq rfl) (hb hby at_53) (fun _ _ => ⟨rfl, e0, (by decide : 0 + 0 ≤ _), (by decide : 0 + 0 ≤ _)⟩)
    dsimp only [Pt.U, Pt.locs, Pt.cells, Pt.slots] at X1 l1 y1 z1 st1 hQ1
    subst l1 y1 z1
    obtain ⟨r, rfl, N1, e1, hS⟩ := hQ1
    have M1 := Fr.app N0 N1
    refine EndsK.go st1 ?_
    show EndsK p e below _ (T1.setTop (mkF m 56 #[.val (.int i0), .val (.int i1), .val (.int i2), .val (.int i3), .val (.int v4), .val (.int v5), .val (.int v6), .unset, .unset, .unset, .unset, .unset, .unset] [(.int r)]))
    refine EndsK.go (fun _ kz => XS.istore X1.here hx rfl (hb hby at_56) rfl (l' := #[.val (.int i0), .val (.int i1), .val (.int i2), .val (.int i3), .val (.int v4), .val (.int v5), .val (.int v6), .val (.int r), .unset, .unset, .unset, .unset, .unset]) rfl kz) ?_
    show EndsK p e below _ (T1.setTop (mkF m 58 #[.val (.int i0), .val (.int i1), .val (.int i2), .val (.int i3), .val (.int v4), .val (.int v5), .val (.int v6), .val (.int r), .unset, .unset, .unset, .unset, .unset] []))
    refine EndsK.go (fun _ kz => XS.iload X1.here hx rfl (hb hby at_58) rfl kz) ?_
    show EndsK p e below _ (T1.setTop (mkF m 60 #[.val (.int i0), .val (.int i1), .val (.int i2), .val (.int i3), .val (.int v4), .val (.int v5), .val (.int v6), .val (.int r), .unset, .unset, .unset, .unset, .unset] [(.int v4)]))
    refine EndsK.go (fun _ kz => XS.iload X1.here hx rfl (hb hby at_60) rfl kz) ?_
    show EndsK p e below _ (T1.setTop (mkF m 62 #[.val (.int i0), .val (.int i1), .val (.int i2), .val (.int i3), .val (.int v4), .val (.int v5), .val (.int v6), .val (.int r), .unset, .unset, .unset, .unset, .unset] [(.int v5), (.int v4)]))
    refine EndsK.go (fun _ kz => XS.iload X1.here hx rfl (hb hby at_62) rfl kz) ?_
    show EndsK p e below _ (T1.setTop (mkF m 64 #[.val (.int i0), .val (.int i1), .val (.int i2), .val (.int i3), .val (.int v4), .val (.int v5), .val (.int v6), .val (.int r), .unset, .unset, .unset, .unset, .unset] [(.int v6), (.int v5), (.int v4)]))
    obtain ⟨_, _, ⟨T2, L2, k2, n2⟩, -, X2, ⟨Lc2, hQ2, l2, y2, z2⟩, st2⟩ := Jvm.LawKit.callS X1 hx (y := (⟨"com/example/packwright/packwright/pack200/CodeBandsShortHeaderPinLaw", "encodable", "(III)Z"⟩ : MethodName)) hown (mvT hZ (hw _ (List.mem_of_getElem? (i := 8) rfl))) (mvT hZ (hw _ (List.mem_of_getElem? (i := 9) rfl))) (mvT hZ (hw _ (List.mem_of_getElem? (i := 10) rfl))) (mvT hZ (hw _ (List.mem_of_getElem? (i := 11) rfl))) (by decide) (backOf (W := 0) (rm_enc l Z a0 hw [] v4 v5 v6 h0 n0 Z0) hZ (hw _ (List.mem_of_getElem? (i := 11) rfl)) (hw _ (List.mem_of_getElem? (i := 10) rfl)) (by decide) (by decide)) (g := (mkF m 64 #[.val (.int i0), .val (.int i1), .val (.int i2), .val (.int i3), .val (.int v4), .val (.int v5), .val (.int v6), .val (.int r), .unset, .unset, .unset, .unset, .unset] [(.int v6), (.int v5), (.int v4)])) rfl (by rw [hml]; rfl) (argsL := [(.int v4), (.int v5), (.int v6)]) (rest := []) (lenOf pd1 rfl) rfl (by show 2 * 0 + _ ≤ _; exact Nat.le_of_eq rfl) (hb hby at_64) (fun _ _ => ⟨rfl, e1, (by decide : 0 + 0 + 0 ≤ _), (by decide : 0 + 0 + 0 ≤ _)⟩)
    dsimp only [Pt.U, Pt.locs, Pt.cells, Pt.slots] at X2 l2 y2 z2 st2 hQ2
    subst l2 y2 z2
    obtain ⟨ok, rfl, N2, e2, hE⟩ := hQ2
    have M2 := Fr.app M1 N2
    refine EndsK.go st2 ?_
    show EndsK p e below _ (T2.setTop (mkF m 67 #[.val (.int i0), .val (.int i1), .val (.int i2), .val (.int i3), .val (.int v4), .val (.int v5), .val (.int v6), .val (.int r), .unset, .unset, .unset, .unset, .unset] [(.int ok)]))
    refine EndsK.go (fun _ kz => XS.istore X2.here hx rfl (hb hby at_67) rfl (l' := #[.val (.int i0), .val (.int i1), .val (.int i2), .val (.int i3), .val (.int v4), .val (.int v5), .val (.int v6), .val (.int r), .val (.int ok), .unset, .unset, .unset, .unset]) rfl kz) ?_
    show EndsK p e below _ (T2.setTop (mkF m 69 #[.val (.int i0), .val (.int i1), .val (.int i2), .val (.int i3), .val (.int v4), .val (.int v5), .val (.int v6), .val (.int r), .val (.int ok), .unset, .unset, .unset, .unset] []))
    refine EndsK.go (fun _ kz => XS.iload X2.here hx rfl (hb hby at_69) rfl kz) ?_
    show EndsK p e below _ (T2.setTop (mkF m 71 #[.val (.int i0), .val (.int i1), .val (.int i2), .val (.int i3), .val (.int v4), .val (.int v5), .val (.int v6), .val (.int r), .val (.int ok), .unset, .unset, .unset, .unset] [(.int r)]))
    by_cases H71_3 : r = (0 : Int32)
    · refine EndsK.go (fun _ kz => XS.ifNo X2.here hx rfl (hb hby at_71) rfl ((if0 _ _).trans (teq H71_3).2) kz) ?_
      show EndsK p e below _ (T2.setTop (mkF m 74 #[.val (.int i0), .val (.int i1), .val (.int i2), .val (.int i3), .val (.int v4), .val (.int v5), .val (.int v6), .val (.int r), .val (.int ok), .unset, .unset, .unset, .unset] []))
      refine EndsK.go (fun _ kz => XS.iload X2.here hx rfl (hb hby at_74) rfl kz) ?_
      show EndsK p e below _ (T2.setTop (mkF m 76 #[.val (.int i0), .val (.int i1), .val (.int i2), .val (.int i3), .val (.int v4), .val (.int v5), .val (.int v6), .val (.int r), .val (.int ok), .unset, .unset, .unset, .unset] [(.int ok)]))
      by_cases H76_4 : ok = (0 : Int32)
      · refine EndsK.go (fun _ kz => XS.ifNo X2.here hx rfl (hb hby at_76) rfl ((if0 _ _).trans (teq H76_4).2) kz) ?_
        show EndsK p e below _ (T2.setTop (mkF m 79 #[.val (.int i0), .val (.int i1), .val (.int i2), .val (.int i3), .val (.int v4), .val (.int v5), .val (.int v6), .val (.int r), .val (.int ok), .unset, .unset, .unset, .unset] []))
        refine EndsK.go (fun _ kz => XS.iconst X2.here hx rfl (hb hby at_79) kz) ?_
        show EndsK p e below _ (T2.setTop (mkF m 80 #[.val (.int i0), .val (.int i1), .val (.int i2), .val (.int i3), .val (.int v4), .val (.int v5), .val (.int v6), .val (.int r), .val (.int ok), .unset, .unset, .unset, .unset] [(.int (1 : Int32))]))
        refine EndsK.go (fun _ kz => XS.goto X2.here hx rfl (pc0 := 80) (pc' := 84) rfl (hb hby at_80) (by decide) (by decide) kz) ?_
        show EndsK p e below _ (T2.setTop (mkF m 84 #[.val (.int i0), .val (.int i1), .val (.int i2), .val (.int i3), .val (.int v4), .val (.int v5), .val (.int v6), .val (.int r), .val (.int ok), .unset, .unset, .unset, .unset] [(.int (1 : Int32))]))
        exact endN X2 hx (t := .boolean) Bd.returns (by simp) (hb hby at_84) hlk ⟨rfl, M2⟩ (by decide) (by decide)
      · refine EndsK.go (fun _ kz => XS.ifYes X2.here hx rfl (pc0 := 76) (pc' := 83) rfl (hb hby at_76) rfl ((if0 _ _).trans (feq H76_4).2) (by decide) (by decide) kz) ?_
        show EndsK p e below _ (T2.setTop (mkF m 83 #[.val (.int i0), .val (.int i1), .val (.int i2), .val (.int i3), .val (.int v4), .val (.int v5), .val (.int v6), .val (.int r), .val (.int ok), .unset, .unset, .unset, .unset] []))
        refine EndsK.go (fun _ kz => XS.iconst X2.here hx rfl (hb hby at_83) kz) ?_
        show EndsK p e below _ (T2.setTop (mkF m 84 #[.val (.int i0), .val (.int i1), .val (.int i2), .val (.int i3), .val (.int v4), .val (.int v5), .val (.int v6), .val (.int r), .val (.int ok), .unset, .unset, .unset, .unset] [(.int (0 : Int32))]))
        exact endN X2 hx (t := .boolean) Bd.returns (by simp) (hb hby at_84) hlk (False.elim (by
            have fz1 := rng32 r
            have fz2 : ((0 : Int32)).toInt = 0 := rfl
            have fz3 : (r).toInt = ((0 : Int32)).toInt := congrArg Int32.toInt H71_3
            have fz4 := rng32 ok
            have fz5 : ¬ ((ok).toInt = ((0 : Int32)).toInt) := fun qz => H76_4 (Int32.toInt_inj.mp qz)
            have fz6 := rng32 v4
            have fz7 := rng32 v5
            have fz8 := rng32 v6
            unfold Sh Enc at hS
            unfold Enc at hE
            omega)) (by decide) (by decide)
    · refine EndsK.go (fun _ kz => XS.ifYes X2.here hx rfl (pc0 := 71) (pc' := 85) rfl (hb hby at_71) rfl ((if0 _ _).trans (feq H71_3).2) (by decide) (by decide) kz) ?_
      show EndsK p e below _ (T2.setTop (mkF m 85 #[.val (.int i0), .val (.int i1), .val (.int i2), .val (.int i3), .val (.int v4), .val (.int v5), .val (.int v6), .val (.int r), .val (.int ok), .unset, .unset, .unset, .unset] []))
      refine EndsK.go (fun _ kz => XS.iload X2.here hx rfl (hb hby at_85) rfl kz) ?_
      show EndsK p e below _ (T2.setTop (mkF m 87 #[.val (.int i0), .val (.int i1), .val (.int i2), .val (.int i3), .val (.int v4), .val (.int v5), .val (.int v6), .val (.int r), .val (.int ok), .unset, .unset, .unset, .unset] [(.int ok)]))
      by_cases H87_5 : ok = (0 : Int32)
      · refine EndsK.go (fun _ kz => XS.ifNo X2.here hx rfl (hb hby at_87) rfl ((if0 _ _).trans (teq H87_5).2) kz) ?_
        show EndsK p e below _ (T2.setTop (mkF m 90 #[.val (.int i0), .val (.int i1), .val (.int i2), .val (.int i3), .val (.int v4), .val (.int v5), .val (.int v6), .val (.int r), .val (.int ok), .unset, .unset, .unset, .unset] []))
        refine EndsK.go (fun _ kz => XS.iconst X2.here hx rfl (hb hby at_90) kz) ?_
        show EndsK p e below _ (T2.setTop (mkF m 91 #[.val (.int i0), .val (.int i1), .val (.int i2), .val (.int i3), .val (.int v4), .val (.int v5), .val (.int v6), .val (.int r), .val (.int ok), .unset, .unset, .unset, .unset] [(.int (0 : Int32))]))
        exact endN X2 hx (t := .boolean) Bd.returns (by simp) (hb hby at_91) hlk (False.elim (by
            have fz1 := rng32 r
            have fz2 : ((0 : Int32)).toInt = 0 := rfl
            have fz3 : ¬ ((r).toInt = ((0 : Int32)).toInt) := fun qz => H71_3 (Int32.toInt_inj.mp qz)
            have fz4 := rng32 ok
            have fz5 : (ok).toInt = ((0 : Int32)).toInt := congrArg Int32.toInt H87_5
            have fz6 := rng32 v4
            have fz7 := rng32 v5
            have fz8 := rng32 v6
            unfold Sh Enc at hS
            unfold Enc at hE
            omega)) (by decide) (by decide)
      · refine EndsK.go (fun _ kz => XS.ifYes X2.here hx rfl (pc0 := 87) (pc' := 92) rfl (hb hby at_87) rfl ((if0 _ _).trans (feq H87_5).2) (by decide) (by decide) kz) ?_
        show EndsK p e below _ (T2.setTop (mkF m 92 #[.val (.int i0), .val (.int i1), .val (.int i2), .val (.int i3), .val (.int v4), .val (.int v5), .val (.int v6), .val (.int r), .val (.int ok), .unset, .unset, .unset, .unset] []))
        refine EndsK.go (fun _ kz => XS.iload X2.here hx rfl (hb hby at_92) rfl kz) ?_
        show EndsK p e below _ (T2.setTop (mkF m 94 #[.val (.int i0), .val (.int i1), .val (.int i2), .val (.int i3), .val (.int v4), .val (.int v5), .val (.int v6), .val (.int r), .val (.int ok), .unset, .unset, .unset, .unset] [(.int r)]))
        refine EndsK.go (fun _ kz => XS.iconst X2.here hx rfl (hb hby at_94) kz) ?_
        show EndsK p e below _ (T2.setTop (mkF m 95 #[.val (.int i0), .val (.int i1), .val (.int i2), .val (.int i3), .val (.int v4), .val (.int v5), .val (.int v6), .val (.int r), .val (.int ok), .unset, .unset, .unset, .unset] [(.int (1 : Int32)), (.int r)]))
        by_cases H95_6 : r < (1 : Int32)
        · refine EndsK.go (fun _ kz => XS.icmpYes X2.here hx rfl (pc0 := 95) (pc' := 106) rfl (hb hby at_95) rfl (tlt H95_6).1 (by decide) (by decide) kz) ?_
          show EndsK p e below _ (T2.setTop (mkF m 106 #[.val (.int i0), .val (.int i1), .val (.int i2), .val (.int i3), .val (.int v4), .val (.int v5), .val (.int v6), .val (.int r), .val (.int ok), .unset, .unset, .unset, .unset] []))
          refine EndsK.go (fun _ kz => XS.iconst X2.here hx rfl (hb hby at_106) kz) ?_
          show EndsK p e below _ (T2.setTop (mkF m 107 #[.val (.int i0), .val (.int i1), .val (.int i2), .val (.int i3), .val (.int v4), .val (.int v5), .val (.int v6), .val (.int r), .val (.int ok), .unset, .unset, .unset, .unset] [(.int (0 : Int32))]))
          exact endN X2 hx (t := .boolean) Bd.returns (by simp) (hb hby at_107) hlk (False.elim (by
              have fz1 := rng32 r
              have fz2 : ((0 : Int32)).toInt = 0 := rfl
              have fz3 : ¬ ((r).toInt = ((0 : Int32)).toInt) := fun qz => H71_3 (Int32.toInt_inj.mp qz)
              have fz4 := rng32 ok
              have fz5 : ¬ ((ok).toInt = ((0 : Int32)).toInt) := fun qz => H87_5 (Int32.toInt_inj.mp qz)
              have fz6 : ((1 : Int32)).toInt = 1 := rfl
              have fz7 : (r).toInt < ((1 : Int32)).toInt := Int32.lt_iff_toInt_lt.mp H95_6
              have fz8 := rng32 v4
              have fz9 := rng32 v5
              have fz10 := rng32 v6
              unfold Sh Enc at hS
              unfold Enc at hE
              omega)) (by decide) (by decide)
        · refine EndsK.go (fun _ kz => XS.icmpNo X2.here hx rfl (hb hby at_95) rfl (flt H95_6).1 kz) ?_
          show EndsK p e below _ (T2.setTop (mkF m 98 #[.val (.int i0), .val (.int i1), .val (.int i2), .val (.int i3), .val (.int v4), .val (.int v5), .val (.int v6), .val (.int r), .val (.int ok), .unset, .unset, .unset, .unset] []))
          refine EndsK.go (fun _ kz => XS.iload X2.here hx rfl (hb hby at_98) rfl kz) ?_
          show EndsK p e below _ (T2.setTop (mkF m 100 #[.val (.int i0), .val (.int i1), .val (.int i2), .val (.int i3), .val (.int v4), .val (.int v5), .val (.int v6), .val (.int r), .val (.int ok), .unset, .unset, .unset, .unset] [(.int r)]))
          refine EndsK.go (fun _ kz => XS.sipush X2.here hx rfl (hb hby at_100) kz) ?_
          show EndsK p e below _ (T2.setTop (mkF m 103 #[.val (.int i0), .val (.int i1), .val (.int i2), .val (.int i3), .val (.int v4), .val (.int v5), .val (.int v6), .val (.int r), .val (.int ok), .unset, .unset, .unset, .unset] [(.int (256 : Int32)), (.int r)]))
          by_cases H103_7 : r < (256 : Int32)
          · refine EndsK.go (fun _ kz => XS.icmpYes X2.here hx rfl (pc0 := 103) (pc' := 108) rfl (hb hby at_103) rfl (tlt H103_7).1 (by decide) (by decide) kz) ?_
            show EndsK p e below _ (T2.setTop (mkF m 108 #[.val (.int i0), .val (.int i1), .val (.int i2), .val (.int i3), .val (.int v4), .val (.int v5), .val (.int v6), .val (.int r), .val (.int ok), .unset, .unset, .unset, .unset] []))
            refine EndsK.go (fun _ kz => XS.iload X2.here hx rfl (hb hby at_108) rfl kz) ?_
            show EndsK p e below _ (T2.setTop (mkF m 110 #[.val (.int i0), .val (.int i1), .val (.int i2), .val (.int i3), .val (.int v4), .val (.int v5), .val (.int v6), .val (.int r), .val (.int ok), .unset, .unset, .unset, .unset] [(.int r)]))
            refine EndsK.go (fun _ kz => XS.sipush X2.here hx rfl (hb hby at_110) kz) ?_
            show EndsK p e below _ (T2.setTop (mkF m 113 #[.val (.int i0), .val (.int i1), .val (.int i2), .val (.int i3), .val (.int v4), .val (.int v5), .val (.int v6), .val (.int r), .val (.int ok), .unset, .unset, .unset, .unset] [(.int (145 : Int32)), (.int r)]))
            by_cases H113_8 : r < (145 : Int32)
            · refine EndsK.go (fun _ kz => XS.icmpNo X2.here hx rfl (hb hby at_113) rfl (tlt H113_8).2.1 kz) ?_
              show EndsK p e below _ (T2.setTop (mkF m 116 #[.val (.int i0), .val (.int i1), .val (.int i2), .val (.int i3), .val (.int v4), .val (.int v5), .val (.int v6), .val (.int r), .val (.int ok), .unset, .unset, .unset, .unset] []))
              refine EndsK.go (fun _ kz => XS.iconst X2.here hx rfl (hb hby at_116) kz) ?_
              show EndsK p e below _ (T2.setTop (mkF m 117 #[.val (.int i0), .val (.int i1), .val (.int i2), .val (.int i3), .val (.int v4), .val (.int v5), .val (.int v6), .val (.int r), .val (.int ok), .unset, .unset, .unset, .unset] [(.int (0 : Int32))]))
              refine EndsK.go (fun _ kz => XS.goto X2.here hx rfl (pc0 := 117) (pc' := 133) rfl (hb hby at_117) (by decide) (by decide) kz) ?_
              show EndsK p e below _ (T2.setTop (mkF m 133 #[.val (.int i0), .val (.int i1), .val (.int i2), .val (.int i3), .val (.int v4), .val (.int v5), .val (.int v6), .val (.int r), .val (.int ok), .unset, .unset, .unset, .unset] [(.int (0 : Int32))]))
              refine EndsK.go (fun _ kz => XS.istore X2.here hx rfl (hb hby at_133) rfl (l' := #[.val (.int i0), .val (.int i1), .val (.int i2), .val (.int i3), .val (.int v4), .val (.int v5), .val (.int v6), .val (.int r), .val (.int ok), .val (.int (0 : Int32)), .unset, .unset, .unset]) rfl kz) ?_
              show EndsK p e below _ (T2.setTop (mkF m 135 #[.val (.int i0), .val (.int i1), .val (.int i2), .val (.int i3), .val (.int v4), .val (.int v5), .val (.int v6), .val (.int r), .val (.int ok), .val (.int (0 : Int32)), .unset, .unset, .unset] []))
              refine EndsK.go (fun _ kz => XS.iload X2.here hx rfl (hb hby at_135) rfl kz) ?_
              show EndsK p e below _ (T2.setTop (mkF m 137 #[.val (.int i0), .val (.int i1), .val (.int i2), .val (.int i3), .val (.int v4), .val (.int v5), .val (.int v6), .val (.int r), .val (.int ok), .val (.int (0 : Int32)), .unset, .unset, .unset] [(.int (0 : Int32))]))
              refine EndsK.go (fun _ kz => XS.ifNo X2.here hx rfl (hb hby at_137) rfl ((if0 _ _).trans (teq (rfl : (0 : Int32) = (0 : Int32))).2) kz) ?_
              show EndsK p e below _ (T2.setTop (mkF m 140 #[.val (.int i0), .val (.int i1), .val (.int i2), .val (.int i3), .val (.int v4), .val (.int v5), .val (.int v6), .val (.int r), .val (.int ok), .val (.int (0 : Int32)), .unset, .unset, .unset] []))
              refine EndsK.go (fun _ kz => XS.iconst X2.here hx rfl (hb hby at_140) kz) ?_
              show EndsK p e below _ (T2.setTop (mkF m 141 #[.val (.int i0), .val (.int i1), .val (.int i2), .val (.int i3), .val (.int v4), .val (.int v5), .val (.int v6), .val (.int r), .val (.int ok), .val (.int (0 : Int32)), .unset, .unset, .unset] [(.int (1 : Int32))]))
              refine EndsK.go (fun _ kz => XS.goto X2.here hx rfl (pc0 := 141) (pc' := 159) rfl (hb hby at_141) (by decide) (by decide) kz) ?_
              show EndsK p e below _ (T2.setTop (mkF m 159 #[.val (.int i0), .val (.int i1), .val (.int i2), .val (.int i3), .val (.int v4), .val (.int v5), .val (.int v6), .val (.int r), .val (.int ok), .val (.int (0 : Int32)), .unset, .unset, .unset] [(.int (1 : Int32))]))
              refine EndsK.go (fun _ kz => XS.istore X2.here hx rfl (hb hby at_159) rfl (l' := #[.val (.int i0), .val (.int i1), .val (.int i2), .val (.int i3), .val (.int v4), .val (.int v5), .val (.int v6), .val (.int r), .val (.int ok), .val (.int (0 : Int32)), .val (.int (1 : Int32)), .unset, .unset]) rfl kz) ?_
              show EndsK p e below _ (T2.setTop (mkF m 161 #[.val (.int i0), .val (.int i1), .val (.int i2), .val (.int i3), .val (.int v4), .val (.int v5), .val (.int v6), .val (.int r), .val (.int ok), .val (.int (0 : Int32)), .val (.int (1 : Int32)), .unset, .unset] []))
              refine EndsK.go (fun _ kz => XS.iload X2.here hx rfl (hb hby at_161) rfl kz) ?_
              show EndsK p e below _ (T2.setTop (mkF m 163 #[.val (.int i0), .val (.int i1), .val (.int i2), .val (.int i3), .val (.int v4), .val (.int v5), .val (.int v6), .val (.int r), .val (.int ok), .val (.int (0 : Int32)), .val (.int (1 : Int32)), .unset, .unset] [(.int (0 : Int32))]))
              refine EndsK.go (fun _ kz => XS.ifNo X2.here hx rfl (hb hby at_163) rfl ((if0 _ _).trans (teq (rfl : (0 : Int32) = (0 : Int32))).2) kz) ?_
              show EndsK p e below _ (T2.setTop (mkF m 166 #[.val (.int i0), .val (.int i1), .val (.int i2), .val (.int i3), .val (.int v4), .val (.int v5), .val (.int v6), .val (.int r), .val (.int ok), .val (.int (0 : Int32)), .val (.int (1 : Int32)), .unset, .unset] []))
              refine EndsK.go (fun _ kz => XS.bipush X2.here hx rfl (hb hby at_166) kz) ?_
              show EndsK p e below _ (T2.setTop (mkF m 168 #[.val (.int i0), .val (.int i1), .val (.int i2), .val (.int i3), .val (.int v4), .val (.int v5), .val (.int v6), .val (.int r), .val (.int ok), .val (.int (0 : Int32)), .val (.int (1 : Int32)), .unset, .unset] [(.int (12 : Int32))]))
              refine EndsK.go (fun _ kz => XS.goto X2.here hx rfl (pc0 := 168) (pc' := 184) rfl (hb hby at_168) (by decide) (by decide) kz) ?_
              show EndsK p e below _ (T2.setTop (mkF m 184 #[.val (.int i0), .val (.int i1), .val (.int i2), .val (.int i3), .val (.int v4), .val (.int v5), .val (.int v6), .val (.int r), .val (.int ok), .val (.int (0 : Int32)), .val (.int (1 : Int32)), .unset, .unset] [(.int (12 : Int32))]))
              refine EndsK.go (fun _ kz => XS.istore X2.here hx rfl (hb hby at_184) rfl (l' := #[.val (.int i0), .val (.int i1), .val (.int i2), .val (.int i3), .val (.int v4), .val (.int v5), .val (.int v6), .val (.int r), .val (.int ok), .val (.int (0 : Int32)), .val (.int (1 : Int32)), .val (.int (12 : Int32)), .unset]) rfl kz) ?_
              show EndsK p e below _ (T2.setTop (mkF m 186 #[.val (.int i0), .val (.int i1), .val (.int i2), .val (.int i3), .val (.int v4), .val (.int v5), .val (.int v6), .val (.int r), .val (.int ok), .val (.int (0 : Int32)), .val (.int (1 : Int32)), .val (.int (12 : Int32)), .unset] []))
              refine EndsK.go (fun _ kz => XS.iload X2.here hx rfl (hb hby at_186) rfl kz) ?_
              show EndsK p e below _ (T2.setTop (mkF m 188 #[.val (.int i0), .val (.int i1), .val (.int i2), .val (.int i3), .val (.int v4), .val (.int v5), .val (.int v6), .val (.int r), .val (.int ok), .val (.int (0 : Int32)), .val (.int (1 : Int32)), .val (.int (12 : Int32)), .unset] [(.int r)]))
              refine EndsK.go (fun _ kz => XS.iload X2.here hx rfl (hb hby at_188) rfl kz) ?_
              show EndsK p e below _ (T2.setTop (mkF m 190 #[.val (.int i0), .val (.int i1), .val (.int i2), .val (.int i3), .val (.int v4), .val (.int v5), .val (.int v6), .val (.int r), .val (.int ok), .val (.int (0 : Int32)), .val (.int (1 : Int32)), .val (.int (12 : Int32)), .unset] [(.int (1 : Int32)), (.int r)]))
              refine EndsK.go (fun _ kz => XS.isub X2.here hx rfl (hb hby at_190) rfl kz) ?_
              show EndsK p e below _ (T2.setTop (mkF m 191 #[.val (.int i0), .val (.int i1), .val (.int i2), .val (.int i3), .val (.int v4), .val (.int v5), .val (.int v6), .val (.int r), .val (.int ok), .val (.int (0 : Int32)), .val (.int (1 : Int32)), .val (.int (12 : Int32)), .unset] [(.int (r - (1 : Int32)))]))
              refine EndsK.go (fun _ kz => XS.istore X2.here hx rfl (hb hby at_191) rfl (l' := #[.val (.int i0), .val (.int i1), .val (.int i2), .val (.int i3), .val (.int v4), .val (.int v5), .val (.int v6), .val (.int r), .val (.int ok), .val (.int (0 : Int32)), .val (.int (1 : Int32)), .val (.int (12 : Int32)), .val (.int (r - (1 : Int32)))]) rfl kz) ?_
              show EndsK p e below _ (T2.setTop (mkF m 193 #[.val (.int i0), .val (.int i1), .val (.int i2), .val (.int i3), .val (.int v4), .val (.int v5), .val (.int v6), .val (.int r), .val (.int ok), .val (.int (0 : Int32)), .val (.int (1 : Int32)), .val (.int (12 : Int32)), .val (.int (r - (1 : Int32)))] []))
              refine EndsK.go (fun _ kz => XS.iload X2.here hx rfl (hb hby at_193) rfl kz) ?_
              show EndsK p e below _ (T2.setTop (mkF m 195 #[.val (.int i0), .val (.int i1), .val (.int i2), .val (.int i3), .val (.int v4), .val (.int v5), .val (.int v6), .val (.int r), .val (.int ok), .val (.int (0 : Int32)), .val (.int (1 : Int32)), .val (.int (12 : Int32)), .val (.int (r - (1 : Int32)))] [(.int (0 : Int32))]))
              refine EndsK.go (fun _ kz => XS.iload X2.here hx rfl (hb hby at_195) rfl kz) ?_
              show EndsK p e below _ (T2.setTop (mkF m 197 #[.val (.int i0), .val (.int i1), .val (.int i2), .val (.int i3), .val (.int v4), .val (.int v5), .val (.int v6), .val (.int r), .val (.int ok), .val (.int (0 : Int32)), .val (.int (1 : Int32)), .val (.int (12 : Int32)), .val (.int (r - (1 : Int32)))] [(.int v6), (.int (0 : Int32))]))
              by_cases H197_9 : (0 : Int32) = v6
              · refine EndsK.go (fun _ kz => XS.icmpNo X2.here hx rfl (hb hby at_197) rfl (teq H197_9).2 kz) ?_
                show EndsK p e below _ (T2.setTop (mkF m 200 #[.val (.int i0), .val (.int i1), .val (.int i2), .val (.int i3), .val (.int v4), .val (.int v5), .val (.int v6), .val (.int r), .val (.int ok), .val (.int (0 : Int32)), .val (.int (1 : Int32)), .val (.int (12 : Int32)), .val (.int (r - (1 : Int32)))] []))
                refine EndsK.go (fun _ kz => XS.iload X2.here hx rfl (hb hby at_200) rfl kz) ?_
                show EndsK p e below _ (T2.setTop (mkF m 202 #[.val (.int i0), .val (.int i1), .val (.int i2), .val (.int i3), .val (.int v4), .val (.int v5), .val (.int v6), .val (.int r), .val (.int ok), .val (.int (0 : Int32)), .val (.int (1 : Int32)), .val (.int (12 : Int32)), .val (.int (r - (1 : Int32)))] [(.int (r - (1 : Int32)))]))
                refine EndsK.go (fun _ kz => XS.iload X2.here hx rfl (hb hby at_202) rfl kz) ?_
                show EndsK p e below _ (T2.setTop (mkF m 204 #[.val (.int i0), .val (.int i1), .val (.int i2), .val (.int i3), .val (.int v4), .val (.int v5), .val (.int v6), .val (.int r), .val (.int ok), .val (.int (0 : Int32)), .val (.int (1 : Int32)), .val (.int (12 : Int32)), .val (.int (r - (1 : Int32)))] [(.int (12 : Int32)), (.int (r - (1 : Int32)))]))
                refine EndsK.go (fun _ kz => iremM X2 hx rfl (hb hby at_204) rfl (by decide) kz) ?_
                show EndsK p e below _ (T2.setTop (mkF m 205 #[.val (.int i0), .val (.int i1), .val (.int i2), .val (.int i3), .val (.int v4), .val (.int v5), .val (.int v6), .val (.int r), .val (.int ok), .val (.int (0 : Int32)), .val (.int (1 : Int32)), .val (.int (12 : Int32)), .val (.int (r - (1 : Int32)))] [(.int ((r - (1 : Int32)) % (12 : Int32)))]))
                refine EndsK.go (fun _ kz => XS.iload X2.here hx rfl (hb hby at_205) rfl kz) ?_
                show EndsK p e below _ (T2.setTop (mkF m 207 #[.val (.int i0), .val (.int i1), .val (.int i2), .val (.int i3), .val (.int v4), .val (.int v5), .val (.int v6), .val (.int r), .val (.int ok), .val (.int (0 : Int32)), .val (.int (1 : Int32)), .val (.int (12 : Int32)), .val (.int (r - (1 : Int32)))] [(.int v4), (.int ((r - (1 : Int32)) % (12 : Int32)))]))
                by_cases H207_10 : ((r - (1 : Int32)) % (12 : Int32)) = v4
                · refine EndsK.go (fun _ kz => XS.icmpNo X2.here hx rfl (hb hby at_207) rfl (teq H207_10).2 kz) ?_
                  show EndsK p e below _ (T2.setTop (mkF m 210 #[.val (.int i0), .val (.int i1), .val (.int i2), .val (.int i3), .val (.int v4), .val (.int v5), .val (.int v6), .val (.int r), .val (.int ok), .val (.int (0 : Int32)), .val (.int (1 : Int32)), .val (.int (12 : Int32)), .val (.int (r - (1 : Int32)))] []))
                  refine EndsK.go (fun _ kz => XS.iload X2.here hx rfl (hb hby at_210) rfl kz) ?_
                  show EndsK p e below _ (T2.setTop (mkF m 212 #[.val (.int i0), .val (.int i1), .val (.int i2), .val (.int i3), .val (.int v4), .val (.int v5), .val (.int v6), .val (.int r), .val (.int ok), .val (.int (0 : Int32)), .val (.int (1 : Int32)), .val (.int (12 : Int32)), .val (.int (r - (1 : Int32)))] [(.int (r - (1 : Int32)))]))
                  refine EndsK.go (fun _ kz => XS.iload X2.here hx rfl (hb hby at_212) rfl kz) ?_
                  show EndsK p e below _ (T2.setTop (mkF m 214 #[.val (.int i0), .val (.int i1), .val (.int i2), .val (.int i3), .val (.int v4), .val (.int v5), .val (.int v6), .val (.int r), .val (.int ok), .val (.int (0 : Int32)), .val (.int (1 : Int32)), .val (.int (12 : Int32)), .val (.int (r - (1 : Int32)))] [(.int (12 : Int32)), (.int (r - (1 : Int32)))]))
                  refine EndsK.go (fun _ kz => XS.idiv X2.here hx rfl (hb hby at_214) rfl (by decide) kz) ?_
                  show EndsK p e below _ (T2.setTop (mkF m 215 #[.val (.int i0), .val (.int i1), .val (.int i2), .val (.int i3), .val (.int v4), .val (.int v5), .val (.int v6), .val (.int r), .val (.int ok), .val (.int (0 : Int32)), .val (.int (1 : Int32)), .val (.int (12 : Int32)), .val (.int (r - (1 : Int32)))] [(.int ((r - (1 : Int32)) / (12 : Int32)))]))
                  refine EndsK.go (fun _ kz => XS.iload X2.here hx rfl (hb hby at_215) rfl kz) ?_
                  show EndsK p e below _ (T2.setTop (mkF m 217 #[.val (.int i0), .val (.int i1), .val (.int i2), .val (.int i3), .val (.int v4), .val (.int v5), .val (.int v6), .val (.int r), .val (.int ok), .val (.int (0 : Int32)), .val (.int (1 : Int32)), .val (.int (12 : Int32)), .val (.int (r - (1 : Int32)))] [(.int v5), (.int ((r - (1 : Int32)) / (12 : Int32)))]))
                  by_cases H217_11 : ((r - (1 : Int32)) / (12 : Int32)) = v5
                  · refine EndsK.go (fun _ kz => XS.icmpNo X2.here hx rfl (hb hby at_217) rfl (teq H217_11).2 kz) ?_
                    show EndsK p e below _ (T2.setTop (mkF m 220 #[.val (.int i0), .val (.int i1), .val (.int i2), .val (.int i3), .val (.int v4), .val (.int v5), .val (.int v6), .val (.int r), .val (.int ok), .val (.int (0 : Int32)), .val (.int (1 : Int32)), .val (.int (12 : Int32)), .val (.int (r - (1 : Int32)))] []))
                    refine EndsK.go (fun _ kz => XS.iconst X2.here hx rfl (hb hby at_220) kz) ?_
                    show EndsK p e below _ (T2.setTop (mkF m 221 #[.val (.int i0), .val (.int i1), .val (.int i2), .val (.int i3), .val (.int v4), .val (.int v5), .val (.int v6), .val (.int r), .val (.int ok), .val (.int (0 : Int32)), .val (.int (1 : Int32)), .val (.int (12 : Int32)), .val (.int (r - (1 : Int32)))] [(.int (1 : Int32))]))
                    refine EndsK.go (fun _ kz => XS.goto X2.here hx rfl (pc0 := 221) (pc' := 225) rfl (hb hby at_221) (by decide) (by decide) kz) ?_
                    show EndsK p e below _ (T2.setTop (mkF m 225 #[.val (.int i0), .val (.int i1), .val (.int i2), .val (.int i3), .val (.int v4), .val (.int v5), .val (.int v6), .val (.int r), .val (.int ok), .val (.int (0 : Int32)), .val (.int (1 : Int32)), .val (.int (12 : Int32)), .val (.int (r - (1 : Int32)))] [(.int (1 : Int32))]))
                    exact endN X2 hx (t := .boolean) Bd.returns (by simp) (hb hby at_225) hlk ⟨rfl, M2⟩ (by decide) (by decide)
                  · refine EndsK.go (fun _ kz => XS.icmpYes X2.here hx rfl (pc0 := 217) (pc' := 224) rfl (hb hby at_217) rfl (feq H217_11).2 (by decide) (by decide) kz) ?_
                    show EndsK p e below _ (T2.setTop (mkF m 224 #[.val (.int i0), .val (.int i1), .val (.int i2), .val (.int i3), .val (.int v4), .val (.int v5), .val (.int v6), .val (.int r), .val (.int ok), .val (.int (0 : Int32)), .val (.int (1 : Int32)), .val (.int (12 : Int32)), .val (.int (r - (1 : Int32)))] []))
                    refine EndsK.go (fun _ kz => XS.iconst X2.here hx rfl (hb hby at_224) kz) ?_
                    show EndsK p e below _ (T2.setTop (mkF m 225 #[.val (.int i0), .val (.int i1), .val (.int i2), .val (.int i3), .val (.int v4), .val (.int v5), .val (.int v6), .val (.int r), .val (.int ok), .val (.int (0 : Int32)), .val (.int (1 : Int32)), .val (.int (12 : Int32)), .val (.int (r - (1 : Int32)))] [(.int (0 : Int32))]))
                    exact endN X2 hx (t := .boolean) Bd.returns (by simp) (hb hby at_225) hlk (False.elim (by
                        have fz1 := rng32 r
                        have fz2 : ((0 : Int32)).toInt = 0 := rfl
                        have fz3 : ¬ ((r).toInt = ((0 : Int32)).toInt) := fun qz => H71_3 (Int32.toInt_inj.mp qz)
                        have fz4 := rng32 ok
                        have fz5 : ¬ ((ok).toInt = ((0 : Int32)).toInt) := fun qz => H87_5 (Int32.toInt_inj.mp qz)
                        have fz6 : ((1 : Int32)).toInt = 1 := rfl
                        have fz7 : ¬ ((r).toInt < ((1 : Int32)).toInt) := fun qz => H95_6 (Int32.lt_iff_toInt_lt.mpr qz)
                        have fz8 : ((256 : Int32)).toInt = 256 := rfl
                        have fz9 : (r).toInt < ((256 : Int32)).toInt := Int32.lt_iff_toInt_lt.mp H103_7
                        have fz10 : ((145 : Int32)).toInt = 145 := rfl
                        have fz11 : (r).toInt < ((145 : Int32)).toInt := Int32.lt_iff_toInt_lt.mp H113_8
                        have fz12 := rng32 v6
                        have fz13 : ((0 : Int32)).toInt = (v6).toInt := congrArg Int32.toInt H197_9
                        have fz14 : ((r - (1 : Int32))).toInt = (r).toInt - ((1 : Int32)).toInt := own_isub r (1 : Int32) (by omega) (by omega)
                        have fz15 : ((12 : Int32)).toInt = 12 := rfl
                        have fz16 := c_irem (r - (1 : Int32)) (12 : Int32) 12 rfl
                        have fz17 := rng32 v4
                        have fz18 : (((r - (1 : Int32)) % (12 : Int32))).toInt = (v4).toInt := congrArg Int32.toInt H207_10
                        have fz19 := c_idiv (r - (1 : Int32)) (12 : Int32) 12 rfl (by decide)
                        have fz20 := rng32 v5
                        have fz21 : ¬ ((((r - (1 : Int32)) / (12 : Int32))).toInt = (v5).toInt) := fun qz => H217_11 (Int32.toInt_inj.mp qz)
                        unfold Sh Enc at hS
                        unfold Enc at hE
                        omega)) (by decide) (by decide)
                · refine EndsK.go (fun _ kz => XS.icmpYes X2.here hx rfl (pc0 := 207) (pc' := 224) rfl (hb hby at_207) rfl (feq H207_10).2 (by decide) (by decide) kz) ?_
                  show EndsK p e below _ (T2.setTop (mkF m 224 #[.val (.int i0), .val (.int i1), .val (.int i2), .val (.int i3), .val (.int v4), .val (.int v5), .val (.int v6), .val (.int r), .val (.int ok), .val (.int (0 : Int32)), .val (.int (1 : Int32)), .val (.int (12 : Int32)), .val (.int (r - (1 : Int32)))] []))
                  refine EndsK.go (fun _ kz => XS.iconst X2.here hx rfl (hb hby at_224) kz) ?_
                  show EndsK p e below _ (T2.setTop (mkF m 225 #[.val (.int i0), .val (.int i1), .val (.int i2), .val (.int i3), .val (.int v4), .val (.int v5), .val (.int v6), .val (.int r), .val (.int ok), .val (.int (0 : Int32)), .val (.int (1 : Int32)), .val (.int (12 : Int32)), .val (.int (r - (1 : Int32)))] [(.int (0 : Int32))]))
                  exact endN X2 hx (t := .boolean) Bd.returns (by simp) (hb hby at_225) hlk (False.elim (by
                      have fz1 := rng32 r
                      have fz2 : ((0 : Int32)).toInt = 0 := rfl
                      have fz3 : ¬ ((r).toInt = ((0 : Int32)).toInt) := fun qz => H71_3 (Int32.toInt_inj.mp qz)
                      have fz4 := rng32 ok
                      have fz5 : ¬ ((ok).toInt = ((0 : Int32)).toInt) := fun qz => H87_5 (Int32.toInt_inj.mp qz)
                      have fz6 : ((1 : Int32)).toInt = 1 := rfl
                      have fz7 : ¬ ((r).toInt < ((1 : Int32)).toInt) := fun qz => H95_6 (Int32.lt_iff_toInt_lt.mpr qz)
                      have fz8 : ((256 : Int32)).toInt = 256 := rfl
                      have fz9 : (r).toInt < ((256 : Int32)).toInt := Int32.lt_iff_toInt_lt.mp H103_7
                      have fz10 : ((145 : Int32)).toInt = 145 := rfl
                      have fz11 : (r).toInt < ((145 : Int32)).toInt := Int32.lt_iff_toInt_lt.mp H113_8
                      have fz12 := rng32 v6
                      have fz13 : ((0 : Int32)).toInt = (v6).toInt := congrArg Int32.toInt H197_9
                      have fz14 : ((r - (1 : Int32))).toInt = (r).toInt - ((1 : Int32)).toInt := own_isub r (1 : Int32) (by omega) (by omega)
                      have fz15 : ((12 : Int32)).toInt = 12 := rfl
                      have fz16 := c_irem (r - (1 : Int32)) (12 : Int32) 12 rfl
                      have fz17 := rng32 v4
                      have fz18 : ¬ ((((r - (1 : Int32)) % (12 : Int32))).toInt = (v4).toInt) := fun qz => H207_10 (Int32.toInt_inj.mp qz)
                      have fz19 := rng32 v5
                      unfold Sh Enc at hS
                      unfold Enc at hE
                      omega)) (by decide) (by decide)
              · refine EndsK.go (fun _ kz => XS.icmpYes X2.here hx rfl (pc0 := 197) (pc' := 224) rfl (hb hby at_197) rfl (feq H197_9).2 (by decide) (by decide) kz) ?_
                show EndsK p e below _ (T2.setTop (mkF m 224 #[.val (.int i0), .val (.int i1), .val (.int i2), .val (.int i3), .val (.int v4), .val (.int v5), .val (.int v6), .val (.int r), .val (.int ok), .val (.int (0 : Int32)), .val (.int (1 : Int32)), .val (.int (12 : Int32)), .val (.int (r - (1 : Int32)))] []))
                refine EndsK.go (fun _ kz => XS.iconst X2.here hx rfl (hb hby at_224) kz) ?_
                show EndsK p e below _ (T2.setTop (mkF m 225 #[.val (.int i0), .val (.int i1), .val (.int i2), .val (.int i3), .val (.int v4), .val (.int v5), .val (.int v6), .val (.int r), .val (.int ok), .val (.int (0 : Int32)), .val (.int (1 : Int32)), .val (.int (12 : Int32)), .val (.int (r - (1 : Int32)))] [(.int (0 : Int32))]))
                exact endN X2 hx (t := .boolean) Bd.returns (by simp) (hb hby at_225) hlk (False.elim (by
                    have fz1 := rng32 r
                    have fz2 : ((0 : Int32)).toInt = 0 := rfl
                    have fz3 : ¬ ((r).toInt = ((0 : Int32)).toInt) := fun qz => H71_3 (Int32.toInt_inj.mp qz)
                    have fz4 := rng32 ok
                    have fz5 : ¬ ((ok).toInt = ((0 : Int32)).toInt) := fun qz => H87_5 (Int32.toInt_inj.mp qz)
                    have fz6 : ((1 : Int32)).toInt = 1 := rfl
                    have fz7 : ¬ ((r).toInt < ((1 : Int32)).toInt) := fun qz => H95_6 (Int32.lt_iff_toInt_lt.mpr qz)
                    have fz8 : ((256 : Int32)).toInt = 256 := rfl
                    have fz9 : (r).toInt < ((256 : Int32)).toInt := Int32.lt_iff_toInt_lt.mp H103_7
                    have fz10 : ((145 : Int32)).toInt = 145 := rfl
                    have fz11 : (r).toInt < ((145 : Int32)).toInt := Int32.lt_iff_toInt_lt.mp H113_8
                    have fz12 := rng32 v6
                    have fz13 : ¬ (((0 : Int32)).toInt = (v6).toInt) := fun qz => H197_9 (Int32.toInt_inj.mp qz)
                    have fz14 := rng32 v4
                    have fz15 := rng32 v5
                    unfold Sh Enc at hS
                    unfold Enc at hE
                    omega)) (by decide) (by decide)
            · refine EndsK.go (fun _ kz => XS.icmpYes X2.here hx rfl (pc0 := 113) (pc' := 120) rfl (hb hby at_113) rfl (flt H113_8).2.1 (by decide) (by decide) kz) ?_
              show EndsK p e below _ (T2.setTop (mkF m 120 #[.val (.int i0), .val (.int i1), .val (.int i2), .val (.int i3), .val (.int v4), .val (.int v5), .val (.int v6), .val (.int r), .val (.int ok), .unset, .unset, .unset, .unset] []))
              refine EndsK.go (fun _ kz => XS.iload X2.here hx rfl (hb hby at_120) rfl kz) ?_
              show EndsK p e below _ (T2.setTop (mkF m 122 #[.val (.int i0), .val (.int i1), .val (.int i2), .val (.int i3), .val (.int v4), .val (.int v5), .val (.int v6), .val (.int r), .val (.int ok), .unset, .unset, .unset, .unset] [(.int r)]))
              refine EndsK.go (fun _ kz => XS.sipush X2.here hx rfl (hb hby at_122) kz) ?_
              show EndsK p e below _ (T2.setTop (mkF m 125 #[.val (.int i0), .val (.int i1), .val (.int i2), .val (.int i3), .val (.int v4), .val (.int v5), .val (.int v6), .val (.int r), .val (.int ok), .unset, .unset, .unset, .unset] [(.int (209 : Int32)), (.int r)]))
              by_cases H125_12 : r < (209 : Int32)
              · refine EndsK.go (fun _ kz => XS.icmpNo X2.here hx rfl (hb hby at_125) rfl (tlt H125_12).2.1 kz) ?_
                show EndsK p e below _ (T2.setTop (mkF m 128 #[.val (.int i0), .val (.int i1), .val (.int i2), .val (.int i3), .val (.int v4), .val (.int v5), .val (.int v6), .val (.int r), .val (.int ok), .unset, .unset, .unset, .unset] []))
                refine EndsK.go (fun _ kz => XS.iconst X2.here hx rfl (hb hby at_128) kz) ?_
                show EndsK p e below _ (T2.setTop (mkF m 129 #[.val (.int i0), .val (.int i1), .val (.int i2), .val (.int i3), .val (.int v4), .val (.int v5), .val (.int v6), .val (.int r), .val (.int ok), .unset, .unset, .unset, .unset] [(.int (1 : Int32))]))
                refine EndsK.go (fun _ kz => XS.goto X2.here hx rfl (pc0 := 129) (pc' := 133) rfl (hb hby at_129) (by decide) (by decide) kz) ?_
                show EndsK p e below _ (T2.setTop (mkF m 133 #[.val (.int i0), .val (.int i1), .val (.int i2), .val (.int i3), .val (.int v4), .val (.int v5), .val (.int v6), .val (.int r), .val (.int ok), .unset, .unset, .unset, .unset] [(.int (1 : Int32))]))
                refine EndsK.go (fun _ kz => XS.istore X2.here hx rfl (hb hby at_133) rfl (l' := #[.val (.int i0), .val (.int i1), .val (.int i2), .val (.int i3), .val (.int v4), .val (.int v5), .val (.int v6), .val (.int r), .val (.int ok), .val (.int (1 : Int32)), .unset, .unset, .unset]) rfl kz) ?_
                show EndsK p e below _ (T2.setTop (mkF m 135 #[.val (.int i0), .val (.int i1), .val (.int i2), .val (.int i3), .val (.int v4), .val (.int v5), .val (.int v6), .val (.int r), .val (.int ok), .val (.int (1 : Int32)), .unset, .unset, .unset] []))
                refine EndsK.go (fun _ kz => XS.iload X2.here hx rfl (hb hby at_135) rfl kz) ?_
                show EndsK p e below _ (T2.setTop (mkF m 137 #[.val (.int i0), .val (.int i1), .val (.int i2), .val (.int i3), .val (.int v4), .val (.int v5), .val (.int v6), .val (.int r), .val (.int ok), .val (.int (1 : Int32)), .unset, .unset, .unset] [(.int (1 : Int32))]))
                refine EndsK.go (fun _ kz => XS.ifYes X2.here hx rfl (pc0 := 137) (pc' := 144) rfl (hb hby at_137) rfl ((if0 _ _).trans (feq (by decide : ¬ ((1 : Int32) = (0 : Int32)))).2) (by decide) (by decide) kz) ?_
                show EndsK p e below _ (T2.setTop (mkF m 144 #[.val (.int i0), .val (.int i1), .val (.int i2), .val (.int i3), .val (.int v4), .val (.int v5), .val (.int v6), .val (.int r), .val (.int ok), .val (.int (1 : Int32)), .unset, .unset, .unset] []))
                refine EndsK.go (fun _ kz => XS.iload X2.here hx rfl (hb hby at_144) rfl kz) ?_
                show EndsK p e below _ (T2.setTop (mkF m 146 #[.val (.int i0), .val (.int i1), .val (.int i2), .val (.int i3), .val (.int v4), .val (.int v5), .val (.int v6), .val (.int r), .val (.int ok), .val (.int (1 : Int32)), .unset, .unset, .unset] [(.int (1 : Int32))]))
                refine EndsK.go (fun _ kz => XS.iconst X2.here hx rfl (hb hby at_146) kz) ?_
                show EndsK p e below _ (T2.setTop (mkF m 147 #[.val (.int i0), .val (.int i1), .val (.int i2), .val (.int i3), .val (.int v4), .val (.int v5), .val (.int v6), .val (.int r), .val (.int ok), .val (.int (1 : Int32)), .unset, .unset, .unset] [(.int (1 : Int32)), (.int (1 : Int32))]))
                refine EndsK.go (fun _ kz => XS.icmpNo X2.here hx rfl (hb hby at_147) rfl (teq (rfl : (1 : Int32) = (1 : Int32))).2 kz) ?_
                show EndsK p e below _ (T2.setTop (mkF m 150 #[.val (.int i0), .val (.int i1), .val (.int i2), .val (.int i3), .val (.int v4), .val (.int v5), .val (.int v6), .val (.int r), .val (.int ok), .val (.int (1 : Int32)), .unset, .unset, .unset] []))
                refine EndsK.go (fun _ kz => XS.sipush X2.here hx rfl (hb hby at_150) kz) ?_
                show EndsK p e below _ (T2.setTop (mkF m 153 #[.val (.int i0), .val (.int i1), .val (.int i2), .val (.int i3), .val (.int v4), .val (.int v5), .val (.int v6), .val (.int r), .val (.int ok), .val (.int (1 : Int32)), .unset, .unset, .unset] [(.int (145 : Int32))]))
                refine EndsK.go (fun _ kz => XS.goto X2.here hx rfl (pc0 := 153) (pc' := 159) rfl (hb hby at_153) (by decide) (by decide) kz) ?_
                show EndsK p e below _ (T2.setTop (mkF m 159 #[.val (.int i0), .val (.int i1), .val (.int i2), .val (.int i3), .val (.int v4), .val (.int v5), .val (.int v6), .val (.int r), .val (.int ok), .val (.int (1 : Int32)), .unset, .unset, .unset] [(.int (145 : Int32))]))
                refine EndsK.go (fun _ kz => XS.istore X2.here hx rfl (hb hby at_159) rfl (l' := #[.val (.int i0), .val (.int i1), .val (.int i2), .val (.int i3), .val (.int v4), .val (.int v5), .val (.int v6), .val (.int r), .val (.int ok), .val (.int (1 : Int32)), .val (.int (145 : Int32)), .unset, .unset]) rfl kz) ?_
                show EndsK p e below _ (T2.setTop (mkF m 161 #[.val (.int i0), .val (.int i1), .val (.int i2), .val (.int i3), .val (.int v4), .val (.int v5), .val (.int v6), .val (.int r), .val (.int ok), .val (.int (1 : Int32)), .val (.int (145 : Int32)), .unset, .unset] []))
                refine EndsK.go (fun _ kz => XS.iload X2.here hx rfl (hb hby at_161) rfl kz) ?_
                show EndsK p e below _ (T2.setTop (mkF m 163 #[.val (.int i0), .val (.int i1), .val (.int i2), .val (.int i3), .val (.int v4), .val (.int v5), .val (.int v6), .val (.int r), .val (.int ok), .val (.int (1 : Int32)), .val (.int (145 : Int32)), .unset, .unset] [(.int (1 : Int32))]))
                refine EndsK.go (fun _ kz => XS.ifYes X2.here hx rfl (pc0 := 163) (pc' := 171) rfl (hb hby at_163) rfl ((if0 _ _).trans (feq (by decide : ¬ ((1 : Int32) = (0 : Int32)))).2) (by decide) (by decide) kz) ?_
                show EndsK p e below _ (T2.setTop (mkF m 171 #[.val (.int i0), .val (.int i1), .val (.int i2), .val (.int i3), .val (.int v4), .val (.int v5), .val (.int v6), .val (.int r), .val (.int ok), .val (.int (1 : Int32)), .val (.int (145 : Int32)), .unset, .unset] []))
                refine EndsK.go (fun _ kz => XS.iload X2.here hx rfl (hb hby at_171) rfl kz) ?_
                show EndsK p e below _ (T2.setTop (mkF m 173 #[.val (.int i0), .val (.int i1), .val (.int i2), .val (.int i3), .val (.int v4), .val (.int v5), .val (.int v6), .val (.int r), .val (.int ok), .val (.int (1 : Int32)), .val (.int (145 : Int32)), .unset, .unset] [(.int (1 : Int32))]))
                refine EndsK.go (fun _ kz => XS.iconst X2.here hx rfl (hb hby at_173) kz) ?_
                show EndsK p e below _ (T2.setTop (mkF m 174 #[.val (.int i0), .val (.int i1), .val (.int i2), .val (.int i3), .val (.int v4), .val (.int v5), .val (.int v6), .val (.int r), .val (.int ok), .val (.int (1 : Int32)), .val (.int (145 : Int32)), .unset, .unset] [(.int (1 : Int32)), (.int (1 : Int32))]))
                refine EndsK.go (fun _ kz => XS.icmpNo X2.here hx rfl (hb hby at_174) rfl (teq (rfl : (1 : Int32) = (1 : Int32))).2 kz) ?_
                show EndsK p e below _ (T2.setTop (mkF m 177 #[.val (.int i0), .val (.int i1), .val (.int i2), .val (.int i3), .val (.int v4), .val (.int v5), .val (.int v6), .val (.int r), .val (.int ok), .val (.int (1 : Int32)), .val (.int (145 : Int32)), .unset, .unset] []))
                refine EndsK.go (fun _ kz => XS.bipush X2.here hx rfl (hb hby at_177) kz) ?_
                show EndsK p e below _ (T2.setTop (mkF m 179 #[.val (.int i0), .val (.int i1), .val (.int i2), .val (.int i3), .val (.int v4), .val (.int v5), .val (.int v6), .val (.int r), .val (.int ok), .val (.int (1 : Int32)), .val (.int (145 : Int32)), .unset, .unset] [(.int (8 : Int32))]))
                refine EndsK.go (fun _ kz => XS.goto X2.here hx rfl (pc0 := 179) (pc' := 184) rfl (hb hby at_179) (by decide) (by decide) kz) ?_
                show EndsK p e below _ (T2.setTop (mkF m 184 #[.val (.int i0), .val (.int i1), .val (.int i2), .val (.int i3), .val (.int v4), .val (.int v5), .val (.int v6), .val (.int r), .val (.int ok), .val (.int (1 : Int32)), .val (.int (145 : Int32)), .unset, .unset] [(.int (8 : Int32))]))
                refine EndsK.go (fun _ kz => XS.istore X2.here hx rfl (hb hby at_184) rfl (l' := #[.val (.int i0), .val (.int i1), .val (.int i2), .val (.int i3), .val (.int v4), .val (.int v5), .val (.int v6), .val (.int r), .val (.int ok), .val (.int (1 : Int32)), .val (.int (145 : Int32)), .val (.int (8 : Int32)), .unset]) rfl kz) ?_
                show EndsK p e below _ (T2.setTop (mkF m 186 #[.val (.int i0), .val (.int i1), .val (.int i2), .val (.int i3), .val (.int v4), .val (.int v5), .val (.int v6), .val (.int r), .val (.int ok), .val (.int (1 : Int32)), .val (.int (145 : Int32)), .val (.int (8 : Int32)), .unset] []))
                refine EndsK.go (fun _ kz => XS.iload X2.here hx rfl (hb hby at_186) rfl kz) ?_
                show EndsK p e below _ (T2.setTop (mkF m 188 #[.val (.int i0), .val (.int i1), .val (.int i2), .val (.int i3), .val (.int v4), .val (.int v5), .val (.int v6), .val (.int r), .val (.int ok), .val (.int (1 : Int32)), .val (.int (145 : Int32)), .val (.int (8 : Int32)), .unset] [(.int r)]))
                refine EndsK.go (fun _ kz => XS.iload X2.here hx rfl (hb hby at_188) rfl kz) ?_
                show EndsK p e below _ (T2.setTop (mkF m 190 #[.val (.int i0), .val (.int i1), .val (.int i2), .val (.int i3), .val (.int v4), .val (.int v5), .val (.int v6), .val (.int r), .val (.int ok), .val (.int (1 : Int32)), .val (.int (145 : Int32)), .val (.int (8 : Int32)), .unset] [(.int (145 : Int32)), (.int r)]))
                refine EndsK.go (fun _ kz => XS.isub X2.here hx rfl (hb hby at_190) rfl kz) ?_
                show EndsK p e below _ (T2.setTop (mkF m 191 #[.val (.int i0), .val (.int i1), .val (.int i2), .val (.int i3), .val (.int v4), .val (.int v5), .val (.int v6), .val (.int r), .val (.int ok), .val (.int (1 : Int32)), .val (.int (145 : Int32)), .val (.int (8 : Int32)), .unset] [(.int (r - (145 : Int32)))]))
                refine EndsK.go (fun _ kz => XS.istore X2.here hx rfl (hb hby at_191) rfl (l' := #[.val (.int i0), .val (.int i1), .val (.int i2), .val (.int i3), .val (.int v4), .val (.int v5), .val (.int v6), .val (.int r), .val (.int ok), .val (.int (1 : Int32)), .val (.int (145 : Int32)), .val (.int (8 : Int32)), .val (.int (r - (145 : Int32)))]) rfl kz) ?_
                show EndsK p e below _ (T2.setTop (mkF m 193 #[.val (.int i0), .val (.int i1), .val (.int i2), .val (.int i3), .val (.int v4), .val (.int v5), .val (.int v6), .val (.int r), .val (.int ok), .val (.int (1 : Int32)), .val (.int (145 : Int32)), .val (.int (8 : Int32)), .val (.int (r - (145 : Int32)))] []))
                refine EndsK.go (fun _ kz => XS.iload X2.here hx rfl (hb hby at_193) rfl kz) ?_
                show EndsK p e below _ (T2.setTop (mkF m 195 #[.val (.int i0), .val (.int i1), .val (.int i2), .val (.int i3), .val (.int v4), .val (.int v5), .val (.int v6), .val (.int r), .val (.int ok), .val (.int (1 : Int32)), .val (.int (145 : Int32)), .val (.int (8 : Int32)), .val (.int (r - (145 : Int32)))] [(.int (1 : Int32))]))
                refine EndsK.go (fun _ kz => XS.iload X2.here hx rfl (hb hby at_195) rfl kz) ?_
                show EndsK p e below _ (T2.setTop (mkF m 197 #[.val (.int i0), .val (.int i1), .val (.int i2), .val (.int i3), .val (.int v4), .val (.int v5), .val (.int v6), .val (.int r), .val (.int ok), .val (.int (1 : Int32)), .val (.int (145 : Int32)), .val (.int (8 : Int32)), .val (.int (r - (145 : Int32)))] [(.int v6), (.int (1 : Int32))]))
                by_cases H197_13 : (1 : Int32) = v6
                · refine EndsK.go (fun _ kz => XS.icmpNo X2.here hx rfl (hb hby at_197) rfl (teq H197_13).2 kz) ?_
                  show EndsK p e below _ (T2.setTop (mkF m 200 #[.val (.int i0), .val (.int i1), .val (.int i2), .val (.int i3), .val (.int v4), .val (.int v5), .val (.int v6), .val (.int r), .val (.int ok), .val (.int (1 : Int32)), .val (.int (145 : Int32)), .val (.int (8 : Int32)), .val (.int (r - (145 : Int32)))] []))
                  refine EndsK.go (fun _ kz => XS.iload X2.here hx rfl (hb hby at_200) rfl kz) ?_
                  show EndsK p e below _ (T2.setTop (mkF m 202 #[.val (.int i0), .val (.int i1), .val (.int i2), .val (.int i3), .val (.int v4), .val (.int v5), .val (.int v6), .val (.int r), .val (.int ok), .val (.int (1 : Int32)), .val (.int (145 : Int32)), .val (.int (8 : Int32)), .val (.int (r - (145 : Int32)))] [(.int (r - (145 : Int32)))]))
                  refine EndsK.go (fun _ kz => XS.iload X2.here hx rfl (hb hby at_202) rfl kz) ?_
                  show EndsK p e below _ (T2.setTop (mkF m 204 #[.val (.int i0), .val (.int i1), .val (.int i2), .val (.int i3), .val (.int v4), .val (.int v5), .val (.int v6), .val (.int r), .val (.int ok), .val (.int (1 : Int32)), .val (.int (145 : Int32)), .val (.int (8 : Int32)), .val (.int (r - (145 : Int32)))] [(.int (8 : Int32)), (.int (r - (145 : Int32)))]))
                  refine EndsK.go (fun _ kz => iremM X2 hx rfl (hb hby at_204) rfl (by decide) kz) ?_
                  show EndsK p e below _ (T2.setTop (mkF m 205 #[.val (.int i0), .val (.int i1), .val (.int i2), .val (.int i3), .val (.int v4), .val (.int v5), .val (.int v6), .val (.int r), .val (.int ok), .val (.int (1 : Int32)), .val (.int (145 : Int32)), .val (.int (8 : Int32)), .val (.int (r - (145 : Int32)))] [(.int ((r - (145 : Int32)) % (8 : Int32)))]))
                  refine EndsK.go (fun _ kz => XS.iload X2.here hx rfl (hb hby at_205) rfl kz) ?_
                  show EndsK p e below _ (T2.setTop (mkF m 207 #[.val (.int i0), .val (.int i1), .val (.int i2), .val (.int i3), .val (.int v4), .val (.int v5), .val (.int v6), .val (.int r), .val (.int ok), .val (.int (1 : Int32)), .val (.int (145 : Int32)), .val (.int (8 : Int32)), .val (.int (r - (145 : Int32)))] [(.int v4), (.int ((r - (145 : Int32)) % (8 : Int32)))]))
                  by_cases H207_14 : ((r - (145 : Int32)) % (8 : Int32)) = v4
                  · refine EndsK.go (fun _ kz => XS.icmpNo X2.here hx rfl (hb hby at_207) rfl (teq H207_14).2 kz) ?_
                    show EndsK p e below _ (T2.setTop (mkF m 210 #[.val (.int i0), .val (.int i1), .val (.int i2), .val (.int i3), .val (.int v4), .val (.int v5), .val (.int v6), .val (.int r), .val (.int ok), .val (.int (1 : Int32)), .val (.int (145 : Int32)), .val (.int (8 : Int32)), .val (.int (r - (145 : Int32)))] []))
                    refine EndsK.go (fun _ kz => XS.iload X2.here hx rfl (hb hby at_210) rfl kz) ?_
                    show EndsK p e below _ (T2.setTop (mkF m 212 #[.val (.int i0), .val (.int i1), .val (.int i2), .val (.int i3), .val (.int v4), .val (.int v5), .val (.int v6), .val (.int r), .val (.int ok), .val (.int (1 : Int32)), .val (.int (145 : Int32)), .val (.int (8 : Int32)), .val (.int (r - (145 : Int32)))] [(.int (r - (145 : Int32)))]))
                    refine EndsK.go (fun _ kz => XS.iload X2.here hx rfl (hb hby at_212) rfl kz) ?_
                    show EndsK p e below _ (T2.setTop (mkF m 214 #[.val (.int i0), .val (.int i1), .val (.int i2), .val (.int i3), .val (.int v4), .val (.int v5), .val (.int v6), .val (.int r), .val (.int ok), .val (.int (1 : Int32)), .val (.int (145 : Int32)), .val (.int (8 : Int32)), .val (.int (r - (145 : Int32)))] [(.int (8 : Int32)), (.int (r - (145 : Int32)))]))
                    refine EndsK.go (fun _ kz => XS.idiv X2.here hx rfl (hb hby at_214) rfl (by decide) kz) ?_
                    show EndsK p e below _ (T2.setTop (mkF m 215 #[.val (.int i0), .val (.int i1), .val (.int i2), .val (.int i3), .val (.int v4), .val (.int v5), .val (.int v6), .val (.int r), .val (.int ok), .val (.int (1 : Int32)), .val (.int (145 : Int32)), .val (.int (8 : Int32)), .val (.int (r - (145 : Int32)))] [(.int ((r - (145 : Int32)) / (8 : Int32)))]))
                    refine EndsK.go (fun _ kz => XS.iload X2.here hx rfl (hb hby at_215) rfl kz) ?_
                    show EndsK p e below _ (T2.setTop (mkF m 217 #[.val (.int i0), .val (.int i1), .val (.int i2), .val (.int i3), .val (.int v4), .val (.int v5), .val (.int v6), .val (.int r), .val (.int ok), .val (.int (1 : Int32)), .val (.int (145 : Int32)), .val (.int (8 : Int32)), .val (.int (r - (145 : Int32)))] [(.int v5), (.int ((r - (145 : Int32)) / (8 : Int32)))]))
                    by_cases H217_15 : ((r - (145 : Int32)) / (8 : Int32)) = v5
                    · refine EndsK.go (fun _ kz => XS.icmpNo X2.here hx rfl (hb hby at_217) rfl (teq H217_15).2 kz) ?_
                      show EndsK p e below _ (T2.setTop (mkF m 220 #[.val (.int i0), .val (.int i1), .val (.int i2), .val (.int i3), .val (.int v4), .val (.int v5), .val (.int v6), .val (.int r), .val (.int ok), .val (.int (1 : Int32)), .val (.int (145 : Int32)), .val (.int (8 : Int32)), .val (.int (r - (145 : Int32)))] []))
                      refine EndsK.go (fun _ kz => XS.iconst X2.here hx rfl (hb hby at_220) kz) ?_
                      show EndsK p e below _ (T2.setTop (mkF m 221 #[.val (.int i0), .val (.int i1), .val (.int i2), .val (.int i3), .val (.int v4), .val (.int v5), .val (.int v6), .val (.int r), .val (.int ok), .val (.int (1 : Int32)), .val (.int (145 : Int32)), .val (.int (8 : Int32)), .val (.int (r - (145 : Int32)))] [(.int (1 : Int32))]))
                      refine EndsK.go (fun _ kz => XS.goto X2.here hx rfl (pc0 := 221) (pc' := 225) rfl (hb hby at_221) (by decide) (by decide) kz) ?_
                      show EndsK p e below _ (T2.setTop (mkF m 225 #[.val (.int i0), .val (.int i1), .val (.int i2), .val (.int i3), .val (.int v4), .val (.int v5), .val (.int v6), .val (.int r), .val (.int ok), .val (.int (1 : Int32)), .val (.int (145 : Int32)), .val (.int (8 : Int32)), .val (.int (r - (145 : Int32)))] [(.int (1 : Int32))]))
                      exact endN X2 hx (t := .boolean) Bd.returns (by simp) (hb hby at_225) hlk ⟨rfl, M2⟩ (by decide) (by decide)
                    · refine EndsK.go (fun _ kz => XS.icmpYes X2.here hx rfl (pc0 := 217) (pc' := 224) rfl (hb hby at_217) rfl (feq H217_15).2 (by decide) (by decide) kz) ?_
                      show EndsK p e below _ (T2.setTop (mkF m 224 #[.val (.int i0), .val (.int i1), .val (.int i2), .val (.int i3), .val (.int v4), .val (.int v5), .val (.int v6), .val (.int r), .val (.int ok), .val (.int (1 : Int32)), .val (.int (145 : Int32)), .val (.int (8 : Int32)), .val (.int (r - (145 : Int32)))] []))
                      refine EndsK.go (fun _ kz => XS.iconst X2.here hx rfl (hb hby at_224) kz) ?_
                      show EndsK p e below _ (T2.setTop (mkF m 225 #[.val (.int i0), .val (.int i1), .val (.int i2), .val (.int i3), .val (.int v4), .val (.int v5), .val (.int v6), .val (.int r), .val (.int ok), .val (.int (1 : Int32)), .val (.int (145 : Int32)), .val (.int (8 : Int32)), .val (.int (r - (145 : Int32)))] [(.int (0 : Int32))]))
                      exact endN X2 hx (t := .boolean) Bd.returns (by simp) (hb hby at_225) hlk (False.elim (by
                          have fz1 := rng32 r
                          have fz2 : ((0 : Int32)).toInt = 0 := rfl
                          have fz3 : ¬ ((r).toInt = ((0 : Int32)).toInt) := fun qz => H71_3 (Int32.toInt_inj.mp qz)
                          have fz4 := rng32 ok
                          have fz5 : ¬ ((ok).toInt = ((0 : Int32)).toInt) := fun qz => H87_5 (Int32.toInt_inj.mp qz)
                          have fz6 : ((1 : Int32)).toInt = 1 := rfl
                          have fz7 : ¬ ((r).toInt < ((1 : Int32)).toInt) := fun qz => H95_6 (Int32.lt_iff_toInt_lt.mpr qz)
                          have fz8 : ((256 : Int32)).toInt = 256 := rfl
                          have fz9 : (r).toInt < ((256 : Int32)).toInt := Int32.lt_iff_toInt_lt.mp H103_7
                          have fz10 : ((145 : Int32)).toInt = 145 := rfl
                          have fz11 : ¬ ((r).toInt < ((145 : Int32)).toInt) := fun qz => H113_8 (Int32.lt_iff_toInt_lt.mpr qz)
                          have fz12 : ((209 : Int32)).toInt = 209 := rfl
                          have fz13 : (r).toInt < ((209 : Int32)).toInt := Int32.lt_iff_toInt_lt.mp H125_12
                          have fz14 := rng32 v6
                          have fz15 : ((1 : Int32)).toInt = (v6).toInt := congrArg Int32.toInt H197_13
                          have fz16 : ((r - (145 : Int32))).toInt = (r).toInt - ((145 : Int32)).toInt := own_isub r (145 : Int32) (by omega) (by omega)
                          have fz17 : ((8 : Int32)).toInt = 8 := rfl
                          have fz18 := c_irem (r - (145 : Int32)) (8 : Int32) 8 rfl
                          have fz19 := rng32 v4
                          have fz20 : (((r - (145 : Int32)) % (8 : Int32))).toInt = (v4).toInt := congrArg Int32.toInt H207_14
                          have fz21 := c_idiv (r - (145 : Int32)) (8 : Int32) 8 rfl (by decide)
                          have fz22 := rng32 v5
                          have fz23 : ¬ ((((r - (145 : Int32)) / (8 : Int32))).toInt = (v5).toInt) := fun qz => H217_15 (Int32.toInt_inj.mp qz)
                          unfold Sh Enc at hS
                          unfold Enc at hE
                          omega)) (by decide) (by decide)
                  · refine EndsK.go (fun _ kz => XS.icmpYes X2.here hx rfl (pc0 := 207) (pc' := 224) rfl (hb hby at_207) rfl (feq H207_14).2 (by decide) (by decide) kz) ?_
                    show EndsK p e below _ (T2.setTop (mkF m 224 #[.val (.int i0), .val (.int i1), .val (.int i2), .val (.int i3), .val (.int v4), .val (.int v5), .val (.int v6), .val (.int r), .val (.int ok), .val (.int (1 : Int32)), .val (.int (145 : Int32)), .val (.int (8 : Int32)), .val (.int (r - (145 : Int32)))] []))
                    refine EndsK.go (fun _ kz => XS.iconst X2.here hx rfl (hb hby at_224) kz) ?_
                    show EndsK p e below _ (T2.setTop (mkF m 225 #[.val (.int i0), .val (.int i1), .val (.int i2), .val (.int i3), .val (.int v4), .val (.int v5), .val (.int v6), .val (.int r), .val (.int ok), .val (.int (1 : Int32)), .val (.int (145 : Int32)), .val (.int (8 : Int32)), .val (.int (r - (145 : Int32)))] [(.int (0 : Int32))]))
                    exact endN X2 hx (t := .boolean) Bd.returns (by simp) (hb hby at_225) hlk (False.elim (by
                        have fz1 := rng32 r
                        have fz2 : ((0 : Int32)).toInt = 0 := rfl
                        have fz3 : ¬ ((r).toInt = ((0 : Int32)).toInt) := fun qz => H71_3 (Int32.toInt_inj.mp qz)
                        have fz4 := rng32 ok
                        have fz5 : ¬ ((ok).toInt = ((0 : Int32)).toInt) := fun qz => H87_5 (Int32.toInt_inj.mp qz)
                        have fz6 : ((1 : Int32)).toInt = 1 := rfl
                        have fz7 : ¬ ((r).toInt < ((1 : Int32)).toInt) := fun qz => H95_6 (Int32.lt_iff_toInt_lt.mpr qz)
                        have fz8 : ((256 : Int32)).toInt = 256 := rfl
                        have fz9 : (r).toInt < ((256 : Int32)).toInt := Int32.lt_iff_toInt_lt.mp H103_7
                        have fz10 : ((145 : Int32)).toInt = 145 := rfl
                        have fz11 : ¬ ((r).toInt < ((145 : Int32)).toInt) := fun qz => H113_8 (Int32.lt_iff_toInt_lt.mpr qz)
                        have fz12 : ((209 : Int32)).toInt = 209 := rfl
                        have fz13 : (r).toInt < ((209 : Int32)).toInt := Int32.lt_iff_toInt_lt.mp H125_12
                        have fz14 := rng32 v6
                        have fz15 : ((1 : Int32)).toInt = (v6).toInt := congrArg Int32.toInt H197_13
                        have fz16 : ((r - (145 : Int32))).toInt = (r).toInt - ((145 : Int32)).toInt := own_isub r (145 : Int32) (by omega) (by omega)
                        have fz17 : ((8 : Int32)).toInt = 8 := rfl
                        have fz18 := c_irem (r - (145 : Int32)) (8 : Int32) 8 rfl
                        have fz19 := rng32 v4
                        have fz20 : ¬ ((((r - (145 : Int32)) % (8 : Int32))).toInt = (v4).toInt) := fun qz => H207_14 (Int32.toInt_inj.mp qz)
                        have fz21 := rng32 v5
                        unfold Sh Enc at hS
                        unfold Enc at hE
                        omega)) (by decide) (by decide)
                · refine EndsK.go (fun _ kz => XS.icmpYes X2.here hx rfl (pc0 := 197) (pc' := 224) rfl (hb hby at_197) rfl (feq H197_13).2 (by decide) (by decide) kz) ?_
                  show EndsK p e below _ (T2.setTop (mkF m 224 #[.val (.int i0), .val (.int i1), .val (.int i2), .val (.int i3), .val (.int v4), .val (.int v5), .val (.int v6), .val (.int r), .val (.int ok), .val (.int (1 : Int32)), .val (.int (145 : Int32)), .val (.int (8 : Int32)), .val (.int (r - (145 : Int32)))] []))
                  refine EndsK.go (fun _ kz => XS.iconst X2.here hx rfl (hb hby at_224) kz) ?_
                  show EndsK p e below _ (T2.setTop (mkF m 225 #[.val (.int i0), .val (.int i1), .val (.int i2), .val (.int i3), .val (.int v4), .val (.int v5), .val (.int v6), .val (.int r), .val (.int ok), .val (.int (1 : Int32)), .val (.int (145 : Int32)), .val (.int (8 : Int32)), .val (.int (r - (145 : Int32)))] [(.int (0 : Int32))]))
                  exact endN X2 hx (t := .boolean) Bd.returns (by simp) (hb hby at_225) hlk (False.elim (by
                      have fz1 := rng32 r
                      have fz2 : ((0 : Int32)).toInt = 0 := rfl
                      have fz3 : ¬ ((r).toInt = ((0 : Int32)).toInt) := fun qz => H71_3 (Int32.toInt_inj.mp qz)
                      have fz4 := rng32 ok
                      have fz5 : ¬ ((ok).toInt = ((0 : Int32)).toInt) := fun qz => H87_5 (Int32.toInt_inj.mp qz)
                      have fz6 : ((1 : Int32)).toInt = 1 := rfl
                      have fz7 : ¬ ((r).toInt < ((1 : Int32)).toInt) := fun qz => H95_6 (Int32.lt_iff_toInt_lt.mpr qz)
                      have fz8 : ((256 : Int32)).toInt = 256 := rfl
                      have fz9 : (r).toInt < ((256 : Int32)).toInt := Int32.lt_iff_toInt_lt.mp H103_7
                      have fz10 : ((145 : Int32)).toInt = 145 := rfl
                      have fz11 : ¬ ((r).toInt < ((145 : Int32)).toInt) := fun qz => H113_8 (Int32.lt_iff_toInt_lt.mpr qz)
                      have fz12 : ((209 : Int32)).toInt = 209 := rfl
                      have fz13 : (r).toInt < ((209 : Int32)).toInt := Int32.lt_iff_toInt_lt.mp H125_12
                      have fz14 := rng32 v6
                      have fz15 : ¬ (((1 : Int32)).toInt = (v6).toInt) := fun qz => H197_13 (Int32.toInt_inj.mp qz)
                      have fz16 := rng32 v4
                      have fz17 := rng32 v5
                      unfold Sh Enc at hS
                      unfold Enc at hE
                      omega)) (by decide) (by decide)
              · refine EndsK.go (fun _ kz => XS.icmpYes X2.here hx rfl (pc0 := 125) (pc' := 132) rfl (hb hby at_125) rfl (flt H125_12).2.1 (by decide) (by decide) kz) ?_
                show EndsK p e below _ (T2.setTop (mkF m 132 #[.val (.int i0), .val (.int i1), .val (.int i2), .val (.int i3), .val (.int v4), .val (.int v5), .val (.int v6), .val (.int r), .val (.int ok), .unset, .unset, .unset, .unset] []))
                refine EndsK.go (fun _ kz => XS.iconst X2.here hx rfl (hb hby at_132) kz) ?_
                show EndsK p e below _ (T2.setTop (mkF m 133 #[.val (.int i0), .val (.int i1), .val (.int i2), .val (.int i3), .val (.int v4), .val (.int v5), .val (.int v6), .val (.int r), .val (.int ok), .unset, .unset, .unset, .unset] [(.int (2 : Int32))]))
                refine EndsK.go (fun _ kz => XS.istore X2.here hx rfl (hb hby at_133) rfl (l' := #[.val (.int i0), .val (.int i1), .val (.int i2), .val (.int i3), .val (.int v4), .val (.int v5), .val (.int v6), .val (.int r), .val (.int ok), .val (.int (2 : Int32)), .unset, .unset, .unset]) rfl kz) ?_
                show EndsK p e below _ (T2.setTop (mkF m 135 #[.val (.int i0), .val (.int i1), .val (.int i2), .val (.int i3), .val (.int v4), .val (.int v5), .val (.int v6), .val (.int r), .val (.int ok), .val (.int (2 : Int32)), .unset, .unset, .unset] []))
                refine EndsK.go (fun _ kz => XS.iload X2.here hx rfl (hb hby at_135) rfl kz) ?_
                show EndsK p e below _ (T2.setTop (mkF m 137 #[.val (.int i0), .val (.int i1), .val (.int i2), .val (.int i3), .val (.int v4), .val (.int v5), .val (.int v6), .val (.int r), .val (.int ok), .val (.int (2 : Int32)), .unset, .unset, .unset] [(.int (2 : Int32))]))
                refine EndsK.go (fun _ kz => XS.ifYes X2.here hx rfl (pc0 := 137) (pc' := 144) rfl (hb hby at_137) rfl ((if0 _ _).trans (feq (by decide : ¬ ((2 : Int32) = (0 : Int32)))).2) (by decide) (by decide) kz) ?_
                show EndsK p e below _ (T2.setTop (mkF m 144 #[.val (.int i0), .val (.int i1), .val (.int i2), .val (.int i3), .val (.int v4), .val (.int v5), .val (.int v6), .val (.int r), .val (.int ok), .val (.int (2 : Int32)), .unset, .unset, .unset] []))
                refine EndsK.go (fun _ kz => XS.iload X2.here hx rfl (hb hby at_144) rfl kz) ?_
                show EndsK p e below _ (T2.setTop (mkF m 146 #[.val (.int i0), .val (.int i1), .val (.int i2), .val (.int i3), .val (.int v4), .val (.int v5), .val (.int v6), .val (.int r), .val (.int ok), .val (.int (2 : Int32)), .unset, .unset, .unset] [(.int (2 : Int32))]))
                refine EndsK.go (fun _ kz => XS.iconst X2.here hx rfl (hb hby at_146) kz) ?_
                show EndsK p e below _ (T2.setTop (mkF m 147 #[.val (.int i0), .val (.int i1), .val (.int i2), .val (.int i3), .val (.int v4), .val (.int v5), .val (.int v6), .val (.int r), .val (.int ok), .val (.int (2 : Int32)), .unset, .unset, .unset] [(.int (1 : Int32)), (.int (2 : Int32))]))
                refine EndsK.go (fun _ kz => XS.icmpYes X2.here hx rfl (pc0 := 147) (pc' := 156) rfl (hb hby at_147) rfl (feq (by decide : ¬ ((2 : Int32) = (1 : Int32)))).2 (by decide) (by decide) kz) ?_
                show EndsK p e below _ (T2.setTop (mkF m 156 #[.val (.int i0), .val (.int i1), .val (.int i2), .val (.int i3), .val (.int v4), .val (.int v5), .val (.int v6), .val (.int r), .val (.int ok), .val (.int (2 : Int32)), .unset, .unset, .unset] []))
                refine EndsK.go (fun _ kz => XS.sipush X2.here hx rfl (hb hby at_156) kz) ?_
                show EndsK p e below _ (T2.setTop (mkF m 159 #[.val (.int i0), .val (.int i1), .val (.int i2), .val (.int i3), .val (.int v4), .val (.int v5), .val (.int v6), .val (.int r), .val (.int ok), .val (.int (2 : Int32)), .unset, .unset, .unset] [(.int (209 : Int32))]))
                refine EndsK.go (fun _ kz => XS.istore X2.here hx rfl (hb hby at_159) rfl (l' := #[.val (.int i0), .val (.int i1), .val (.int i2), .val (.int i3), .val (.int v4), .val (.int v5), .val (.int v6), .val (.int r), .val (.int ok), .val (.int (2 : Int32)), .val (.int (209 : Int32)), .unset, .unset]) rfl kz) ?_
                show EndsK p e below _ (T2.setTop (mkF m 161 #[.val (.int i0), .val (.int i1), .val (.int i2), .val (.int i3), .val (.int v4), .val (.int v5), .val (.int v6), .val (.int r), .val (.int ok), .val (.int (2 : Int32)), .val (.int (209 : Int32)), .unset, .unset] []))
                refine EndsK.go (fun _ kz => XS.iload X2.here hx rfl (hb hby at_161) rfl kz) ?_
                show EndsK p e below _ (T2.setTop (mkF m 163 #[.val (.int i0), .val (.int i1), .val (.int i2), .val (.int i3), .val (.int v4), .val (.int v5), .val (.int v6), .val (.int r), .val (.int ok), .val (.int (2 : Int32)), .val (.int (209 : Int32)), .unset, .unset] [(.int (2 : Int32))]))
                refine EndsK.go (fun _ kz => XS.ifYes X2.here hx rfl (pc0 := 163) (pc' := 171) rfl (hb hby at_163) rfl ((if0 _ _).trans (feq (by decide : ¬ ((2 : Int32) = (0 : Int32)))).2) (by decide) (by decide) kz) ?_
                show EndsK p e below _ (T2.setTop (mkF m 171 #[.val (.int i0), .val (.int i1), .val (.int i2), .val (.int i3), .val (.int v4), .val (.int v5), .val (.int v6), .val (.int r), .val (.int ok), .val (.int (2 : Int32)), .val (.int (209 : Int32)), .unset, .unset] []))
                refine EndsK.go (fun _ kz => XS.iload X2.here hx rfl (hb hby at_171) rfl kz) ?_
                show EndsK p e below _ (T2.setTop (mkF m 173 #[.val (.int i0), .val (.int i1), .val (.int i2), .val (.int i3), .val (.int v4), .val (.int v5), .val (.int v6), .val (.int r), .val (.int ok), .val (.int (2 : Int32)), .val (.int (209 : Int32)), .unset, .unset] [(.int (2 : Int32))]))
                refine EndsK.go (fun _ kz => XS.iconst X2.here hx rfl (hb hby at_173) kz) ?_
                show EndsK p e below _ (T2.setTop (mkF m 174 #[.val (.int i0), .val (.int i1), .val (.int i2), .val (.int i3), .val (.int v4), .val (.int v5), .val (.int v6), .val (.int r), .val (.int ok), .val (.int (2 : Int32)), .val (.int (209 : Int32)), .unset, .unset] [(.int (1 : Int32)), (.int (2 : Int32))]))
                refine EndsK.go (fun _ kz => XS.icmpYes X2.here hx rfl (pc0 := 174) (pc' := 182) rfl (hb hby at_174) rfl (feq (by decide : ¬ ((2 : Int32) = (1 : Int32)))).2 (by decide) (by decide) kz) ?_
                show EndsK p e below _ (T2.setTop (mkF m 182 #[.val (.int i0), .val (.int i1), .val (.int i2), .val (.int i3), .val (.int v4), .val (.int v5), .val (.int v6), .val (.int r), .val (.int ok), .val (.int (2 : Int32)), .val (.int (209 : Int32)), .unset, .unset] []))
                refine EndsK.go (fun _ kz => XS.bipush X2.here hx rfl (hb hby at_182) kz) ?_
                show EndsK p e below _ (T2.setTop (mkF m 184 #[.val (.int i0), .val (.int i1), .val (.int i2), .val (.int i3), .val (.int v4), .val (.int v5), .val (.int v6), .val (.int r), .val (.int ok), .val (.int (2 : Int32)), .val (.int (209 : Int32)), .unset, .unset] [(.int (7 : Int32))]))
                refine EndsK.go (fun _ kz => XS.istore X2.here hx rfl (hb hby at_184) rfl (l' := #[.val (.int i0), .val (.int i1), .val (.int i2), .val (.int i3), .val (.int v4), .val (.int v5), .val (.int v6), .val (.int r), .val (.int ok), .val (.int (2 : Int32)), .val (.int (209 : Int32)), .val (.int (7 : Int32)), .unset]) rfl kz) ?_
                show EndsK p e below _ (T2.setTop (mkF m 186 #[.val (.int i0), .val (.int i1), .val (.int i2), .val (.int i3), .val (.int v4), .val (.int v5), .val (.int v6), .val (.int r), .val (.int ok), .val (.int (2 : Int32)), .val (.int (209 : Int32)), .val (.int (7 : Int32)), .unset] []))
                refine EndsK.go (fun _ kz => XS.iload X2.here hx rfl (hb hby at_186) rfl kz) ?_
                show EndsK p e below _ (T2.setTop (mkF m 188 #[.val (.int i0), .val (.int i1), .val (.int i2), .val (.int i3), .val (.int v4), .val (.int v5), .val (.int v6), .val (.int r), .val (.int ok), .val (.int (2 : Int32)), .val (.int (209 : Int32)), .val (.int (7 : Int32)), .unset] [(.int r)]))
                refine EndsK.go (fun _ kz => XS.iload X2.here hx rfl (hb hby at_188) rfl kz) ?_
                show EndsK p e below _ (T2.setTop (mkF m 190 #[.val (.int i0), .val (.int i1), .val (.int i2), .val (.int i3), .val (.int v4), .val (.int v5), .val (.int v6), .val (.int r), .val (.int ok), .val (.int (2 : Int32)), .val (.int (209 : Int32)), .val (.int (7 : Int32)), .unset] [(.int (209 : Int32)), (.int r)]))
                refine EndsK.go (fun _ kz => XS.isub X2.here hx rfl (hb hby at_190) rfl kz) ?_
                show EndsK p e below _ (T2.setTop (mkF m 191 #[.val (.int i0), .val (.int i1), .val (.int i2), .val (.int i3), .val (.int v4), .val (.int v5), .val (.int v6), .val (.int r), .val (.int ok), .val (.int (2 : Int32)), .val (.int (209 : Int32)), .val (.int (7 : Int32)), .unset] [(.int (r - (209 : Int32)))]))
                refine EndsK.go (fun _ kz => XS.istore X2.here hx rfl (hb hby at_191) rfl (l' := #[.val (.int i0), .val (.int i1), .val (.int i2), .val (.int i3), .val (.int v4), .val (.int v5), .val (.int v6), .val (.int r), .val (.int ok), .val (.int (2 : Int32)), .val (.int (209 : Int32)), .val (.int (7 : Int32)), .val (.int (r - (209 : Int32)))]) rfl kz) ?_
                show EndsK p e below _ (T2.setTop (mkF m 193 #[.val (.int i0), .val (.int i1), .val (.int i2), .val (.int i3), .val (.int v4), .val (.int v5), .val (.int v6), .val (.int r), .val (.int ok), .val (.int (2 : Int32)), .val (.int (209 : Int32)), .val (.int (7 : Int32)), .val (.int (r - (209 : Int32)))] []))
                refine EndsK.go (fun _ kz => XS.iload X2.here hx rfl (hb hby at_193) rfl kz) ?_
                show EndsK p e below _ (T2.setTop (mkF m 195 #[.val (.int i0), .val (.int i1), .val (.int i2), .val (.int i3), .val (.int v4), .val (.int v5), .val (.int v6), .val (.int r), .val (.int ok), .val (.int (2 : Int32)), .val (.int (209 : Int32)), .val (.int (7 : Int32)), .val (.int (r - (209 : Int32)))] [(.int (2 : Int32))]))
                refine EndsK.go (fun _ kz => XS.iload X2.here hx rfl (hb hby at_195) rfl kz) ?_
                show EndsK p e below _ (T2.setTop (mkF m 197 #[.val (.int i0), .val (.int i1), .val (.int i2), .val (.int i3), .val (.int v4), .val (.int v5), .val (.int v6), .val (.int r), .val (.int ok), .val (.int (2 : Int32)), .val (.int (209 : Int32)), .val (.int (7 : Int32)), .val (.int (r - (209 : Int32)))] [(.int v6), (.int (2 : Int32))]))
                by_cases H197_16 : (2 : Int32) = v6
                · refine EndsK.go (fun _ kz => XS.icmpNo X2.here hx rfl (hb hby at_197) rfl (teq H197_16).2 kz) ?_
                  show EndsK p e below _ (T2.setTop (mkF m 200 #[.val (.int i0), .val (.int i1), .val (.int i2), .val (.int i3), .val (.int v4), .val (.int v5), .val (.int v6), .val (.int r), .val (.int ok), .val (.int (2 : Int32)), .val (.int (209 : Int32)), .val (.int (7 : Int32)), .val (.int (r - (209 : Int32)))] []))
                  refine EndsK.go (fun _ kz => XS.iload X2.here hx rfl (hb hby at_200) rfl kz) ?_
                  show EndsK p e below _ (T2.setTop (mkF m 202 #[.val (.int i0), .val (.int i1), .val (.int i2), .val (.int i3), .val (.int v4), .val (.int v5), .val (.int v6), .val (.int r), .val (.int ok), .val (.int (2 : Int32)), .val (.int (209 : Int32)), .val (.int (7 : Int32)), .val (.int (r - (209 : Int32)))] [(.int (r - (209 : Int32)))]))
                  refine EndsK.go (fun _ kz => XS.iload X2.here hx rfl (hb hby at_202) rfl kz) ?_
                  show EndsK p e below _ (T2.setTop (mkF m 204 #[.val (.int i0), .val (.int i1), .val (.int i2), .val (.int i3), .val (.int v4), .val (.int v5), .val (.int v6), .val (.int r), .val (.int ok), .val (.int (2 : Int32)), .val (.int (209 : Int32)), .val (.int (7 : Int32)), .val (.int (r - (209 : Int32)))] [(.int (7 : Int32)), (.int (r - (209 : Int32)))]))
                  refine EndsK.go (fun _ kz => iremM X2 hx rfl (hb hby at_204) rfl (by decide) kz) ?_
                  show EndsK p e below _ (T2.setTop (mkF m 205 #[.val (.int i0), .val (.int i1), .val (.int i2), .val (.int i3), .val (.int v4), .val (.int v5), .val (.int v6), .val (.int r), .val (.int ok), .val (.int (2 : Int32)), .val (.int (209 : Int32)), .val (.int (7 : Int32)), .val (.int (r - (209 : Int32)))] [(.int ((r - (209 : Int32)) % (7 : Int32)))]))
                  refine EndsK.go (fun _ kz => XS.iload X2.here hx rfl (hb hby at_205) rfl kz) ?_
                  show EndsK p e below _ (T2.setTop (mkF m 207 #[.val (.int i0), .val (.int i1), .val (.int i2), .val (.int i3), .val (.int v4), .val (.int v5), .val (.int v6), .val (.int r), .val (.int ok), .val (.int (2 : Int32)), .val (.int (209 : Int32)), .val (.int (7 : Int32)), .val (.int (r - (209 : Int32)))] [(.int v4), (.int ((r - (209 : Int32)) % (7 : Int32)))]))
                  by_cases H207_17 : ((r - (209 : Int32)) % (7 : Int32)) = v4
                  · refine EndsK.go (fun _ kz => XS.icmpNo X2.here hx rfl (hb hby at_207) rfl (teq H207_17).2 kz) ?_
                    show EndsK p e below _ (T2.setTop (mkF m 210 #[.val (.int i0), .val (.int i1), .val (.int i2), .val (.int i3), .val (.int v4), .val (.int v5), .val (.int v6), .val (.int r), .val (.int ok), .val (.int (2 : Int32)), .val (.int (209 : Int32)), .val (.int (7 : Int32)), .val (.int (r - (209 : Int32)))] []))
                    refine EndsK.go (fun _ kz => XS.iload X2.here hx rfl (hb hby at_210) rfl kz) ?_
                    show EndsK p e below _ (T2.setTop (mkF m 212 #[.val (.int i0), .val (.int i1), .val (.int i2), .val (.int i3), .val (.int v4), .val (.int v5), .val (.int v6), .val (.int r), .val (.int ok), .val (.int (2 : Int32)), .val (.int (209 : Int32)), .val (.int (7 : Int32)), .val (.int (r - (209 : Int32)))] [(.int (r - (209 : Int32)))]))
                    refine EndsK.go (fun _ kz => XS.iload X2.here hx rfl (hb hby at_212) rfl kz) ?_
                    show EndsK p e below _ (T2.setTop (mkF m 214 #[.val (.int i0), .val (.int i1), .val (.int i2), .val (.int i3), .val (.int v4), .val (.int v5), .val (.int v6), .val (.int r), .val (.int ok), .val (.int (2 : Int32)), .val (.int (209 : Int32)), .val (.int (7 : Int32)), .val (.int (r - (209 : Int32)))] [(.int (7 : Int32)), (.int (r - (209 : Int32)))]))
                    refine EndsK.go (fun _ kz => XS.idiv X2.here hx rfl (hb hby at_214) rfl (by decide) kz) ?_
                    show EndsK p e below _ (T2.setTop (mkF m 215 #[.val (.int i0), .val (.int i1), .val (.int i2), .val (.int i3), .val (.int v4), .val (.int v5), .val (.int v6), .val (.int r), .val (.int ok), .val (.int (2 : Int32)), .val (.int (209 : Int32)), .val (.int (7 : Int32)), .val (.int (r - (209 : Int32)))] [(.int ((r - (209 : Int32)) / (7 : Int32)))]))
                    refine EndsK.go (fun _ kz => XS.iload X2.here hx rfl (hb hby at_215) rfl kz) ?_
                    show EndsK p e below _ (T2.setTop (mkF m 217 #[.val (.int i0), .val (.int i1), .val (.int i2), .val (.int i3), .val (.int v4), .val (.int v5), .val (.int v6), .val (.int r), .val (.int ok), .val (.int (2 : Int32)), .val (.int (209 : Int32)), .val (.int (7 : Int32)), .val (.int (r - (209 : Int32)))] [(.int v5), (.int ((r - (209 : Int32)) / (7 : Int32)))]))
                    by_cases H217_18 : ((r - (209 : Int32)) / (7 : Int32)) = v5
                    · refine EndsK.go (fun _ kz => XS.icmpNo X2.here hx rfl (hb hby at_217) rfl (teq H217_18).2 kz) ?_
                      show EndsK p e below _ (T2.setTop (mkF m 220 #[.val (.int i0), .val (.int i1), .val (.int i2), .val (.int i3), .val (.int v4), .val (.int v5), .val (.int v6), .val (.int r), .val (.int ok), .val (.int (2 : Int32)), .val (.int (209 : Int32)), .val (.int (7 : Int32)), .val (.int (r - (209 : Int32)))] []))
                      refine EndsK.go (fun _ kz => XS.iconst X2.here hx rfl (hb hby at_220) kz) ?_
                      show EndsK p e below _ (T2.setTop (mkF m 221 #[.val (.int i0), .val (.int i1), .val (.int i2), .val (.int i3), .val (.int v4), .val (.int v5), .val (.int v6), .val (.int r), .val (.int ok), .val (.int (2 : Int32)), .val (.int (209 : Int32)), .val (.int (7 : Int32)), .val (.int (r - (209 : Int32)))] [(.int (1 : Int32))]))
                      refine EndsK.go (fun _ kz => XS.goto X2.here hx rfl (pc0 := 221) (pc' := 225) rfl (hb hby at_221) (by decide) (by decide) kz) ?_
                      show EndsK p e below _ (T2.setTop (mkF m 225 #[.val (.int i0), .val (.int i1), .val (.int i2), .val (.int i3), .val (.int v4), .val (.int v5), .val (.int v6), .val (.int r), .val (.int ok), .val (.int (2 : Int32)), .val (.int (209 : Int32)), .val (.int (7 : Int32)), .val (.int (r - (209 : Int32)))] [(.int (1 : Int32))]))
                      exact endN X2 hx (t := .boolean) Bd.returns (by simp) (hb hby at_225) hlk ⟨rfl, M2⟩ (by decide) (by decide)
                    · refine EndsK.go (fun _ kz => XS.icmpYes X2.here hx rfl (pc0 := 217) (pc' := 224) rfl (hb hby at_217) rfl (feq H217_18).2 (by decide) (by decide) kz) ?_
                      show EndsK p e below _ (T2.setTop (mkF m 224 #[.val (.int i0), .val (.int i1), .val (.int i2), .val (.int i3), .val (.int v4), .val (.int v5), .val (.int v6), .val (.int r), .val (.int ok), .val (.int (2 : Int32)), .val (.int (209 : Int32)), .val (.int (7 : Int32)), .val (.int (r - (209 : Int32)))] []))
                      refine EndsK.go (fun _ kz => XS.iconst X2.here hx rfl (hb hby at_224) kz) ?_
                      show EndsK p e below _ (T2.setTop (mkF m 225 #[.val (.int i0), .val (.int i1), .val (.int i2), .val (.int i3), .val (.int v4), .val (.int v5), .val (.int v6), .val (.int r), .val (.int ok), .val (.int (2 : Int32)), .val (.int (209 : Int32)), .val (.int (7 : Int32)), .val (.int (r - (209 : Int32)))] [(.int (0 : Int32))]))
                      exact endN X2 hx (t := .boolean) Bd.returns (by simp) (hb hby at_225) hlk (False.elim (by
                          have fz1 := rng32 r
                          have fz2 : ((0 : Int32)).toInt = 0 := rfl
                          have fz3 : ¬ ((r).toInt = ((0 : Int32)).toInt) := fun qz => H71_3 (Int32.toInt_inj.mp qz)
                          have fz4 := rng32 ok
                          have fz5 : ¬ ((ok).toInt = ((0 : Int32)).toInt) := fun qz => H87_5 (Int32.toInt_inj.mp qz)
                          have fz6 : ((1 : Int32)).toInt = 1 := rfl
                          have fz7 : ¬ ((r).toInt < ((1 : Int32)).toInt) := fun qz => H95_6 (Int32.lt_iff_toInt_lt.mpr qz)
                          have fz8 : ((256 : Int32)).toInt = 256 := rfl
                          have fz9 : (r).toInt < ((256 : Int32)).toInt := Int32.lt_iff_toInt_lt.mp H103_7
                          have fz10 : ((145 : Int32)).toInt = 145 := rfl
                          have fz11 : ¬ ((r).toInt < ((145 : Int32)).toInt) := fun qz => H113_8 (Int32.lt_iff_toInt_lt.mpr qz)
                          have fz12 : ((209 : Int32)).toInt = 209 := rfl
                          have fz13 : ¬ ((r).toInt < ((209 : Int32)).toInt) := fun qz => H125_12 (Int32.lt_iff_toInt_lt.mpr qz)
                          have fz14 : ((2 : Int32)).toInt = 2 := rfl
                          have fz15 := rng32 v6
                          have fz16 : ((2 : Int32)).toInt = (v6).toInt := congrArg Int32.toInt H197_16
                          have fz17 : ((r - (209 : Int32))).toInt = (r).toInt - ((209 : Int32)).toInt := own_isub r (209 : Int32) (by omega) (by omega)
                          have fz18 : ((7 : Int32)).toInt = 7 := rfl
                          have fz19 := c_irem (r - (209 : Int32)) (7 : Int32) 7 rfl
                          have fz20 := rng32 v4
                          have fz21 : (((r - (209 : Int32)) % (7 : Int32))).toInt = (v4).toInt := congrArg Int32.toInt H207_17
                          have fz22 := c_idiv (r - (209 : Int32)) (7 : Int32) 7 rfl (by decide)
                          have fz23 := rng32 v5
                          have fz24 : ¬ ((((r - (209 : Int32)) / (7 : Int32))).toInt = (v5).toInt) := fun qz => H217_18 (Int32.toInt_inj.mp qz)
                          unfold Sh Enc at hS
                          unfold Enc at hE
                          omega)) (by decide) (by decide)
                  · refine EndsK.go (fun _ kz => XS.icmpYes X2.here hx rfl (pc0 := 207) (pc' := 224) rfl (hb hby at_207) rfl (feq H207_17).2 (by decide) (by decide) kz) ?_
                    show EndsK p e below _ (T2.setTop (mkF m 224 #[.val (.int i0), .val (.int i1), .val (.int i2), .val (.int i3), .val (.int v4), .val (.int v5), .val (.int v6), .val (.int r), .val (.int ok), .val (.int (2 : Int32)), .val (.int (209 : Int32)), .val (.int (7 : Int32)), .val (.int (r - (209 : Int32)))] []))
                    refine EndsK.go (fun _ kz => XS.iconst X2.here hx rfl (hb hby at_224) kz) ?_
                    show EndsK p e below _ (T2.setTop (mkF m 225 #[.val (.int i0), .val (.int i1), .val (.int i2), .val (.int i3), .val (.int v4), .val (.int v5), .val (.int v6), .val (.int r), .val (.int ok), .val (.int (2 : Int32)), .val (.int (209 : Int32)), .val (.int (7 : Int32)), .val (.int (r - (209 : Int32)))] [(.int (0 : Int32))]))
                    exact endN X2 hx (t := .boolean) Bd.returns (by simp) (hb hby at_225) hlk (False.elim (by
                        have fz1 := rng32 r
                        have fz2 : ((0 : Int32)).toInt = 0 := rfl
                        have fz3 : ¬ ((r).toInt = ((0 : Int32)).toInt) := fun qz => H71_3 (Int32.toInt_inj.mp qz)
                        have fz4 := rng32 ok
                        have fz5 : ¬ ((ok).toInt = ((0 : Int32)).toInt) := fun qz => H87_5 (Int32.toInt_inj.mp qz)
                        have fz6 : ((1 : Int32)).toInt = 1 := rfl
                        have fz7 : ¬ ((r).toInt < ((1 : Int32)).toInt) := fun qz => H95_6 (Int32.lt_iff_toInt_lt.mpr qz)
                        have fz8 : ((256 : Int32)).toInt = 256 := rfl
                        have fz9 : (r).toInt < ((256 : Int32)).toInt := Int32.lt_iff_toInt_lt.mp H103_7
                        have fz10 : ((145 : Int32)).toInt = 145 := rfl
                        have fz11 : ¬ ((r).toInt < ((145 : Int32)).toInt) := fun qz => H113_8 (Int32.lt_iff_toInt_lt.mpr qz)
                        have fz12 : ((209 : Int32)).toInt = 209 := rfl
                        have fz13 : ¬ ((r).toInt < ((209 : Int32)).toInt) := fun qz => H125_12 (Int32.lt_iff_toInt_lt.mpr qz)
                        have fz14 : ((2 : Int32)).toInt = 2 := rfl
                        have fz15 := rng32 v6
                        have fz16 : ((2 : Int32)).toInt = (v6).toInt := congrArg Int32.toInt H197_16
                        have fz17 : ((r - (209 : Int32))).toInt = (r).toInt - ((209 : Int32)).toInt := own_isub r (209 : Int32) (by omega) (by omega)
                        have fz18 : ((7 : Int32)).toInt = 7 := rfl
                        have fz19 := c_irem (r - (209 : Int32)) (7 : Int32) 7 rfl
                        have fz20 := rng32 v4
                        have fz21 : ¬ ((((r - (209 : Int32)) % (7 : Int32))).toInt = (v4).toInt) := fun qz => H207_17 (Int32.toInt_inj.mp qz)
                        have fz22 := rng32 v5
                        unfold Sh Enc at hS
                        unfold Enc at hE
                        omega)) (by decide) (by decide)
                · refine EndsK.go (fun _ kz => XS.icmpYes X2.here hx rfl (pc0 := 197) (pc' := 224) rfl (hb hby at_197) rfl (feq H197_16).2 (by decide) (by decide) kz) ?_
                  show EndsK p e below _ (T2.setTop (mkF m 224 #[.val (.int i0), .val (.int i1), .val (.int i2), .val (.int i3), .val (.int v4), .val (.int v5), .val (.int v6), .val (.int r), .val (.int ok), .val (.int (2 : Int32)), .val (.int (209 : Int32)), .val (.int (7 : Int32)), .val (.int (r - (209 : Int32)))] []))
                  refine EndsK.go (fun _ kz => XS.iconst X2.here hx rfl (hb hby at_224) kz) ?_
                  show EndsK p e below _ (T2.setTop (mkF m 225 #[.val (.int i0), .val (.int i1), .val (.int i2), .val (.int i3), .val (.int v4), .val (.int v5), .val (.int v6), .val (.int r), .val (.int ok), .val (.int (2 : Int32)), .val (.int (209 : Int32)), .val (.int (7 : Int32)), .val (.int (r - (209 : Int32)))] [(.int (0 : Int32))]))
                  exact endN X2 hx (t := .boolean) Bd.returns (by simp) (hb hby at_225) hlk (False.elim (by
                      have fz1 := rng32 r
                      have fz2 : ((0 : Int32)).toInt = 0 := rfl
                      have fz3 : ¬ ((r).toInt = ((0 : Int32)).toInt) := fun qz => H71_3 (Int32.toInt_inj.mp qz)
                      have fz4 := rng32 ok
                      have fz5 : ¬ ((ok).toInt = ((0 : Int32)).toInt) := fun qz => H87_5 (Int32.toInt_inj.mp qz)
                      have fz6 : ((1 : Int32)).toInt = 1 := rfl
                      have fz7 : ¬ ((r).toInt < ((1 : Int32)).toInt) := fun qz => H95_6 (Int32.lt_iff_toInt_lt.mpr qz)
                      have fz8 : ((256 : Int32)).toInt = 256 := rfl
                      have fz9 : (r).toInt < ((256 : Int32)).toInt := Int32.lt_iff_toInt_lt.mp H103_7
                      have fz10 : ((145 : Int32)).toInt = 145 := rfl
                      have fz11 : ¬ ((r).toInt < ((145 : Int32)).toInt) := fun qz => H113_8 (Int32.lt_iff_toInt_lt.mpr qz)
                      have fz12 : ((209 : Int32)).toInt = 209 := rfl
                      have fz13 : ¬ ((r).toInt < ((209 : Int32)).toInt) := fun qz => H125_12 (Int32.lt_iff_toInt_lt.mpr qz)
                      have fz14 : ((2 : Int32)).toInt = 2 := rfl
                      have fz15 := rng32 v6
                      have fz16 : ¬ (((2 : Int32)).toInt = (v6).toInt) := fun qz => H197_16 (Int32.toInt_inj.mp qz)
                      have fz17 := rng32 v4
                      have fz18 := rng32 v5
                      unfold Sh Enc at hS
                      unfold Enc at hE
                      omega)) (by decide) (by decide)
          · refine EndsK.go (fun _ kz => XS.icmpNo X2.here hx rfl (hb hby at_103) rfl (flt H103_7).1 kz) ?_
            show EndsK p e below _ (T2.setTop (mkF m 106 #[.val (.int i0), .val (.int i1), .val (.int i2), .val (.int i3), .val (.int v4), .val (.int v5), .val (.int v6), .val (.int r), .val (.int ok), .unset, .unset, .unset, .unset] []))
            refine EndsK.go (fun _ kz => XS.iconst X2.here hx rfl (hb hby at_106) kz) ?_
            show EndsK p e below _ (T2.setTop (mkF m 107 #[.val (.int i0), .val (.int i1), .val (.int i2), .val (.int i3), .val (.int v4), .val (.int v5), .val (.int v6), .val (.int r), .val (.int ok), .unset, .unset, .unset, .unset] [(.int (0 : Int32))]))
            exact endN X2 hx (t := .boolean) Bd.returns (by simp) (hb hby at_107) hlk (False.elim (by
                have fz1 := rng32 r
                have fz2 : ((0 : Int32)).toInt = 0 := rfl
                have fz3 : ¬ ((r).toInt = ((0 : Int32)).toInt) := fun qz => H71_3 (Int32.toInt_inj.mp qz)
                have fz4 := rng32 ok
                have fz5 : ¬ ((ok).toInt = ((0 : Int32)).toInt) := fun qz => H87_5 (Int32.toInt_inj.mp qz)
                have fz6 : ((1 : Int32)).toInt = 1 := rfl
                have fz7 : ¬ ((r).toInt < ((1 : Int32)).toInt) := fun qz => H95_6 (Int32.lt_iff_toInt_lt.mpr qz)
                have fz8 : ((256 : Int32)).toInt = 256 := rfl
                have fz9 : ¬ ((r).toInt < ((256 : Int32)).toInt) := fun qz => H103_7 (Int32.lt_iff_toInt_lt.mpr qz)
                have fz10 := rng32 v4
                have fz11 := rng32 v5
                have fz12 := rng32 v6
                unfold Sh Enc at hS
                unfold Enc at hE
                omega)) (by decide) (by decide)
  have J32 : ∀ v4 v5 : Int32, EndsK p e below (OQ s (Q_law Z i0 i1 i2 i3 b0 b1 c0 c1 h0 n0) room_1.cells room_1.slots) (s₁.setTop (mkF m 32 #[.val (.int i0), .val (.int i1), .val (.int i2), .val (.int i3), .val (.int v4), .val (.int v5), .unset, .unset, .unset, .unset, .unset, .unset, .unset] [])) := by
    intro v4 v5
    show EndsK p e below _ (s₁.setTop (mkF m 32 #[.val (.int i0), .val (.int i1), .val (.int i2), .val (.int i3), .val (.int v4), .val (.int v5), .unset, .unset, .unset, .unset, .unset, .unset, .unset] []))
    refine EndsK.go (fun _ kz => XS.iloadN X0.here hx rfl (hb hby at_32) rfl kz) ?_
    show EndsK p e below _ (s₁.setTop (mkF m 33 #[.val (.int i0), .val (.int i1), .val (.int i2), .val (.int i3), .val (.int v4), .val (.int v5), .unset, .unset, .unset, .unset, .unset, .unset, .unset] [(.int i3)]))
    refine EndsK.go (fun _ kz => XS.iconst X0.here hx rfl (hb hby at_33) kz) ?_
    show EndsK p e below _ (s₁.setTop (mkF m 34 #[.val (.int i0), .val (.int i1), .val (.int i2), .val (.int i3), .val (.int v4), .val (.int v5), .unset, .unset, .unset, .unset, .unset, .unset, .unset] [(.int (4 : Int32)), (.int i3)]))
    refine EndsK.go (fun _ kz => XS.iand X0.here hx rfl (hb hby at_34) rfl kz) ?_
    show EndsK p e below _ (s₁.setTop (mkF m 35 #[.val (.int i0), .val (.int i1), .val (.int i2), .val (.int i3), .val (.int v4), .val (.int v5), .unset, .unset, .unset, .unset, .unset, .unset, .unset] [(.int (i3 &&& (4 : Int32)))]))
    by_cases H35_1 : (i3 &&& (4 : Int32)) = (0 : Int32)
    · refine EndsK.go (fun _ kz => XS.ifYes X0.here hx rfl (pc0 := 35) (pc' := 42) rfl (hb hby at_35) rfl ((if0 _ _).trans (teq H35_1).1) (by decide) (by decide) kz) ?_
      show EndsK p e below _ (s₁.setTop (mkF m 42 #[.val (.int i0), .val (.int i1), .val (.int i2), .val (.int i3), .val (.int v4), .val (.int v5), .unset, .unset, .unset, .unset, .unset, .unset, .unset] []))
      refine EndsK.go (fun _ kz => XS.iloadN X0.here hx rfl (hb hby at_42) rfl kz) ?_
      show EndsK p e below _ (s₁.setTop (mkF m 43 #[.val (.int i0), .val (.int i1), .val (.int i2), .val (.int i3), .val (.int v4), .val (.int v5), .unset, .unset, .unset, .unset, .unset, .unset, .unset] [(.int i2)]))
      refine EndsK.go (fun _ kz => XS.iconst X0.here hx rfl (hb hby at_43) kz) ?_
      show EndsK p e below _ (s₁.setTop (mkF m 44 #[.val (.int i0), .val (.int i1), .val (.int i2), .val (.int i3), .val (.int v4), .val (.int v5), .unset, .unset, .unset, .unset, .unset, .unset, .unset] [(.int (5 : Int32)), (.int i2)]))
      refine EndsK.go (fun _ kz => iremM X0 hx rfl (hb hby at_44) rfl (by decide) kz) ?_
      show EndsK p e below _ (s₁.setTop (mkF m 45 #[.val (.int i0), .val (.int i1), .val (.int i2), .val (.int i3), .val (.int v4), .val (.int v5), .unset, .unset, .unset, .unset, .unset, .unset, .unset] [(.int (i2 % (5 : Int32)))]))
      refine EndsK.go (fun _ kz => XS.istore X0.here hx rfl (hb hby at_45) rfl (l' := #[.val (.int i0), .val (.int i1), .val (.int i2), .val (.int i3), .val (.int v4), .val (.int v5), .val (.int (i2 % (5 : Int32))), .unset, .unset, .unset, .unset, .unset, .unset]) rfl kz) ?_
      exact J47 _ _ _
    · refine EndsK.go (fun _ kz => XS.ifNo X0.here hx rfl (hb hby at_35) rfl ((if0 _ _).trans (feq H35_1).1) kz) ?_
      show EndsK p e below _ (s₁.setTop (mkF m 38 #[.val (.int i0), .val (.int i1), .val (.int i2), .val (.int i3), .val (.int v4), .val (.int v5), .unset, .unset, .unset, .unset, .unset, .unset, .unset] []))
      refine EndsK.go (fun _ kz => XS.iloadN X0.here hx rfl (hb hby at_38) rfl kz) ?_
      show EndsK p e below _ (s₁.setTop (mkF m 39 #[.val (.int i0), .val (.int i1), .val (.int i2), .val (.int i3), .val (.int v4), .val (.int v5), .unset, .unset, .unset, .unset, .unset, .unset, .unset] [(.int i2)]))
      refine EndsK.go (fun _ kz => XS.goto X0.here hx rfl (pc0 := 39) (pc' := 45) rfl (hb hby at_39) (by decide) (by decide) kz) ?_
      show EndsK p e below _ (s₁.setTop (mkF m 45 #[.val (.int i0), .val (.int i1), .val (.int i2), .val (.int i3), .val (.int v4), .val (.int v5), .unset, .unset, .unset, .unset, .unset, .unset, .unset] [(.int i2)]))
      refine EndsK.go (fun _ kz => XS.istore X0.here hx rfl (hb hby at_45) rfl (l' := #[.val (.int i0), .val (.int i1), .val (.int i2), .val (.int i3), .val (.int v4), .val (.int v5), .val (.int i2), .unset, .unset, .unset, .unset, .unset, .unset]) rfl kz) ?_
      exact J47 _ _ _
  have J16 : ∀ v4 : Int32, EndsK p e below (OQ s (Q_law Z i0 i1 i2 i3 b0 b1 c0 c1 h0 n0) room_1.cells room_1.slots) (s₁.setTop (mkF m 16 #[.val (.int i0), .val (.int i1), .val (.int i2), .val (.int i3), .val (.int v4), .unset, .unset, .unset, .unset, .unset, .unset, .unset, .unset] [])) := by
    intro v4
    show EndsK p e below _ (s₁.setTop (mkF m 16 #[.val (.int i0), .val (.int i1), .val (.int i2), .val (.int i3), .val (.int v4), .unset, .unset, .unset, .unset, .unset, .unset, .unset, .unset] []))
    refine EndsK.go (fun _ kz => XS.iloadN X0.here hx rfl (hb hby at_16) rfl kz) ?_
    show EndsK p e below _ (s₁.setTop (mkF m 17 #[.val (.int i0), .val (.int i1), .val (.int i2), .val (.int i3), .val (.int v4), .unset, .unset, .unset, .unset, .unset, .unset, .unset, .unset] [(.int i3)]))
    refine EndsK.go (fun _ kz => XS.iconst X0.here hx rfl (hb hby at_17) kz) ?_
    show EndsK p e below _ (s₁.setTop (mkF m 18 #[.val (.int i0), .val (.int i1), .val (.int i2), .val (.int i3), .val (.int v4), .unset, .unset, .unset, .unset, .unset, .unset, .unset, .unset] [(.int (2 : Int32)), (.int i3)]))
    refine EndsK.go (fun _ kz => XS.iand X0.here hx rfl (hb hby at_18) rfl kz) ?_
    show EndsK p e below _ (s₁.setTop (mkF m 19 #[.val (.int i0), .val (.int i1), .val (.int i2), .val (.int i3), .val (.int v4), .unset, .unset, .unset, .unset, .unset, .unset, .unset, .unset] [(.int (i3 &&& (2 : Int32)))]))
    by_cases H19_1 : (i3 &&& (2 : Int32)) = (0 : Int32)
    · refine EndsK.go (fun _ kz => XS.ifYes X0.here hx rfl (pc0 := 19) (pc' := 26) rfl (hb hby at_19) rfl ((if0 _ _).trans (teq H19_1).1) (by decide) (by decide) kz) ?_
      show EndsK p e below _ (s₁.setTop (mkF m 26 #[.val (.int i0), .val (.int i1), .val (.int i2), .val (.int i3), .val (.int v4), .unset, .unset, .unset, .unset, .unset, .unset, .unset, .unset] []))
      refine EndsK.go (fun _ kz => XS.iloadN X0.here hx rfl (hb hby at_26) rfl kz) ?_
      show EndsK p e below _ (s₁.setTop (mkF m 27 #[.val (.int i0), .val (.int i1), .val (.int i2), .val (.int i3), .val (.int v4), .unset, .unset, .unset, .unset, .unset, .unset, .unset, .unset] [(.int i1)]))
      refine EndsK.go (fun _ kz => XS.bipush X0.here hx rfl (hb hby at_27) kz) ?_
      show EndsK p e below _ (s₁.setTop (mkF m 29 #[.val (.int i0), .val (.int i1), .val (.int i2), .val (.int i3), .val (.int v4), .unset, .unset, .unset, .unset, .unset, .unset, .unset, .unset] [(.int (16 : Int32)), (.int i1)]))
      refine EndsK.go (fun _ kz => iremM X0 hx rfl (hb hby at_29) rfl (by decide) kz) ?_
      show EndsK p e below _ (s₁.setTop (mkF m 30 #[.val (.int i0), .val (.int i1), .val (.int i2), .val (.int i3), .val (.int v4), .unset, .unset, .unset, .unset, .unset, .unset, .unset, .unset] [(.int (i1 % (16 : Int32)))]))
      refine EndsK.go (fun _ kz => XS.istore X0.here hx rfl (hb hby at_30) rfl (l' := #[.val (.int i0), .val (.int i1), .val (.int i2), .val (.int i3), .val (.int v4), .val (.int (i1 % (16 : Int32))), .unset, .unset, .unset, .unset, .unset, .unset, .unset]) rfl kz) ?_
      exact J32 _ _
    · refine EndsK.go (fun _ kz => XS.ifNo X0.here hx rfl (hb hby at_19) rfl ((if0 _ _).trans (feq H19_1).1) kz) ?_
      show EndsK p e below _ (s₁.setTop (mkF m 22 #[.val (.int i0), .val (.int i1), .val (.int i2), .val (.int i3), .val (.int v4), .unset, .unset, .unset, .unset, .unset, .unset, .unset, .unset] []))
      refine EndsK.go (fun _ kz => XS.iloadN X0.here hx rfl (hb hby at_22) rfl kz) ?_
      show EndsK p e below _ (s₁.setTop (mkF m 23 #[.val (.int i0), .val (.int i1), .val (.int i2), .val (.int i3), .val (.int v4), .unset, .unset, .unset, .unset, .unset, .unset, .unset, .unset] [(.int i1)]))
      refine EndsK.go (fun _ kz => XS.goto X0.here hx rfl (pc0 := 23) (pc' := 30) rfl (hb hby at_23) (by decide) (by decide) kz) ?_
      show EndsK p e below _ (s₁.setTop (mkF m 30 #[.val (.int i0), .val (.int i1), .val (.int i2), .val (.int i3), .val (.int v4), .unset, .unset, .unset, .unset, .unset, .unset, .unset, .unset] [(.int i1)]))
      refine EndsK.go (fun _ kz => XS.istore X0.here hx rfl (hb hby at_30) rfl (l' := #[.val (.int i0), .val (.int i1), .val (.int i2), .val (.int i3), .val (.int v4), .val (.int i1), .unset, .unset, .unset, .unset, .unset, .unset, .unset]) rfl kz) ?_
      exact J32 _ _
  show EndsK p e below _ (s₁.setTop (mkF m 0 #[.val (.int i0), .val (.int i1), .val (.int i2), .val (.int i3), .unset, .unset, .unset, .unset, .unset, .unset, .unset, .unset, .unset] []))
  refine EndsK.go (fun _ kz => XS.iloadN X0.here hx rfl (hb hby at_0) rfl kz) ?_
  show EndsK p e below _ (s₁.setTop (mkF m 1 #[.val (.int i0), .val (.int i1), .val (.int i2), .val (.int i3), .unset, .unset, .unset, .unset, .unset, .unset, .unset, .unset, .unset] [(.int i3)]))
  refine EndsK.go (fun _ kz => XS.iconst X0.here hx rfl (hb hby at_1) kz) ?_
  show EndsK p e below _ (s₁.setTop (mkF m 2 #[.val (.int i0), .val (.int i1), .val (.int i2), .val (.int i3), .unset, .unset, .unset, .unset, .unset, .unset, .unset, .unset, .unset] [(.int (1 : Int32)), (.int i3)]))
  refine EndsK.go (fun _ kz => XS.iand X0.here hx rfl (hb hby at_2) rfl kz) ?_
  show EndsK p e below _ (s₁.setTop (mkF m 3 #[.val (.int i0), .val (.int i1), .val (.int i2), .val (.int i3), .unset, .unset, .unset, .unset, .unset, .unset, .unset, .unset, .unset] [(.int (i3 &&& (1 : Int32)))]))
  by_cases H3_1 : (i3 &&& (1 : Int32)) = (0 : Int32)
  · refine EndsK.go (fun _ kz => XS.ifYes X0.here hx rfl (pc0 := 3) (pc' := 10) rfl (hb hby at_3) rfl ((if0 _ _).trans (teq H3_1).1) (by decide) (by decide) kz) ?_
    show EndsK p e below _ (s₁.setTop (mkF m 10 #[.val (.int i0), .val (.int i1), .val (.int i2), .val (.int i3), .unset, .unset, .unset, .unset, .unset, .unset, .unset, .unset, .unset] []))
    refine EndsK.go (fun _ kz => XS.iloadN X0.here hx rfl (hb hby at_10) rfl kz) ?_
    show EndsK p e below _ (s₁.setTop (mkF m 11 #[.val (.int i0), .val (.int i1), .val (.int i2), .val (.int i3), .unset, .unset, .unset, .unset, .unset, .unset, .unset, .unset, .unset] [(.int i0)]))
    refine EndsK.go (fun _ kz => XS.bipush X0.here hx rfl (hb hby at_11) kz) ?_
    show EndsK p e below _ (s₁.setTop (mkF m 13 #[.val (.int i0), .val (.int i1), .val (.int i2), .val (.int i3), .unset, .unset, .unset, .unset, .unset, .unset, .unset, .unset, .unset] [(.int (16 : Int32)), (.int i0)]))
    refine EndsK.go (fun _ kz => iremM X0 hx rfl (hb hby at_13) rfl (by decide) kz) ?_
    show EndsK p e below _ (s₁.setTop (mkF m 14 #[.val (.int i0), .val (.int i1), .val (.int i2), .val (.int i3), .unset, .unset, .unset, .unset, .unset, .unset, .unset, .unset, .unset] [(.int (i0 % (16 : Int32)))]))
    refine EndsK.go (fun _ kz => XS.istore X0.here hx rfl (hb hby at_14) rfl (l' := #[.val (.int i0), .val (.int i1), .val (.int i2), .val (.int i3), .val (.int (i0 % (16 : Int32))), .unset, .unset, .unset, .unset, .unset, .unset, .unset, .unset]) rfl kz) ?_
    exact J16 _
  · refine EndsK.go (fun _ kz => XS.ifNo X0.here hx rfl (hb hby at_3) rfl ((if0 _ _).trans (feq H3_1).1) kz) ?_
    show EndsK p e below _ (s₁.setTop (mkF m 6 #[.val (.int i0), .val (.int i1), .val (.int i2), .val (.int i3), .unset, .unset, .unset, .unset, .unset, .unset, .unset, .unset, .unset] []))
    refine EndsK.go (fun _ kz => XS.iloadN X0.here hx rfl (hb hby at_6) rfl kz) ?_
    show EndsK p e below _ (s₁.setTop (mkF m 7 #[.val (.int i0), .val (.int i1), .val (.int i2), .val (.int i3), .unset, .unset, .unset, .unset, .unset, .unset, .unset, .unset, .unset] [(.int i0)]))
    refine EndsK.go (fun _ kz => XS.goto X0.here hx rfl (pc0 := 7) (pc' := 14) rfl (hb hby at_7) (by decide) (by decide) kz) ?_
    show EndsK p e below _ (s₁.setTop (mkF m 14 #[.val (.int i0), .val (.int i1), .val (.int i2), .val (.int i3), .unset, .unset, .unset, .unset, .unset, .unset, .unset, .unset, .unset] [(.int i0)]))
    refine EndsK.go (fun _ kz => XS.istore X0.here hx rfl (hb hby at_14) rfl (l' := #[.val (.int i0), .val (.int i1), .val (.int i2), .val (.int i3), .val (.int i0), .unset, .unset, .unset, .unset, .unset, .unset, .unset, .unset]) rfl kz) ?_
    exact J16 _
set_option maxRecDepth 65536 in
set_option maxHeartbeats 40000000 in
theorem comes_1 {Post : Tables → Env → Array Value → State → Outcome → State → Prop} (hpost : ∀ tb e args s v u, (limb_1_1.after args s (.returned v) u = true ∧ limb_1_2.after args s (.returned v) u = true ∧ True) → FrameEnd s (.returned v) u (Jvm.fieldLocs frame_1_writes args s ++ Jvm.arrayLocs frame_1_arrays args s ++ Jvm.staticLocs frame_1_statics s) 0 0 → Post tb e args s (.returned v) u) :
    ArmFor flags0 classFile x code maxLocals ret World_1 tables_1 room_1 Calls_1 rest_1 Pre_1 Post := by
  intro l hfl _ _ p e ha hc hk s m args below hf hA hF happ hP
  obtain ⟨hcalls, hrest, hpre⟩ := hP
  obtain ⟨-, -, -, hnamed, -, -, -, hat⟩ := (Spec.applies_iff hf).mp happ
  obtain ⟨hg, hn⟩ := and_e (Cond.before_iff.mp (show (Jvm.Cond.and given_1 narrow_1).before args s = true from hpre))
  obtain ⟨hcount, hg⟩ := and_e hg
  obtain ⟨hi0, hg⟩ := and_e hg
  obtain ⟨hi1, hg⟩ := and_e hg
  obtain ⟨hi2, hg⟩ := and_e hg
  obtain ⟨w0, w1, w2, w3, rfl⟩ : ∃ w0 w1 w2 w3 : Value, args = #[w0, w1, w2, w3] := by
    have hs : args.size = 4 := by simpa [Cond.value, given_1] using hcount
    obtain ⟨L⟩ := args
    match L, hs with
    | [w0, w1, w2, w3], _ => exact ⟨w0, w1, w2, w3, rfl⟩
  have hw := fun d (hd : d ∈ tables_1) => atoms_spec (ws := Jvm.Cond.code x code maxLocals ret :: tables_1) hat d (List.mem_cons_of_mem _ hd)
  have hfit : Fit s := fun {y c} hc i hi => by
    obtain ⟨ha, rfl⟩ := Array.getElem?_eq_some_iff.mp hc
    have q := List.all_eq_true.mp ((Array.all_eq_true_iff_forall_mem.mp hF) _ (Array.getElem_mem ha)) i (List.mem_range.mpr hi)
    simpa [Array.getElem?_eq_getElem hi] using q
  obtain ⟨i0, ei0⟩ := is_v hi0
  obtain rfl : w0 = (.int i0) := Option.some.inj ei0
  obtain ⟨i1, ei1⟩ := is_v hi1
  obtain rfl : w1 = (.int i1) := Option.some.inj ei1
  obtain ⟨i2, ei2⟩ := is_v hi2
  obtain rfl : w2 = (.int i2) := Option.some.inj ei2
  obtain ⟨i3, ei3⟩ := is_v hg
  obtain rfl : w3 = (.int i3) := Option.some.inj ei3
  obtain ⟨q0, hn⟩ := and_e hn
  obtain ⟨q1, hn⟩ := and_e hn
  obtain ⟨q2, hn⟩ := and_e hn
  obtain ⟨q3, hn⟩ := and_e hn
  obtain ⟨q4, hn⟩ := and_e hn
  obtain ⟨q5, hn⟩ := and_e hn
  obtain ⟨q6, hn⟩ := and_e hn
  obtain ⟨q7, hn⟩ := and_e hn
  obtain ⟨q8, hn⟩ := and_e hn
  obtain ⟨q9, hn⟩ := and_e hn
  have q10 := hn
  obtain ⟨b0, v0⟩ := arr_v q0
  obtain ⟨c0, A0⟩ := Arr.start v0 q0
  have S0 := Sta.start v0 (Or.inr ⟨(hw _ (List.mem_of_getElem? (i := 2) rfl)), (hw _ (List.mem_of_getElem? (i := 5) rfl))⟩)
  have z0 := (arrLen v0 A0 q1).2
  have ub0_2 := arrAt v0 A0 q2
  obtain ⟨b1, v1⟩ := arr_v q3
  obtain ⟨c1, A1⟩ := Arr.start v1 q3
  have S1 := Sta.start v1 (Or.inr ⟨(hw _ (List.mem_of_getElem? (i := 2) rfl)), (hw _ (List.mem_of_getElem? (i := 7) rfl))⟩)
  have z1 := (arrLen v1 A1 q4).2
  have ub1_2 := arrAt v1 A1 q5
  have ub1_3 := arrAt v1 A1 q6
  have ub0_0 := arrAt v0 A0 q7
  have ub1_0 := arrAt v1 A1 q8
  have ub1_1 := arrAt v1 A1 q9
  have ub0_1 := arrAt v0 A0 q10
  obtain ⟨n, o, h1, h2, h3, _, L, rfl, ⟨rfl, N⟩, hq⟩ := rm_law l s _ hw tables_1 i0 i1 i2 i3 b0 b1 c0 c1 s.heap s.heap.size (Nat.le_refl _) S0 S1 A0 A1 z0 z1 ub0_0 ub0_1 ub0_2 ub1_0 ub1_1 ub1_2 ub1_3 p e ha hc hk s m _ below hf ((Spec.applies_iff_loose hf).mp happ).1 ⟨rfl, State.Warmed39.refl s, rfl⟩ trivial
  refine ⟨n, _, h1, h2, h3, hpost _ _ _ _ _ _ ⟨Cond.after_iff.mpr rfl, Cond.after_iff.mpr (eq_i res_at (Term.int_eval (1)) rfl), trivial⟩ ⟨hq.1, hq.2.1, (hq.2.2.sift fun y hy => Or.inr (N y hy)).mono (by decide) (by decide)⟩⟩
theorem main_1_1 : Claimed_1_1 := comes_1 fun _ _ _ _ _ _ h hF => ⟨h.1, hF⟩
theorem main_1_2 : Claimed_1_2 := comes_1 fun _ _ _ _ _ _ h hF => ⟨h.2.1, hF⟩
end Jvm.Pilot.@@N@@
namespace Jvm.Pilot.@@N@@
open Jvm Jvm.ClassFile Sem Op Lib Jvm.Free Jvm.Stand Jvm.Pilot.@@N@@.Jvm.D
/-! MADE BY PROGRAM (witnessworld.py) out of the Statement's table words and the real class files: 9 classes; the members and pool entries that the words name. The judged class is class 1, her method 1. -/
namespace start1
open Jvm.ClassFile
def u (s : String) : CpInfo := .utf8 (stringToUtf16 s)
/-- a pool by its gaps: so many unusable entries, then the entry; so many at the end -/
def gap : Nat → List CpInfo → List CpInfo
  | 0, r => r
  | n + 1, r => .unusable :: gap n r
def poolList (es : List (Nat × CpInfo)) (last : Nat) : List CpInfo := es.foldr (fun e r => gap e.1 (e.2 :: r)) (gap last [])
def pool (es : List (Nat × CpInfo)) (last : Nat) : Array CpInfo := ⟨poolList es last⟩
def fileOf (pool : Array CpInfo) (this : Nat) (attrs : Array Attribute := #[]) (ms : Array MethodInfo := #[]) (fl : Nat := 33) (sup : Nat := 0) (ifs : Array Nat := #[]) (fds : Array FieldInfo := #[]) : ClassFile where
  minorVersion := 0
  majorVersion := 65
  constantPool := pool
  accessFlags := fl
  thisClass := this
  superClass := sup
  interfaces := ifs
  fields := fds
  methods := ms
  attributes := attrs
def plain (name : String) (sup : Option ClassId) : Class where
  name := name
  kind := .ordinary
  loader := none
  accessFlags := 33
  super := sup
  interfaces := #[]
  cf := none
  fields := #[]
  methods := #[]
  instanceTypes := #[]
  staticTypes := #[]
  resolved := #[]
  callSites := []
  init := .initialized
  statics := none
  mirror := none

def pool0 : Array CpInfo := pool [(5, u "<init>"), (0, u "()V"), (1, .class_ 10), (1, u "java/lang/Object")] 113

def k0m0 : Method := { name := "<init>", desc := "()V", sig := { parameters := [], returnType := none }, accessFlags := 1, code := none }
/-- java/lang/Object -/
def k0 : Class := { plain "java/lang/Object" none with
  accessFlags := 33
  interfaces := #[]
  cf := some (fileOf pool0 8 #[] #[{ accessFlags := 1, nameIndex := 5, descriptorIndex := 6, attributes := #[] }] 33 0 #[] #[])
  fields := #[]
  methods := #[k0m0]
  instanceTypes := #[]
  staticTypes := #[]
  resolved := Array.replicate 124 none
  statics := none }

def pool1 : Array CpInfo := pool [(2, .class_ 4), (1, u "java/lang/Object"), (0, u "<init>"), (0, u "()V"), (0, .methodref 8 9), (0, .class_ 10), (0, .nameAndType 11 12), (0, u "com/example/packwright/packwright/pack200/CodeBands"), (0, u "shortHeader"), (0, u "(III)I"), (0, .methodref 14 15), (0, .class_ 16), (0, .nameAndType 17 18), (0, u "com/example/packwright/packwright/pack200/CodeBandsShortHeaderPinLaw"), (0, u "encodable"), (0, u "(III)Z"), (2, u "law"), (0, u "(IIII)Z")] 3

def k1m0 : Method := { name := "<init>", desc := "()V", sig := { parameters := [], returnType := none }, accessFlags := 1, code := none }
def k1c1 : Code := { maxStack := 3, maxLocals := 13, code := code, exceptionTable := #[], attributes := #[] }
def k1m1 : Method := { name := "law", desc := "(IIII)Z", sig := { parameters := [.int, .int, .int, .int], returnType := some .boolean }, accessFlags := 9, code := some k1c1 }
def k1c2 : Code := { maxStack := 4, maxLocals := 5, code := method_3_code, exceptionTable := #[], attributes := #[] }
def k1m2 : Method := { name := "encodable", desc := "(III)Z", sig := { parameters := [.int, .int, .int], returnType := some .boolean }, accessFlags := 10, code := some k1c2 }
/-- com/example/packwright/packwright/pack200/CodeBandsShortHeaderPinLaw -/
def k1 : Class := { plain "com/example/packwright/packwright/pack200/CodeBandsShortHeaderPinLaw" (some 0) with
  accessFlags := 49
  interfaces := #[]
  cf := some (fileOf pool1 14 #[] #[{ accessFlags := 1, nameIndex := 5, descriptorIndex := 6, attributes := #[] }, { accessFlags := 9, nameIndex := 21, descriptorIndex := 22, attributes := #[] }, { accessFlags := 10, nameIndex := 17, descriptorIndex := 18, attributes := #[] }] 49 2 #[] #[])
  fields := #[]
  methods := #[k1m0, k1m1, k1m2]
  instanceTypes := #[]
  staticTypes := #[]
  resolved := Array.replicate 26 none
  statics := none }

def pool2 : Array CpInfo := pool [(2, .class_ 4), (1, u "java/lang/Object"), (32, .class_ 39), (1, u "com/example/packwright/packwright/pack200/CodeBands"), (0, u "maxStacks"), (0, u "[I"), (2, u "maxNaLocals"), (2, u "handlerCounts"), (2, u "flagElements"), (13, .fieldref 37 65), (0, .nameAndType 66 41), (0, u "SHORT_FORM_STARTS"), (0, .fieldref 37 68), (0, .nameAndType 69 41), (0, u "SHORT_FORM_STACKS"), (21, u "handlerStarts"), (0, u "Lcom/example/packwright/packwright/pack200/Band;"), (7, u "handlerEnds"), (4, u "handlerCatches"), (4, u "handlerClasses"), (14, u "attributes"), (0, u "Lcom/example/packwright/packwright/pack200/AttributeBands;"), (11, u "bytecode"), (0, u "Lcom/example/packwright/packwright/pack200/BytecodeBands;"), (14, u "shortHeader"), (0, u "(III)I")] 12

def k2c0 : Code := { maxStack := 6, maxLocals := 6, code := prog_94_method_2_code, exceptionTable := #[], attributes := #[] }
def k2m0 : Method := { name := "shortHeader", desc := "(III)I", sig := { parameters := [.int, .int, .int], returnType := some .int }, accessFlags := 8, code := some k2c0 }
/-- com/example/packwright/packwright/pack200/CodeBands -/
def k2 : Class := { plain "com/example/packwright/packwright/pack200/CodeBands" (some 0) with
  accessFlags := 48
  interfaces := #[]
  cf := some (fileOf pool2 37 #[] #[{ accessFlags := 8, nameIndex := 154, descriptorIndex := 155, attributes := #[] }] 48 2 #[] #[{ accessFlags := 26, nameIndex := 66, descriptorIndex := 41, attributes := #[] }, { accessFlags := 26, nameIndex := 69, descriptorIndex := 41, attributes := #[] }, { accessFlags := 18, nameIndex := 40, descriptorIndex := 41, attributes := #[] }, { accessFlags := 18, nameIndex := 44, descriptorIndex := 41, attributes := #[] }, { accessFlags := 18, nameIndex := 47, descriptorIndex := 41, attributes := #[] }, { accessFlags := 18, nameIndex := 50, descriptorIndex := 41, attributes := #[] }, { accessFlags := 18, nameIndex := 91, descriptorIndex := 92, attributes := #[] }, { accessFlags := 18, nameIndex := 100, descriptorIndex := 92, attributes := #[] }, { accessFlags := 18, nameIndex := 105, descriptorIndex := 92, attributes := #[] }, { accessFlags := 18, nameIndex := 110, descriptorIndex := 92, attributes := #[] }, { accessFlags := 18, nameIndex := 125, descriptorIndex := 126, attributes := #[] }, { accessFlags := 18, nameIndex := 138, descriptorIndex := 139, attributes := #[] }])
  fields := #[{ name := "SHORT_FORM_STARTS", type := (.array .int), accessFlags := 26, slot := 0, constantValue := 0 }, { name := "SHORT_FORM_STACKS", type := (.array .int), accessFlags := 26, slot := 1, constantValue := 0 }, { name := "maxStacks", type := (.array .int), accessFlags := 18, slot := 0, constantValue := 0 }, { name := "maxNaLocals", type := (.array .int), accessFlags := 18, slot := 1, constantValue := 0 }, { name := "handlerCounts", type := (.array .int), accessFlags := 18, slot := 2, constantValue := 0 }, { name := "flagElements", type := (.array .int), accessFlags := 18, slot := 3, constantValue := 0 }, { name := "handlerStarts", type := (.object "com/example/packwright/packwright/pack200/Band"), accessFlags := 18, slot := 4, constantValue := 0 }, { name := "handlerEnds", type := (.object "com/example/packwright/packwright/pack200/Band"), accessFlags := 18, slot := 5, constantValue := 0 }, { name := "handlerCatches", type := (.object "com/example/packwright/packwright/pack200/Band"), accessFlags := 18, slot := 6, constantValue := 0 }, { name := "handlerClasses", type := (.object "com/example/packwright/packwright/pack200/Band"), accessFlags := 18, slot := 7, constantValue := 0 }, { name := "attributes", type := (.object "com/example/packwright/packwright/pack200/AttributeBands"), accessFlags := 18, slot := 8, constantValue := 0 }, { name := "bytecode", type := (.object "com/example/packwright/packwright/pack200/BytecodeBands"), accessFlags := 18, slot := 9, constantValue := 0 }]
  methods := #[k2m0]
  instanceTypes := #[(.array .int), (.array .int), (.array .int), (.array .int), (.object "com/example/packwright/packwright/pack200/Band"), (.object "com/example/packwright/packwright/pack200/Band"), (.object "com/example/packwright/packwright/pack200/Band"), (.object "com/example/packwright/packwright/pack200/Band"), (.object "com/example/packwright/packwright/pack200/AttributeBands"), (.object "com/example/packwright/packwright/pack200/BytecodeBands")]
  staticTypes := #[(.array .int), (.array .int)]
  resolved := Array.replicate 168 none
  statics := some 0 }

def pool3 : Array CpInfo := pool [(1, u "java/lang/Cloneable"), (0, .class_ 1), (0, u "java/lang/Object"), (0, .class_ 3)] 3

/-- java/lang/Cloneable -/
def k3 : Class := { plain "java/lang/Cloneable" (some 0) with
  accessFlags := 1537
  interfaces := #[]
  cf := some (fileOf pool3 2 #[] #[] 1537 4 #[] #[])
  fields := #[]
  methods := #[]
  instanceTypes := #[]
  staticTypes := #[]
  resolved := Array.replicate 8 none
  statics := none }

def pool4 : Array CpInfo := pool [(1, u "java/io/Serializable"), (0, .class_ 1), (0, u "java/lang/Object"), (0, .class_ 3)] 3

/-- java/io/Serializable -/
def k4 : Class := { plain "java/io/Serializable" (some 0) with
  accessFlags := 1537
  interfaces := #[]
  cf := some (fileOf pool4 2 #[] #[] 1537 4 #[] #[])
  fields := #[]
  methods := #[]
  instanceTypes := #[]
  staticTypes := #[]
  resolved := Array.replicate 8 none
  statics := none }

/-- the primitive byte -/
def k5 : Class := { plain "byte" none with kind := .primitive 'B', accessFlags := 0x411 }
/-- [B -/
def k6 : Class := { plain "[B" (some 0) with kind := .array 5 .byte, interfaces := #[3, 4], accessFlags := 1041 }

/-- the primitive int -/
def k7 : Class := { plain "int" none with kind := .primitive 'I', accessFlags := 0x411 }
/-- [I -/
def k8 : Class := { plain "[I" (some 0) with kind := .array 7 .int, interfaces := #[3, 4], accessFlags := 1041 }

def heap : Heap := #[{ cls := 2, slots := #[.ref 2, .ref 1], vm := .statics 2 },
  { cls := 8, slots := #[.int 12, .int 8, .int 7], vm := .none },
  { cls := 8, slots := #[.int 1, .int 145, .int 209, .int 256], vm := .none }]
def classes : Array Class := #[k0, k1, k2, k3, k4, k5, k6, k7, k8]
def interned : List (Array UInt16 × Addr) := []
def slotsUsed : Nat := 9
def theMethod : MethodId := ⟨1, 1⟩
def args0 : Array Value := #[.int 5, .int 3, .int 1, .int 7]
def aboutOver (below : List Frame) : State where
  vm := { classes := classes, interned := interned.toArray }
  heap := heap
  slotsUsed := slotsUsed
  threads := #[{ frames := .invoking theMethod args0 :: below }]
def below0 : List Frame := [.native { method := ⟨0, 0⟩, args := #[] }]
def about1 : State := aboutOver below0
def p0 : Program := .bare "" "" ""
def e0 : Env := launch0.env 0 0 0
theorem w_frames : about1.frames = Frame.invoking theMethod args0 :: below0 := rfl
set_option maxRecDepth 65536 in
theorem w_args : argsFit about1.vm theMethod args0 = true := by decide +kernel
set_option maxRecDepth 65536 in
theorem w_heap : heapFits about1 = true := by decide +kernel
set_option maxRecDepth 65536 in
theorem w_runnable : about1.curStatus? = some .runnable := by decide +kernel
set_option maxRecDepth 65536 in
theorem w_alone : about1.alone = true := by decide +kernel
set_option maxRecDepth 65536 in
theorem w_named : about1.methodNamed? x = some theMethod := by decide +kernel
set_option maxRecDepth 65536 in
theorem w_hears : about1.hears theMethod below0 = true := by decide +kernel
set_option maxRecDepth 65536 in
theorem w_ripe : about1.ripe theMethod args0 below0 = true := by decide +kernel
theorem w_running : about1.status = .running := rfl
set_option maxRecDepth 65536 in
theorem w_room : about1.hasRoom e0.platform room_1 = true :=
  launch0.hasRoom_least _ room_1 (by decide +kernel) (by decide +kernel) (by decide +kernel) (by decide +kernel) (by decide +kernel) (by decide +kernel)
theorem allAtoms_all (ts : List Jvm.Cond) (a : Array Jvm.Value) (st : Jvm.State) : (allAtoms ts).before a st = ts.all (fun c => c.before a st) := by
  induction ts with
  | nil => rfl
  | cons c t ih =>
    show (Jvm.Cond.and c (allAtoms t)).before a st = _
    rw [Jvm.Cond.before_and, ih, List.all_cons]
def words1 : List Jvm.Cond := Jvm.Cond.code x code maxLocals ret :: tables_1
/-- a 'code' word, met by the world's own term for the bytes: nothing is compared byte by byte -/
theorem code_word {y : MethodName} {bytes : ByteArray} {mx : Nat} {rt : Option FieldType} {a : Array Value} {s : State} {m : MethodId} {meth : Method} {c : Code} (h1 : s.methodNamed? y = some m) (h2 : s.vm.method? m = some meth) (h3 : meth.code = some c) (h4 : c.code = bytes)
    (h5 : (c.maxLocals == mx && c.exceptionTable.isEmpty && decide (c.maxStack ≤ mostOperands) && decide (meth.sig.returnType = rt) && !meth.locks && decide (parseMethodDescriptor y.desc = some meth.sig)) = true) : (Jvm.Cond.code y bytes mx rt).before a s = true := by
  simp only [Bool.and_eq_true, beq_iff_eq, Bool.not_eq_true', decide_eq_true_eq] at h5
  obtain ⟨⟨⟨⟨⟨g1, g2⟩, g3⟩, g4⟩, g5⟩, g6⟩ := h5
  simp [Cond.before, Cond.holds, Cond.value, h1, h2, h3, h4, g1, g2, g3, g4, g5, g6]
def isCode : Jvm.Cond → Bool
  | .code _ _ _ _ => true
  | _ => false
theorem all_split {L : List Jvm.Cond} {P : Jvm.Cond → Bool} (h1 : L.all (fun c => isCode c || P c) = true) (h2 : ∀ c ∈ L.filter isCode, P c = true) : L.all P = true := by
  refine List.all_eq_true.mpr fun c hc => ?_
  have h := List.all_eq_true.mp h1 c hc
  rcases Bool.eq_false_or_eq_true (isCode c) with hi | hi
  · exact h2 c (List.mem_filter.mpr ⟨hc, hi⟩)
  · simpa [hi] using h
set_option maxRecDepth 65536 in
theorem w_c0 : (Jvm.Cond.code x code maxLocals ret).before args0 about1 = true := code_word (m := ⟨1, 1⟩) (meth := k1m1) (c := k1c1) (by decide +kernel) rfl rfl rfl (by decide +kernel)
set_option maxRecDepth 65536 in
theorem w_c1 : (Jvm.Cond.code ({ cls := "com/example/packwright/packwright/pack200/CodeBands", name := "shortHeader", desc := "(III)I" } : Jvm.MethodName) prog_94_method_2_code (6 : Nat) (Option.some Jvm.ClassFile.FieldType.int)).before args0 about1 = true := code_word (m := ⟨2, 0⟩) (meth := k2m0) (c := k2c0) (by decide +kernel) rfl rfl rfl (by decide +kernel)
set_option maxRecDepth 65536 in
theorem w_c2 : (Jvm.Cond.code ({ cls := "com/example/packwright/packwright/pack200/CodeBandsShortHeaderPinLaw", name := "encodable", desc := "(III)Z" } : Jvm.MethodName) method_3_code (5 : Nat) (Option.some Jvm.ClassFile.FieldType.boolean)).before args0 about1 = true := code_word (m := ⟨1, 2⟩) (meth := k1m2) (c := k1c2) (by decide +kernel) rfl rfl rfl (by decide +kernel)
def codes1 : List Jvm.Cond := [Jvm.Cond.code x code maxLocals ret, Jvm.Cond.code ({ cls := "com/example/packwright/packwright/pack200/CodeBands", name := "shortHeader", desc := "(III)I" } : Jvm.MethodName) prog_94_method_2_code (6 : Nat) (Option.some Jvm.ClassFile.FieldType.int), Jvm.Cond.code ({ cls := "com/example/packwright/packwright/pack200/CodeBandsShortHeaderPinLaw", name := "encodable", desc := "(III)Z" } : Jvm.MethodName) method_3_code (5 : Nat) (Option.some Jvm.ClassFile.FieldType.boolean)]
set_option maxRecDepth 65536 in
theorem codes_eq : words1.filter isCode = codes1 := rfl
theorem w_codes : ∀ c ∈ words1.filter isCode, c.before args0 about1 = true := by
  rw [codes_eq]
  intro c hc
  simp only [codes1, List.mem_cons, List.not_mem_nil, or_false] at hc
  rcases hc with rfl | rfl | rfl
  · exact w_c0
  · exact w_c1
  · exact w_c2
set_option maxRecDepth 65536 in
theorem w_t1 : words1.all (fun c => isCode c || c.before args0 about1) = true := by decide +kernel
theorem w_tables : (allAtoms (Jvm.Cond.code x code maxLocals ret :: tables_1)).before args0 about1 = true := by
  rw [allAtoms_all]
  show words1.all (fun c => c.before args0 about1) = true
  refine all_split ?_ w_codes
  rw [w_t1]
set_option maxRecDepth 65536 in
theorem w_case : (Jvm.Cond.and given_1 narrow_1).before args0 about1 = true := by decide +kernel
theorem w_applies : (headSpec (Jvm.Cond.code x code maxLocals ret :: tables_1) room_1).applies x e0.platform about1 = true :=
  (Spec.applies_iff w_frames).mpr ⟨w_running, w_runnable, w_alone, w_named, w_hears, w_ripe, w_room, w_tables⟩
theorem atStart : AtStart classFile x code maxLocals ret World_1 tables_1 room_1 Calls_1 rest_1 Pre_1 launch0 p0 e0 about1 theMethod args0 below0 :=
  ⟨lists_1, trivial, launch0.admits_env _ _ _, launch0.least_env, fairChoices_fair.cas, fairChoices_fair.clock, w_frames, w_args, w_heap, w_applies, trivial, trivial, w_case⟩
end start1
theorem witness_1 : WitnessClaimed_1 := ⟨start1.p0, start1.e0, start1.about1, start1.theMethod, start1.args0, start1.below0, start1.atStart⟩
end Jvm.Pilot.@@N@@
