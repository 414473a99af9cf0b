import JvmDerived
import JvmDerived.Pilot.@@N@@Statement
import JvmDerived.Pilot.@@N@@Code
set_option linter.unusedVariables false
set_option linter.unusedSimpArgs false
namespace Jvm.OwnK
open Sem ClassFile Op Lib Jvm.Stand Jvm.Free Jvm.LawKit Jvm.RoadKit
/-- the run from S ends, and well -/
def EndsK (p : Program) (e : Env) (below : List Frame) (QQ : Outcome → State → Prop) (S : State) : Prop :=
  ∃ s₂ o, Steps p.tables e below S s₂ ∧ s₂.status = .running ∧ Ended s₂ below o ∧ QQ o s₂
/-- what a body's contract says of its end -/
abbrev OQ (s : State) (Q : Option Value → Heap → List Loc → Prop) (ck cs : Nat) : Outcome → State → Prop :=
  fun o U' => ∃ v L, o = .returned v ∧ Q v U'.heap L ∧ FrameEnd s o U' L ck cs
section EndsK
variable {p : Program} {e : Env} {below : List Frame} {QQ : Outcome → State → Prop} {S S' T : State}
theorem EndsK.go (h : ∀ t, Steps p.tables e below S' t → Steps p.tables e below S t) (k : EndsK p e below QQ S') : EndsK p e below QQ S := by
  obtain ⟨s₂, o, h1, h2⟩ := k
  exact ⟨s₂, o, h _ h1, h2⟩
theorem EndsK.tr (h : Steps p.tables e below S S') (k : EndsK p e below QQ S') : EndsK p e below QQ S := by
  obtain ⟨s₂, o, h1, h2⟩ := k
  exact ⟨s₂, o, h.trans h1, h2⟩
theorem EndsK.start {g g' : JFrame} (q : g = g') (k : EndsK p e below QQ (T.setTop g')) : EndsK p e below QQ (T.setTop g) := q ▸ k
end EndsK
section Leave
variable {p : Program} {l : Launch} {e : Env} {R : Room} {s : State} {m : MethodId} {args : Array Value} {below : List Frame} {meth : Method} {c : Code} {T : State} {locs : List Loc} {cells slots : Nat} {Q : Option Value → Heap → List Loc → Prop} {ck cs pc : Nat} {Ls : Array Slot} {rest : List Value}
theorem endI (X : Stand p l e R s m args below meth c T locs cells slots) (hx : p.tables.exec = Jvm.exec) {z : Int32} (hret : meth.sig.returnType = some .int) (hd : decode c.code pc = .ok (.ireturn, 1)) (hlk : meth.locks = false)
    (hq : Q (some (.int z)) T.heap locs) (hc : cells ≤ ck) (hs : slots ≤ cs) : EndsK p e below (OQ s Q ck cs) (T.setTop (mkF m pc Ls (.int z :: rest))) := by
  obtain ⟨fs, hr, hrun, hended, hW, hsame⟩ := X.leave (v := some (.int z)) (fun h => by rw [hret] at h; cases h) hlk
  refine ⟨_, _, retOut X hx hret rfl (Or.inl ⟨rfl, Or.inl rfl, _, rfl⟩) hd hr, hrun, hended, _, _, rfl, hq, ⟨_, rfl⟩, hW, hsame.mono hc hs⟩
theorem endN (X : Stand p l e R s m args below meth c T locs cells slots) (hx : p.tables.exec = Jvm.exec) {z : Int32} {t : FieldType} (hret : meth.sig.returnType = some t) (ht : t = .boolean ∨ t = .byte ∨ t = .char ∨ t = .short) (hd : decode c.code pc = .ok (.ireturn, 1)) (hlk : meth.locks = false)
    (hq : Q (some (.int (nar t z))) T.heap locs) (hc : cells ≤ ck) (hs : slots ≤ cs) : EndsK p e below (OQ s Q ck cs) (T.setTop (mkF m pc Ls (.int z :: rest))) := by
  obtain ⟨fs, hr, hrun, hended, hW, hsame⟩ := X.leave (v := some (.int (nar t z))) (fun h => by rw [hret] at h; cases h) hlk
  exact ⟨_, _, retN X hx hret ht hd hr, hrun, hended, _, _, rfl, hq, ⟨_, rfl⟩, hW, hsame.mono hc hs⟩
theorem endJ (X : Stand p l e R s m args below meth c T locs cells slots) (hx : p.tables.exec = Jvm.exec) {z : Int64} (hret : meth.sig.returnType = some .long) (hd : decode c.code pc = .ok (.lreturn, 1)) (hlk : meth.locks = false)
    (hq : Q (some (.long z)) T.heap locs) (hc : cells ≤ ck) (hs : slots ≤ cs) : EndsK p e below (OQ s Q ck cs) (T.setTop (mkF m pc Ls (.long z :: rest))) := by
  obtain ⟨fs, hr, hrun, hended, hW, hsame⟩ := X.leave (v := some (.long z)) (fun h => by rw [hret] at h; cases h) hlk
  exact ⟨_, _, retOut X hx hret rfl (Or.inr (Or.inl ⟨rfl, rfl, _, rfl⟩)) hd hr, hrun, hended, _, _, rfl, hq, ⟨_, rfl⟩, hW, hsame.mono hc hs⟩
theorem endR (X : Stand p l e R s m args below meth c T locs cells slots) (hx : p.tables.exec = Jvm.exec) {w : Value} {t : FieldType} (hret : meth.sig.returnType = some t) (ht : t.isReference = true) (hw : w.isRef = true) (hd : decode c.code pc = .ok (.areturn, 1)) (hlk : meth.locks = false)
    (hq : Q (some w) T.heap locs) (hc : cells ≤ ck) (hs : slots ≤ cs) : EndsK p e below (OQ s Q ck cs) (T.setTop (mkF m pc Ls (w :: rest))) := by
  obtain ⟨fs, hr, hrun, hended, hW, hsame⟩ := X.leave (v := some w) (fun h => by rw [hret] at h; cases h) hlk
  have hn : narrow t w = w := by cases t <;> first | (cases ht; done) | (cases w <;> first | rfl | (cases hw; done))
  exact ⟨_, _, retOut X hx hret hn (Or.inr (Or.inr (Or.inr (Or.inr ⟨rfl, ht, hw⟩)))) hd hr, hrun, hended, _, _, rfl, hq, ⟨_, rfl⟩, hW, hsame.mono hc hs⟩
theorem endV (X : Stand p l e R s m args below meth c T locs cells slots) (hx : p.tables.exec = Jvm.exec) (hret : meth.sig.returnType = none) (hd : decode c.code pc = .ok (.return_, 1)) (hlk : meth.locks = false)
    (hq : Q none T.heap locs) (hc : cells ≤ ck) (hs : slots ≤ cs) : EndsK p e below (OQ s Q ck cs) (T.setTop (mkF m pc Ls [])) := by
  obtain ⟨fs, hr, hrun, hended, hW, hsame⟩ := X.leave (v := none) (fun _ => rfl) hlk
  exact ⟨_, _, X.returnOut hx hret hd hr, hrun, hended, _, _, rfl, hq, ⟨_, rfl⟩, hW, hsame.mono hc hs⟩
end Leave
section Heaps
variable {h0 h h' : Heap} {a : Addr} {sl : Nat} {v : Value}
theorem ext_refl (h : Heap) : Ext h h := ⟨Nat.le_refl _, fun _ _ q => q⟩
theorem ext_trans (E : Ext h0 h) (E' : Ext h h') : Ext h0 h' := ⟨Nat.le_trans E.1 E'.1, fun x c q => E'.2 x c (E.2 x c q)⟩
theorem ext_wr (E : Ext h0 h) (W : Wr h h' a sl v) (q : h0.size ≤ a) : Ext h0 h' := by
  refine ⟨Nat.le_trans E.1 (Nat.le_of_eq W.size.symm), fun x c r => ?_⟩
  obtain ⟨c', e1, -, -, -, e5, -⟩ := wr_at W (E.2 x c r)
  rw [e1, e5 (fun z => by
    subst z
    exact absurd (Array.getElem?_eq_some_iff.mp r).1 (Nat.not_lt.mpr q))]
end Heaps
section Words
variable {Z : State} {args : Array Value} {t u : Term} {a b : Addr} {C n d O : String} {v : Value}
theorem fldI {k : Int32} (ev : t.eval args Z none [] Z = some (.ref a)) (h : (Cond.eq (.field t O n d) (.int k)).value args Z none Z [] = some true) : Fld Z Z.heap a O n d (.int k) := by
  obtain ⟨x, y, e1, e2, -, k2⟩ := cmp_v (Or.inl h)
  cases e2
  obtain ⟨z, rfl⟩ := k2
  have e3 := (fld_at (C := O) (n := n) (dd := d) ev).symm.trans e1
  have q := gotT (Cond.eq_ints e1 rfl) h
  subst q
  exact Fld.start e3
theorem fldR (ev : t.eval args Z none [] Z = some (.ref a)) (eu : u.eval args Z none [] Z = some (.ref b)) (h : (Cond.eq (.field t O n d) u).value args Z none Z [] = some true) : Fld Z Z.heap a O n d (.ref b) := by
  obtain ⟨x, y, e1, e2, -, k2⟩ := cmp_v (Or.inl h)
  cases eu.symm.trans e2
  have e3 := (fld_at (C := O) (n := n) (dd := d) ev).symm.trans e1
  have q := gotT (eq_R e1 eu k2.2 rfl) h
  subst q
  exact Fld.start e3
theorem fldN (ev : t.eval args Z none [] Z = some (.ref a)) (h : (Cond.eq (.field t O n d) .null).value args Z none Z [] = some true) : Fld Z Z.heap a O n d .null :=
  Fld.start ((fld_at (C := O) (n := n) (dd := d) ev).symm.trans (null_v h))
/-- an int[] of the start: its length and what it holds, as the case says -/
theorem arrLen {k : Int32} {cl : Cell} {ty : FieldType} (ev : t.eval args Z none [] Z = some (.ref a)) (A : Arr Z Z.heap a cl ty) (h : (Cond.eq (.length t) (.int k)).value args Z none Z [] = some true) : cl.slots.size < 2 ^ 31 ∧ cl.slots.size.toInt32 = k := by
  obtain ⟨x, y, e1, e2, -, k2⟩ := cmp_v (Or.inl h)
  cases e2
  obtain ⟨z, rfl⟩ := k2
  have q := gotT (Cond.eq_ints e1 rfl) h
  subst q
  have ha := A.fin (Vm.Alike.refl _)
  simp only [Term.eval, ev, ha, Option.bind_eq_bind, Option.bind_some] at e1
  split at e1
  · rename_i hlt; exact ⟨hlt, by simpa using e1⟩
  · cases e1
theorem arrAt {j k : Int32} {cl : Cell} {ty : FieldType} (ev : t.eval args Z none [] Z = some (.ref a)) (A : Arr Z Z.heap a cl ty) (h : (Cond.eq (.elem t (.int j)) (.int k)).value args Z none Z [] = some true) : ¬ (j < 0 ∨ cl.slots.size ≤ j.toNatClampNeg) ∧ cl.slots[j.toNatClampNeg]? = some (.int k) := by
  obtain ⟨x, y, e1, e2, -, k2⟩ := cmp_v (Or.inl h)
  cases e2
  obtain ⟨z, rfl⟩ := k2
  have q := gotT (Cond.eq_ints e1 rfl) h
  subst q
  exact elem_in e1 ev rfl A.1
end Words
end Jvm.OwnK
namespace Jvm.Pilot.@@N@@
open Jvm Jvm.ClassFile Sem Op Lib Jvm.Free Jvm.Stand Jvm.LawKit Jvm.RoadKit Jvm.OwnK Bundle Jvm.Pilot.@@N@@.Jvm.D
def holdsF (k o : Int32) : Int32 := if k = 0 then (if o = 0 then 1 else 0) else if k = 1 then (if o = 0 then 0 else 1) else if k = 2 then (if o < 0 then 1 else 0) else if k = 3 then (if 0 < o then 0 else 1) else if k = 4 then (if 0 < o then 1 else 0) else (if o < 0 then 0 else 1)
def bitF (o : Int32) : Int32 := if o < 0 then 1 else if o = 0 then 2 else 4
def accF (m o : Int32) : Int32 := if m &&& bitF o = 0 then 0 else 1
theorem own_law (o : Int32) : holdsF 0 o = accF 2 o ∧ holdsF 1 o = accF 5 o ∧ holdsF 2 o = accF 1 o ∧ holdsF 3 o = accF 3 o ∧ holdsF 4 o = accF 4 o ∧ holdsF 5 o = accF 6 o := by
  by_cases h1 : o < 0
  · have h2 : ¬ o = 0 := fun q => by subst q; exact absurd h1 (by decide)
    have h3 : ¬ 0 < o := fun q => by rw [Int32.lt_iff_toInt_lt] at h1 q; omega
    simp [holdsF, accF, bitF, h1, h2, h3]; decide
  · by_cases h2 : o = 0
    · subst h2; decide
    · have h3 : 0 < o := by
        rw [Int32.lt_iff_toInt_lt] at h1 ⊢
        have h4 : o.toInt ≠ (0 : Int32).toInt := fun q => h2 (Int32.toInt_inj.mp q)
        have h5 : (0 : Int32).toInt = 0 := rfl
        omega
      simp [holdsF, accF, bitF, h1, h2, h3]; decide
theorem d2_0 : decode jdk_37_method_2_code 0 = .ok (.aload_n 0, 1) := by decide +kernel
theorem d2_1 : decode jdk_37_method_2_code 1 = .ok (.getfield 7, 3) := by decide +kernel
theorem d2_4 : decode jdk_37_method_2_code 4 = .ok (.ireturn, 1) := by decide +kernel
theorem pn0 : plainName "java/lang/Enum" = true := by first | (simp [plainName, overriddenIn]; done) | decide +kernel
theorem ef_ord (m : MethodId) (a : Addr) (k : Int32) : entryFrame m #[(.ref a)] 1 = mkF m 0 #[.val (.ref a)] [] := by first | (simp [entryFrame, mkF, argsToLocals, Value.category]; done) | rfl
def Q_ord (Z : State) (a : Addr) (k : Int32) (h0 : Heap) (n0 : Nat) (vz : Option Value) (hz : Heap) (Lz : List Loc) : Prop := vz = some (.int k) ∧ Fr n0 Lz ∧ hz = h0
set_option maxRecDepth 65536 in
set_option maxHeartbeats 40000000 in
theorem rm_ord (l : Launch) (Z : State) (a0 : Array Value) (hw : ∀ d ∈ tables_1, d.before a0 Z = true) (ws : List Jvm.Cond) (a : Addr) (k : Int32) (h0 : Heap) (n0 : Nat) (Z0 : n0 ≤ h0.size) (F : Fld Z h0 a "java/lang/Enum" "ordinal" "I" (.int k)) :
    MetFree l (⟨"java/lang/Enum", "ordinal", "()I"⟩ : MethodName) (head1 (Jvm.Cond.code (⟨"java/lang/Enum", "ordinal", "()I"⟩ : MethodName) jdk_37_method_2_code 1 (some .int) :: ws) ({ frames := 0, cells := 0, slots := 0, locals := 0 } : Room)) (fun az Uz => az = #[(.ref a)] ∧ Z.Warmed39 Uz.vm ∧ Uz.heap = h0) (fun _ _ _ _ _ => True) (fun _ Uz oz Ut => ∃ vz Lz, oz = .returned vz ∧ Q_ord Z a k h0 n0 vz Ut.heap Lz ∧ FrameEnd Uz oz Ut Lz (({ frames := 0, cells := 0, slots := 0, locals := 0 } : Room)).cells (({ frames := 0, cells := 0, slots := 0, locals := 0 } : Room)).slots) := by
  refine MetFree.of_bodySF (plainFor_of_name pn0) hisR ?_
  intro p e s m args below meth c s₁ Bd hml0 hP hK
  obtain ⟨rfl, hZ, hh⟩ := hP
  have hx := Bd.exec
  have hby := Bd.bytes
  have hml : c.maxLocals = 1 := hml0
  have hown : s.vm.findClass "java/lang/Enum" = some m.cls := findClass_of_methodNamed Bd.named
  have hnm := (name_of_methodNamed Bd.named Bd.method).1
  have hlk : meth.locks = false := Bd.notSynchronized
  have X0 : Stand p l e ({ frames := 0, cells := 0, slots := 0, locals := 0 } : Room) s m #[(.ref a)] below meth c s₁ [] 0 0 := Stand.of_body Bd
  have e0 : s₁.heap = h0 := by rw [← hh, Bd.state]; rfl
  have N0 := Fr.nil n0
  show EndsK p e below (OQ s (Q_ord Z a k h0 n0) (({ frames := 0, cells := 0, slots := 0, locals := 0 } : Room)).cells (({ frames := 0, cells := 0, slots := 0, locals := 0 } : Room)).slots) (s₁.setTop (entryFrame m #[(.ref a)] 1))
  refine EndsK.start (ef_ord m a k) ?_
  show EndsK p e below _ (s₁.setTop (mkF m 0 #[.val (.ref a)] []))
  refine EndsK.go (fun _ kz => XS.aloadN X0.here hx rfl (hb hby d2_0) rfl rfl kz) ?_
  show EndsK p e below _ (s₁.setTop (mkF m 1 #[.val (.ref a)] [(.ref a)]))
  obtain ⟨T1, X1, e1, st1⟩ := getF X0 hx hZ hown (host := "") (Or.inl (hw _ (List.mem_of_getElem? (i := 15) rfl))) Via.refl e0 F (g := (mkF m 1 #[.val (.ref a)] [(.ref a)])) rfl rfl (hb hby d2_1)
  refine EndsK.go st1 ?_
  show EndsK p e below _ (T1.setTop (mkF m 4 #[.val (.ref a)] [(.int k)]))
  exact endI X1 hx Bd.returns (hb hby d2_4) hlk ⟨rfl, N0, e1⟩ (by decide) (by decide)
theorem d1_0 : decode prog_20_method_5_code 0 = .ok (.aload_n 0, 1) := by decide +kernel
theorem d1_1 : decode prog_20_method_5_code 1 = .ok (.invokevirtual 55, 3) := by decide +kernel
theorem d1_4 : decode prog_20_method_5_code 4 = .ok (.tableswitch 40 0 5 #[50, 62, 74, 86, 98, 110], 40) := by decide +kernel
theorem d1_44 : decode prog_20_method_5_code 44 = .ok (.new 59, 3) := by decide +kernel
theorem d1_47 : decode prog_20_method_5_code 47 = .ok (.dup, 1) := by decide +kernel
theorem d1_48 : decode prog_20_method_5_code 48 = .ok (.aconst_null, 1) := by decide +kernel
theorem d1_49 : decode prog_20_method_5_code 49 = .ok (.aconst_null, 1) := by decide +kernel
theorem d1_50 : decode prog_20_method_5_code 50 = .ok (.invokespecial 61, 3) := by decide +kernel
theorem d1_53 : decode prog_20_method_5_code 53 = .ok (.athrow, 1) := by decide +kernel
theorem d1_54 : decode prog_20_method_5_code 54 = .ok (.iload_n 1, 1) := by decide +kernel
theorem d1_55 : decode prog_20_method_5_code 55 = .ok (.ifCond .ne 7, 3) := by decide +kernel
theorem d1_58 : decode prog_20_method_5_code 58 = .ok (.iconst 1, 1) := by decide +kernel
theorem d1_59 : decode prog_20_method_5_code 59 = .ok (.goto 64, 3) := by decide +kernel
theorem d1_62 : decode prog_20_method_5_code 62 = .ok (.iconst 0, 1) := by decide +kernel
theorem d1_63 : decode prog_20_method_5_code 63 = .ok (.goto 60, 3) := by decide +kernel
theorem d1_66 : decode prog_20_method_5_code 66 = .ok (.iload_n 1, 1) := by decide +kernel
theorem d1_67 : decode prog_20_method_5_code 67 = .ok (.ifCond .eq 7, 3) := by decide +kernel
theorem d1_70 : decode prog_20_method_5_code 70 = .ok (.iconst 1, 1) := by decide +kernel
theorem d1_71 : decode prog_20_method_5_code 71 = .ok (.goto 52, 3) := by decide +kernel
theorem d1_74 : decode prog_20_method_5_code 74 = .ok (.iconst 0, 1) := by decide +kernel
theorem d1_75 : decode prog_20_method_5_code 75 = .ok (.goto 48, 3) := by decide +kernel
theorem d1_78 : decode prog_20_method_5_code 78 = .ok (.iload_n 1, 1) := by decide +kernel
theorem d1_79 : decode prog_20_method_5_code 79 = .ok (.ifCond .ge 7, 3) := by decide +kernel
theorem d1_82 : decode prog_20_method_5_code 82 = .ok (.iconst 1, 1) := by decide +kernel
theorem d1_83 : decode prog_20_method_5_code 83 = .ok (.goto 40, 3) := by decide +kernel
theorem d1_86 : decode prog_20_method_5_code 86 = .ok (.iconst 0, 1) := by decide +kernel
theorem d1_87 : decode prog_20_method_5_code 87 = .ok (.goto 36, 3) := by decide +kernel
theorem d1_90 : decode prog_20_method_5_code 90 = .ok (.iload_n 1, 1) := by decide +kernel
theorem d1_91 : decode prog_20_method_5_code 91 = .ok (.ifCond .gt 7, 3) := by decide +kernel
theorem d1_94 : decode prog_20_method_5_code 94 = .ok (.iconst 1, 1) := by decide +kernel
theorem d1_95 : decode prog_20_method_5_code 95 = .ok (.goto 28, 3) := by decide +kernel
theorem d1_98 : decode prog_20_method_5_code 98 = .ok (.iconst 0, 1) := by decide +kernel
theorem d1_99 : decode prog_20_method_5_code 99 = .ok (.goto 24, 3) := by decide +kernel
theorem d1_102 : decode prog_20_method_5_code 102 = .ok (.iload_n 1, 1) := by decide +kernel
theorem d1_103 : decode prog_20_method_5_code 103 = .ok (.ifCond .le 7, 3) := by decide +kernel
theorem d1_106 : decode prog_20_method_5_code 106 = .ok (.iconst 1, 1) := by decide +kernel
theorem d1_107 : decode prog_20_method_5_code 107 = .ok (.goto 16, 3) := by decide +kernel
theorem d1_110 : decode prog_20_method_5_code 110 = .ok (.iconst 0, 1) := by decide +kernel
theorem d1_111 : decode prog_20_method_5_code 111 = .ok (.goto 12, 3) := by decide +kernel
theorem d1_114 : decode prog_20_method_5_code 114 = .ok (.iload_n 1, 1) := by decide +kernel
theorem d1_115 : decode prog_20_method_5_code 115 = .ok (.ifCond .lt 7, 3) := by decide +kernel
theorem d1_118 : decode prog_20_method_5_code 118 = .ok (.iconst 1, 1) := by decide +kernel
theorem d1_119 : decode prog_20_method_5_code 119 = .ok (.goto 4, 3) := by decide +kernel
theorem d1_122 : decode prog_20_method_5_code 122 = .ok (.iconst 0, 1) := by decide +kernel
theorem d1_123 : decode prog_20_method_5_code 123 = .ok (.ireturn, 1) := by decide +kernel
theorem pn1 : plainName "com/example/windrow/windrow/Condition$Comparison" = true := by first | (simp [plainName, overriddenIn]; done) | decide +kernel
theorem ef_holds0 (m : MethodId) (a : Addr) (o : Int32) : entryFrame m #[(.ref a), (.int o)] 2 = mkF m 0 #[.val (.ref a), .val (.int o)] [] := by first | (simp [entryFrame, mkF, argsToLocals, Value.category]; done) | rfl
def Q_holds0 (Z : State) (a : Addr) (o : Int32) (h0 : Heap) (n0 : Nat) (vz : Option Value) (hz : Heap) (Lz : List Loc) : Prop := vz = some (.int (holdsF 0 o)) ∧ Fr n0 Lz ∧ hz = h0
theorem pd0 : parseMethodDescriptor "()I" = some ⟨[], some .int⟩ := by decide +kernel
set_option maxRecDepth 65536 in
set_option maxHeartbeats 40000000 in
theorem rm_holds0 (l : Launch) (Z : State) (a0 : Array Value) (hw : ∀ d ∈ tables_1, d.before a0 Z = true) (ws : List Jvm.Cond) (a : Addr) (o : Int32) (h0 : Heap) (n0 : Nat) (Z0 : n0 ≤ h0.size) (F : Fld Z h0 a "java/lang/Enum" "ordinal" "I" (.int (0 : Int32))) (E : Exa Z h0 a "com/example/windrow/windrow/Condition$Comparison") :
    MetFree l (⟨"com/example/windrow/windrow/Condition$Comparison", "holds", "(I)Z"⟩ : MethodName) (head1 (Jvm.Cond.code (⟨"com/example/windrow/windrow/Condition$Comparison", "holds", "(I)Z"⟩ : MethodName) prog_20_method_5_code 2 (some .boolean) :: ws) ({ frames := 1, cells := 0, slots := 0, locals := 12 } : Room)) (fun az Uz => az = #[(.ref a), (.int o)] ∧ Z.Warmed39 Uz.vm ∧ Uz.heap = h0) (fun _ _ _ _ _ => True) (fun _ Uz oz Ut => ∃ vz Lz, oz = .returned vz ∧ Q_holds0 Z a o h0 n0 vz Ut.heap Lz ∧ FrameEnd Uz oz Ut Lz (({ frames := 1, cells := 0, slots := 0, locals := 12 } : Room)).cells (({ frames := 1, cells := 0, slots := 0, locals := 12 } : Room)).slots) := by
  refine MetFree.of_bodySF (plainFor_of_name pn1) hisR ?_
  intro p e s m args below meth c s₁ Bd hml0 hP hK
  obtain ⟨rfl, hZ, hh⟩ := hP
  have hx := Bd.exec
  have hby := Bd.bytes
  have hml : c.maxLocals = 2 := hml0
  have hown : s.vm.findClass "com/example/windrow/windrow/Condition$Comparison" = some m.cls := findClass_of_methodNamed Bd.named
  have hnm := (name_of_methodNamed Bd.named Bd.method).1
  have hlk : meth.locks = false := Bd.notSynchronized
  have X0 : Stand p l e ({ frames := 1, cells := 0, slots := 0, locals := 12 } : Room) s m #[(.ref a), (.int o)] below meth c s₁ [] 0 0 := Stand.of_body Bd
  have e0 : s₁.heap = h0 := by rw [← hh, Bd.state]; rfl
  have N0 := Fr.nil n0
  show EndsK p e below (OQ s (Q_holds0 Z a o h0 n0) (({ frames := 1, cells := 0, slots := 0, locals := 12 } : Room)).cells (({ frames := 1, cells := 0, slots := 0, locals := 12 } : Room)).slots) (s₁.setTop (entryFrame m #[(.ref a), (.int o)] 2))
  refine EndsK.start (ef_holds0 m a o) ?_
  show EndsK p e below _ (s₁.setTop (mkF m 0 #[.val (.ref a), .val (.int o)] []))
  refine EndsK.go (fun _ kz => XS.aloadN X0.here hx rfl (hb hby d1_0) rfl rfl kz) ?_
  show EndsK p e below _ (s₁.setTop (mkF m 1 #[.val (.ref a), .val (.int o)] [(.ref a)]))
  obtain ⟨cq1, kq1, qa1, qb1, qc1⟩ := isOf hZ e0 E
  obtain ⟨_, _, ⟨T1, L1, k1, n1⟩, -, X1, ⟨Lc1, hQ1, l1, y1, z1⟩, st1⟩ := X0.virtualBackUp hx (owner := "java/lang/Enum") (x := (⟨"com/example/windrow/windrow/Condition$Comparison", "ordinal", "()I"⟩ : MethodName)) (y := (⟨"java/lang/Enum", "ordinal", "()I"⟩ : MethodName)) hown (mvT hZ (hw _ (List.mem_of_getElem? (i := 8) rfl))) (mvT hZ (hw _ (List.mem_of_getElem? (i := 9) rfl))) (mvT hZ (hw _ (List.mem_of_getElem? (i := 10) rfl))) (by decide) (mvT hZ (hw _ (List.mem_of_getElem? (i := 12) rfl))) (mvT hZ (hw _ (List.mem_of_getElem? (i := 11) rfl))) (backOf (W := 0) (rm_ord l Z a0 hw [] a (0 : Int32) h0 n0 Z0 F) hZ (hw _ (List.mem_of_getElem? (i := 14) rfl)) (hw _ (List.mem_of_getElem? (i := 13) rfl)) (by decide) (by decide)) qa1 qc1 (g := (mkF m 1 #[.val (.ref a), .val (.int o)] [(.ref a)])) rfl (by rw [hml]; rfl) (Steps.refl _) (argsL := []) (rest := []) (lenOf pd0 rfl) rfl (by show 2 * 0 + _ ≤ _; exact Nat.le_of_eq rfl) (hb hby d1_1) (fun _ _ => ⟨rfl, e0, (by decide : 0 + 0 ≤ _), (by decide : 0 + 0 ≤ _)⟩)
  dsimp only [Pt.U, Pt.locs, Pt.cells, Pt.slots] at X1 l1 y1 z1 st1 hQ1
  subst l1 y1 z1
  obtain ⟨rfl, N1, e1⟩ := hQ1
  have M1 := Fr.app N0 N1
  refine EndsK.tr st1 ?_
  show EndsK p e below _ (T1.setTop (mkF m 4 #[.val (.ref a), .val (.int o)] [(.int (0 : Int32))]))
  refine EndsK.go (fun _ kz => XS.tswIn X1.here hx rfl (pc0 := 4) (pc' := 54) rfl (hb hby d1_4) rfl (by decide) (o := 50) rfl (by decide) (by decide) kz) ?_
  show EndsK p e below _ (T1.setTop (mkF m 54 #[.val (.ref a), .val (.int o)] []))
  refine EndsK.go (fun _ kz => XS.iloadN X1.here hx rfl (hb hby d1_54) rfl kz) ?_
  show EndsK p e below _ (T1.setTop (mkF m 55 #[.val (.ref a), .val (.int o)] [(.int o)]))
  by_cases H55_2 : o = (0 : Int32)
  · refine EndsK.go (fun _ kz => XS.ifNo X1.here hx rfl (hb hby d1_55) rfl ((if0 _ _).trans (teq H55_2).2) kz) ?_
    show EndsK p e below _ (T1.setTop (mkF m 58 #[.val (.ref a), .val (.int o)] []))
    refine EndsK.go (fun _ kz => XS.iconst X1.here hx rfl (hb hby d1_58) kz) ?_
    show EndsK p e below _ (T1.setTop (mkF m 59 #[.val (.ref a), .val (.int o)] [(.int (1 : Int32))]))
    refine EndsK.go (fun _ kz => XS.goto X1.here hx rfl (pc0 := 59) (pc' := 123) rfl (hb hby d1_59) (by decide) (by decide) kz) ?_
    show EndsK p e below _ (T1.setTop (mkF m 123 #[.val (.ref a), .val (.int o)] [(.int (1 : Int32))]))
    exact endN X1 hx (t := .boolean) Bd.returns (by simp) (hb hby d1_123) hlk ⟨(congrArg (fun z => some (Value.int z)) (by simp [holdsF, H55_2] : (holdsF 0 o) = (1 : Int32))).symm, M1, e1⟩ (by decide) (by decide)
  · refine EndsK.go (fun _ kz => XS.ifYes X1.here hx rfl (pc0 := 55) (pc' := 62) rfl (hb hby d1_55) rfl ((if0 _ _).trans (feq H55_2).2) (by decide) (by decide) kz) ?_
    show EndsK p e below _ (T1.setTop (mkF m 62 #[.val (.ref a), .val (.int o)] []))
    refine EndsK.go (fun _ kz => XS.iconst X1.here hx rfl (hb hby d1_62) kz) ?_
    show EndsK p e below _ (T1.setTop (mkF m 63 #[.val (.ref a), .val (.int o)] [(.int (0 : Int32))]))
    refine EndsK.go (fun _ kz => XS.goto X1.here hx rfl (pc0 := 63) (pc' := 123) rfl (hb hby d1_63) (by decide) (by decide) kz) ?_
    show EndsK p e below _ (T1.setTop (mkF m 123 #[.val (.ref a), .val (.int o)] [(.int (0 : Int32))]))
    exact endN X1 hx (t := .boolean) Bd.returns (by simp) (hb hby d1_123) hlk ⟨(congrArg (fun z => some (Value.int z)) (by simp [holdsF, H55_2] : (holdsF 0 o) = (0 : Int32))).symm, M1, e1⟩ (by decide) (by decide)
theorem ef_holds1 (m : MethodId) (a : Addr) (o : Int32) : entryFrame m #[(.ref a), (.int o)] 2 = mkF m 0 #[.val (.ref a), .val (.int o)] [] := by first | (simp [entryFrame, mkF, argsToLocals, Value.category]; done) | rfl
def Q_holds1 (Z : State) (a : Addr) (o : Int32) (h0 : Heap) (n0 : Nat) (vz : Option Value) (hz : Heap) (Lz : List Loc) : Prop := vz = some (.int (holdsF 1 o)) ∧ Fr n0 Lz ∧ hz = h0
set_option maxRecDepth 65536 in
set_option maxHeartbeats 40000000 in
theorem rm_holds1 (l : Launch) (Z : State) (a0 : Array Value) (hw : ∀ d ∈ tables_1, d.before a0 Z = true) (ws : List Jvm.Cond) (a : Addr) (o : Int32) (h0 : Heap) (n0 : Nat) (Z0 : n0 ≤ h0.size) (F : Fld Z h0 a "java/lang/Enum" "ordinal" "I" (.int (1 : Int32))) (E : Exa Z h0 a "com/example/windrow/windrow/Condition$Comparison") :
    MetFree l (⟨"com/example/windrow/windrow/Condition$Comparison", "holds", "(I)Z"⟩ : MethodName) (head1 (Jvm.Cond.code (⟨"com/example/windrow/windrow/Condition$Comparison", "holds", "(I)Z"⟩ : MethodName) prog_20_method_5_code 2 (some .boolean) :: ws) ({ frames := 1, cells := 0, slots := 0, locals := 12 } : Room)) (fun az Uz => az = #[(.ref a), (.int o)] ∧ Z.Warmed39 Uz.vm ∧ Uz.heap = h0) (fun _ _ _ _ _ => True) (fun _ Uz oz Ut => ∃ vz Lz, oz = .returned vz ∧ Q_holds1 Z a o h0 n0 vz Ut.heap Lz ∧ FrameEnd Uz oz Ut Lz (({ frames := 1, cells := 0, slots := 0, locals := 12 } : Room)).cells (({ frames := 1, cells := 0, slots := 0, locals := 12 } : Room)).slots) := by
  refine MetFree.of_bodySF (plainFor_of_name pn1) hisR ?_
  intro p e s m args below meth c s₁ Bd hml0 hP hK
  obtain ⟨rfl, hZ, hh⟩ := hP
  have hx := Bd.exec
  have hby := Bd.bytes
  have hml : c.maxLocals = 2 := hml0
  have hown : s.vm.findClass "com/example/windrow/windrow/Condition$Comparison" = some m.cls := findClass_of_methodNamed Bd.named
  have hnm := (name_of_methodNamed Bd.named Bd.method).1
  have hlk : meth.locks = false := Bd.notSynchronized
  have X0 : Stand p l e ({ frames := 1, cells := 0, slots := 0, locals := 12 } : Room) s m #[(.ref a), (.int o)] below meth c s₁ [] 0 0 := Stand.of_body Bd
  have e0 : s₁.heap = h0 := by rw [← hh, Bd.state]; rfl
  have N0 := Fr.nil n0
  show EndsK p e below (OQ s (Q_holds1 Z a o h0 n0) (({ frames := 1, cells := 0, slots := 0, locals := 12 } : Room)).cells (({ frames := 1, cells := 0, slots := 0, locals := 12 } : Room)).slots) (s₁.setTop (entryFrame m #[(.ref a), (.int o)] 2))
  refine EndsK.start (ef_holds1 m a o) ?_
  show EndsK p e below _ (s₁.setTop (mkF m 0 #[.val (.ref a), .val (.int o)] []))
  refine EndsK.go (fun _ kz => XS.aloadN X0.here hx rfl (hb hby d1_0) rfl rfl kz) ?_
  show EndsK p e below _ (s₁.setTop (mkF m 1 #[.val (.ref a), .val (.int o)] [(.ref a)]))
  obtain ⟨cq1, kq1, qa1, qb1, qc1⟩ := isOf hZ e0 E
  obtain ⟨_, _, ⟨T1, L1, k1, n1⟩, -, X1, ⟨Lc1, hQ1, l1, y1, z1⟩, st1⟩ := X0.virtualBackUp hx (owner := "java/lang/Enum") (x := (⟨"com/example/windrow/windrow/Condition$Comparison", "ordinal", "()I"⟩ : MethodName)) (y := (⟨"java/lang/Enum", "ordinal", "()I"⟩ : MethodName)) hown (mvT hZ (hw _ (List.mem_of_getElem? (i := 8) rfl))) (mvT hZ (hw _ (List.mem_of_getElem? (i := 9) rfl))) (mvT hZ (hw _ (List.mem_of_getElem? (i := 10) rfl))) (by decide) (mvT hZ (hw _ (List.mem_of_getElem? (i := 12) rfl))) (mvT hZ (hw _ (List.mem_of_getElem? (i := 11) rfl))) (backOf (W := 0) (rm_ord l Z a0 hw [] a (1 : Int32) h0 n0 Z0 F) hZ (hw _ (List.mem_of_getElem? (i := 14) rfl)) (hw _ (List.mem_of_getElem? (i := 13) rfl)) (by decide) (by decide)) qa1 qc1 (g := (mkF m 1 #[.val (.ref a), .val (.int o)] [(.ref a)])) rfl (by rw [hml]; rfl) (Steps.refl _) (argsL := []) (rest := []) (lenOf pd0 rfl) rfl (by show 2 * 0 + _ ≤ _; exact Nat.le_of_eq rfl) (hb hby d1_1) (fun _ _ => ⟨rfl, e0, (by decide : 0 + 0 ≤ _), (by decide : 0 + 0 ≤ _)⟩)
  dsimp only [Pt.U, Pt.locs, Pt.cells, Pt.slots] at X1 l1 y1 z1 st1 hQ1
  subst l1 y1 z1
  obtain ⟨rfl, N1, e1⟩ := hQ1
  have M1 := Fr.app N0 N1
  refine EndsK.tr st1 ?_
  show EndsK p e below _ (T1.setTop (mkF m 4 #[.val (.ref a), .val (.int o)] [(.int (1 : Int32))]))
  refine EndsK.go (fun _ kz => XS.tswIn X1.here hx rfl (pc0 := 4) (pc' := 66) rfl (hb hby d1_4) rfl (by decide) (o := 62) rfl (by decide) (by decide) kz) ?_
  show EndsK p e below _ (T1.setTop (mkF m 66 #[.val (.ref a), .val (.int o)] []))
  refine EndsK.go (fun _ kz => XS.iloadN X1.here hx rfl (hb hby d1_66) rfl kz) ?_
  show EndsK p e below _ (T1.setTop (mkF m 67 #[.val (.ref a), .val (.int o)] [(.int o)]))
  by_cases H67_2 : o = (0 : Int32)
  · refine EndsK.go (fun _ kz => XS.ifYes X1.here hx rfl (pc0 := 67) (pc' := 74) rfl (hb hby d1_67) rfl ((if0 _ _).trans (teq H67_2).1) (by decide) (by decide) kz) ?_
    show EndsK p e below _ (T1.setTop (mkF m 74 #[.val (.ref a), .val (.int o)] []))
    refine EndsK.go (fun _ kz => XS.iconst X1.here hx rfl (hb hby d1_74) kz) ?_
    show EndsK p e below _ (T1.setTop (mkF m 75 #[.val (.ref a), .val (.int o)] [(.int (0 : Int32))]))
    refine EndsK.go (fun _ kz => XS.goto X1.here hx rfl (pc0 := 75) (pc' := 123) rfl (hb hby d1_75) (by decide) (by decide) kz) ?_
    show EndsK p e below _ (T1.setTop (mkF m 123 #[.val (.ref a), .val (.int o)] [(.int (0 : Int32))]))
    exact endN X1 hx (t := .boolean) Bd.returns (by simp) (hb hby d1_123) hlk ⟨(congrArg (fun z => some (Value.int z)) (by simp [holdsF, H67_2] : (holdsF 1 o) = (0 : Int32))).symm, M1, e1⟩ (by decide) (by decide)
  · refine EndsK.go (fun _ kz => XS.ifNo X1.here hx rfl (hb hby d1_67) rfl ((if0 _ _).trans (feq H67_2).1) kz) ?_
    show EndsK p e below _ (T1.setTop (mkF m 70 #[.val (.ref a), .val (.int o)] []))
    refine EndsK.go (fun _ kz => XS.iconst X1.here hx rfl (hb hby d1_70) kz) ?_
    show EndsK p e below _ (T1.setTop (mkF m 71 #[.val (.ref a), .val (.int o)] [(.int (1 : Int32))]))
    refine EndsK.go (fun _ kz => XS.goto X1.here hx rfl (pc0 := 71) (pc' := 123) rfl (hb hby d1_71) (by decide) (by decide) kz) ?_
    show EndsK p e below _ (T1.setTop (mkF m 123 #[.val (.ref a), .val (.int o)] [(.int (1 : Int32))]))
    exact endN X1 hx (t := .boolean) Bd.returns (by simp) (hb hby d1_123) hlk ⟨(congrArg (fun z => some (Value.int z)) (by simp [holdsF, H67_2] : (holdsF 1 o) = (1 : Int32))).symm, M1, e1⟩ (by decide) (by decide)
theorem ef_holds2 (m : MethodId) (a : Addr) (o : Int32) : entryFrame m #[(.ref a), (.int o)] 2 = mkF m 0 #[.val (.ref a), .val (.int o)] [] := by first | (simp [entryFrame, mkF, argsToLocals, Value.category]; done) | rfl
def Q_holds2 (Z : State) (a : Addr) (o : Int32) (h0 : Heap) (n0 : Nat) (vz : Option Value) (hz : Heap) (Lz : List Loc) : Prop := vz = some (.int (holdsF 2 o)) ∧ Fr n0 Lz ∧ hz = h0
set_option maxRecDepth 65536 in
set_option maxHeartbeats 40000000 in
theorem rm_holds2 (l : Launch) (Z : State) (a0 : Array Value) (hw : ∀ d ∈ tables_1, d.before a0 Z = true) (ws : List Jvm.Cond) (a : Addr) (o : Int32) (h0 : Heap) (n0 : Nat) (Z0 : n0 ≤ h0.size) (F : Fld Z h0 a "java/lang/Enum" "ordinal" "I" (.int (2 : Int32))) (E : Exa Z h0 a "com/example/windrow/windrow/Condition$Comparison") :
    MetFree l (⟨"com/example/windrow/windrow/Condition$Comparison", "holds", "(I)Z"⟩ : MethodName) (head1 (Jvm.Cond.code (⟨"com/example/windrow/windrow/Condition$Comparison", "holds", "(I)Z"⟩ : MethodName) prog_20_method_5_code 2 (some .boolean) :: ws) ({ frames := 1, cells := 0, slots := 0, locals := 12 } : Room)) (fun az Uz => az = #[(.ref a), (.int o)] ∧ Z.Warmed39 Uz.vm ∧ Uz.heap = h0) (fun _ _ _ _ _ => True) (fun _ Uz oz Ut => ∃ vz Lz, oz = .returned vz ∧ Q_holds2 Z a o h0 n0 vz Ut.heap Lz ∧ FrameEnd Uz oz Ut Lz (({ frames := 1, cells := 0, slots := 0, locals := 12 } : Room)).cells (({ frames := 1, cells := 0, slots := 0, locals := 12 } : Room)).slots) := by
  refine MetFree.of_bodySF (plainFor_of_name pn1) hisR ?_
  intro p e s m args below meth c s₁ Bd hml0 hP hK
  obtain ⟨rfl, hZ, hh⟩ := hP
  have hx := Bd.exec
  have hby := Bd.bytes
  have hml : c.maxLocals = 2 := hml0
  have hown : s.vm.findClass "com/example/windrow/windrow/Condition$Comparison" = some m.cls := findClass_of_methodNamed Bd.named
  have hnm := (name_of_methodNamed Bd.named Bd.method).1
  have hlk : meth.locks = false := Bd.notSynchronized
  have X0 : Stand p l e ({ frames := 1, cells := 0, slots := 0, locals := 12 } : Room) s m #[(.ref a), (.int o)] below meth c s₁ [] 0 0 := Stand.of_body Bd
  have e0 : s₁.heap = h0 := by rw [← hh, Bd.state]; rfl
  have N0 := Fr.nil n0
  show EndsK p e below (OQ s (Q_holds2 Z a o h0 n0) (({ frames := 1, cells := 0, slots := 0, locals := 12 } : Room)).cells (({ frames := 1, cells := 0, slots := 0, locals := 12 } : Room)).slots) (s₁.setTop (entryFrame m #[(.ref a), (.int o)] 2))
  refine EndsK.start (ef_holds2 m a o) ?_
  show EndsK p e below _ (s₁.setTop (mkF m 0 #[.val (.ref a), .val (.int o)] []))
  refine EndsK.go (fun _ kz => XS.aloadN X0.here hx rfl (hb hby d1_0) rfl rfl kz) ?_
  show EndsK p e below _ (s₁.setTop (mkF m 1 #[.val (.ref a), .val (.int o)] [(.ref a)]))
  obtain ⟨cq1, kq1, qa1, qb1, qc1⟩ := isOf hZ e0 E
  obtain ⟨_, _, ⟨T1, L1, k1, n1⟩, -, X1, ⟨Lc1, hQ1, l1, y1, z1⟩, st1⟩ := X0.virtualBackUp hx (owner := "java/lang/Enum") (x := (⟨"com/example/windrow/windrow/Condition$Comparison", "ordinal", "()I"⟩ : MethodName)) (y := (⟨"java/lang/Enum", "ordinal", "()I"⟩ : MethodName)) hown (mvT hZ (hw _ (List.mem_of_getElem? (i := 8) rfl))) (mvT hZ (hw _ (List.mem_of_getElem? (i := 9) rfl))) (mvT hZ (hw _ (List.mem_of_getElem? (i := 10) rfl))) (by decide) (mvT hZ (hw _ (List.mem_of_getElem? (i := 12) rfl))) (mvT hZ (hw _ (List.mem_of_getElem? (i := 11) rfl))) (backOf (W := 0) (rm_ord l Z a0 hw [] a (2 : Int32) h0 n0 Z0 F) hZ (hw _ (List.mem_of_getElem? (i := 14) rfl)) (hw _ (List.mem_of_getElem? (i := 13) rfl)) (by decide) (by decide)) qa1 qc1 (g := (mkF m 1 #[.val (.ref a), .val (.int o)] [(.ref a)])) rfl (by rw [hml]; rfl) (Steps.refl _) (argsL := []) (rest := []) (lenOf pd0 rfl) rfl (by show 2 * 0 + _ ≤ _; exact Nat.le_of_eq rfl) (hb hby d1_1) (fun _ _ => ⟨rfl, e0, (by decide : 0 + 0 ≤ _), (by decide : 0 + 0 ≤ _)⟩)
  dsimp only [Pt.U, Pt.locs, Pt.cells, Pt.slots] at X1 l1 y1 z1 st1 hQ1
  subst l1 y1 z1
  obtain ⟨rfl, N1, e1⟩ := hQ1
  have M1 := Fr.app N0 N1
  refine EndsK.tr st1 ?_
  show EndsK p e below _ (T1.setTop (mkF m 4 #[.val (.ref a), .val (.int o)] [(.int (2 : Int32))]))
  refine EndsK.go (fun _ kz => XS.tswIn X1.here hx rfl (pc0 := 4) (pc' := 78) rfl (hb hby d1_4) rfl (by decide) (o := 74) rfl (by decide) (by decide) kz) ?_
  show EndsK p e below _ (T1.setTop (mkF m 78 #[.val (.ref a), .val (.int o)] []))
  refine EndsK.go (fun _ kz => XS.iloadN X1.here hx rfl (hb hby d1_78) rfl kz) ?_
  show EndsK p e below _ (T1.setTop (mkF m 79 #[.val (.ref a), .val (.int o)] [(.int o)]))
  by_cases H79_2 : o < (0 : Int32)
  · refine EndsK.go (fun _ kz => XS.ifNo X1.here hx rfl (hb hby d1_79) rfl ((if0 _ _).trans (tlt H79_2).2.1) kz) ?_
    show EndsK p e below _ (T1.setTop (mkF m 82 #[.val (.ref a), .val (.int o)] []))
    refine EndsK.go (fun _ kz => XS.iconst X1.here hx rfl (hb hby d1_82) kz) ?_
    show EndsK p e below _ (T1.setTop (mkF m 83 #[.val (.ref a), .val (.int o)] [(.int (1 : Int32))]))
    refine EndsK.go (fun _ kz => XS.goto X1.here hx rfl (pc0 := 83) (pc' := 123) rfl (hb hby d1_83) (by decide) (by decide) kz) ?_
    show EndsK p e below _ (T1.setTop (mkF m 123 #[.val (.ref a), .val (.int o)] [(.int (1 : Int32))]))
    exact endN X1 hx (t := .boolean) Bd.returns (by simp) (hb hby d1_123) hlk ⟨(congrArg (fun z => some (Value.int z)) (by simp [holdsF, H79_2] : (holdsF 2 o) = (1 : Int32))).symm, M1, e1⟩ (by decide) (by decide)
  · refine EndsK.go (fun _ kz => XS.ifYes X1.here hx rfl (pc0 := 79) (pc' := 86) rfl (hb hby d1_79) rfl ((if0 _ _).trans (flt H79_2).2.1) (by decide) (by decide) kz) ?_
    show EndsK p e below _ (T1.setTop (mkF m 86 #[.val (.ref a), .val (.int o)] []))
    refine EndsK.go (fun _ kz => XS.iconst X1.here hx rfl (hb hby d1_86) kz) ?_
    show EndsK p e below _ (T1.setTop (mkF m 87 #[.val (.ref a), .val (.int o)] [(.int (0 : Int32))]))
    refine EndsK.go (fun _ kz => XS.goto X1.here hx rfl (pc0 := 87) (pc' := 123) rfl (hb hby d1_87) (by decide) (by decide) kz) ?_
    show EndsK p e below _ (T1.setTop (mkF m 123 #[.val (.ref a), .val (.int o)] [(.int (0 : Int32))]))
    exact endN X1 hx (t := .boolean) Bd.returns (by simp) (hb hby d1_123) hlk ⟨(congrArg (fun z => some (Value.int z)) (by simp [holdsF, H79_2] : (holdsF 2 o) = (0 : Int32))).symm, M1, e1⟩ (by decide) (by decide)
theorem ef_holds3 (m : MethodId) (a : Addr) (o : Int32) : entryFrame m #[(.ref a), (.int o)] 2 = mkF m 0 #[.val (.ref a), .val (.int o)] [] := by first | (simp [entryFrame, mkF, argsToLocals, Value.category]; done) | rfl
def Q_holds3 (Z : State) (a : Addr) (o : Int32) (h0 : Heap) (n0 : Nat) (vz : Option Value) (hz : Heap) (Lz : List Loc) : Prop := vz = some (.int (holdsF 3 o)) ∧ Fr n0 Lz ∧ hz = h0
set_option maxRecDepth 65536 in
set_option maxHeartbeats 40000000 in
theorem rm_holds3 (l : Launch) (Z : State) (a0 : Array Value) (hw : ∀ d ∈ tables_1, d.before a0 Z = true) (ws : List Jvm.Cond) (a : Addr) (o : Int32) (h0 : Heap) (n0 : Nat) (Z0 : n0 ≤ h0.size) (F : Fld Z h0 a "java/lang/Enum" "ordinal" "I" (.int (3 : Int32))) (E : Exa Z h0 a "com/example/windrow/windrow/Condition$Comparison") :
    MetFree l (⟨"com/example/windrow/windrow/Condition$Comparison", "holds", "(I)Z"⟩ : MethodName) (head1 (Jvm.Cond.code (⟨"com/example/windrow/windrow/Condition$Comparison", "holds", "(I)Z"⟩ : MethodName) prog_20_method_5_code 2 (some .boolean) :: ws) ({ frames := 1, cells := 0, slots := 0, locals := 12 } : Room)) (fun az Uz => az = #[(.ref a), (.int o)] ∧ Z.Warmed39 Uz.vm ∧ Uz.heap = h0) (fun _ _ _ _ _ => True) (fun _ Uz oz Ut => ∃ vz Lz, oz = .returned vz ∧ Q_holds3 Z a o h0 n0 vz Ut.heap Lz ∧ FrameEnd Uz oz Ut Lz (({ frames := 1, cells := 0, slots := 0, locals := 12 } : Room)).cells (({ frames := 1, cells := 0, slots := 0, locals := 12 } : Room)).slots) := by
  refine MetFree.of_bodySF (plainFor_of_name pn1) hisR ?_
  intro p e s m args below meth c s₁ Bd hml0 hP hK
  obtain ⟨rfl, hZ, hh⟩ := hP
  have hx := Bd.exec
  have hby := Bd.bytes
  have hml : c.maxLocals = 2 := hml0
  have hown : s.vm.findClass "com/example/windrow/windrow/Condition$Comparison" = some m.cls := findClass_of_methodNamed Bd.named
  have hnm := (name_of_methodNamed Bd.named Bd.method).1
  have hlk : meth.locks = false := Bd.notSynchronized
  have X0 : Stand p l e ({ frames := 1, cells := 0, slots := 0, locals := 12 } : Room) s m #[(.ref a), (.int o)] below meth c s₁ [] 0 0 := Stand.of_body Bd
  have e0 : s₁.heap = h0 := by rw [← hh, Bd.state]; rfl
  have N0 := Fr.nil n0
  show EndsK p e below (OQ s (Q_holds3 Z a o h0 n0) (({ frames := 1, cells := 0, slots := 0, locals := 12 } : Room)).cells (({ frames := 1, cells := 0, slots := 0, locals := 12 } : Room)).slots) (s₁.setTop (entryFrame m #[(.ref a), (.int o)] 2))
  refine EndsK.start (ef_holds3 m a o) ?_
  show EndsK p e below _ (s₁.setTop (mkF m 0 #[.val (.ref a), .val (.int o)] []))
  refine EndsK.go (fun _ kz => XS.aloadN X0.here hx rfl (hb hby d1_0) rfl rfl kz) ?_
  show EndsK p e below _ (s₁.setTop (mkF m 1 #[.val (.ref a), .val (.int o)] [(.ref a)]))
  obtain ⟨cq1, kq1, qa1, qb1, qc1⟩ := isOf hZ e0 E
  obtain ⟨_, _, ⟨T1, L1, k1, n1⟩, -, X1, ⟨Lc1, hQ1, l1, y1, z1⟩, st1⟩ := X0.virtualBackUp hx (owner := "java/lang/Enum") (x := (⟨"com/example/windrow/windrow/Condition$Comparison", "ordinal", "()I"⟩ : MethodName)) (y := (⟨"java/lang/Enum", "ordinal", "()I"⟩ : MethodName)) hown (mvT hZ (hw _ (List.mem_of_getElem? (i := 8) rfl))) (mvT hZ (hw _ (List.mem_of_getElem? (i := 9) rfl))) (mvT hZ (hw _ (List.mem_of_getElem? (i := 10) rfl))) (by decide) (mvT hZ (hw _ (List.mem_of_getElem? (i := 12) rfl))) (mvT hZ (hw _ (List.mem_of_getElem? (i := 11) rfl))) (backOf (W := 0) (rm_ord l Z a0 hw [] a (3 : Int32) h0 n0 Z0 F) hZ (hw _ (List.mem_of_getElem? (i := 14) rfl)) (hw _ (List.mem_of_getElem? (i := 13) rfl)) (by decide) (by decide)) qa1 qc1 (g := (mkF m 1 #[.val (.ref a), .val (.int o)] [(.ref a)])) rfl (by rw [hml]; rfl) (Steps.refl _) (argsL := []) (rest := []) (lenOf pd0 rfl) rfl (by show 2 * 0 + _ ≤ _; exact Nat.le_of_eq rfl) (hb hby d1_1) (fun _ _ => ⟨rfl, e0, (by decide : 0 + 0 ≤ _), (by decide : 0 + 0 ≤ _)⟩)
  dsimp only [Pt.U, Pt.locs, Pt.cells, Pt.slots] at X1 l1 y1 z1 st1 hQ1
  subst l1 y1 z1
  obtain ⟨rfl, N1, e1⟩ := hQ1
  have M1 := Fr.app N0 N1
  refine EndsK.tr st1 ?_
  show EndsK p e below _ (T1.setTop (mkF m 4 #[.val (.ref a), .val (.int o)] [(.int (3 : Int32))]))
  refine EndsK.go (fun _ kz => XS.tswIn X1.here hx rfl (pc0 := 4) (pc' := 90) rfl (hb hby d1_4) rfl (by decide) (o := 86) rfl (by decide) (by decide) kz) ?_
  show EndsK p e below _ (T1.setTop (mkF m 90 #[.val (.ref a), .val (.int o)] []))
  refine EndsK.go (fun _ kz => XS.iloadN X1.here hx rfl (hb hby d1_90) rfl kz) ?_
  show EndsK p e below _ (T1.setTop (mkF m 91 #[.val (.ref a), .val (.int o)] [(.int o)]))
  by_cases H91_2 : (0 : Int32) < o
  · refine EndsK.go (fun _ kz => XS.ifYes X1.here hx rfl (pc0 := 91) (pc' := 98) rfl (hb hby d1_91) rfl ((if0 _ _).trans (tlt H91_2).2.2.1) (by decide) (by decide) kz) ?_
    show EndsK p e below _ (T1.setTop (mkF m 98 #[.val (.ref a), .val (.int o)] []))
    refine EndsK.go (fun _ kz => XS.iconst X1.here hx rfl (hb hby d1_98) kz) ?_
    show EndsK p e below _ (T1.setTop (mkF m 99 #[.val (.ref a), .val (.int o)] [(.int (0 : Int32))]))
    refine EndsK.go (fun _ kz => XS.goto X1.here hx rfl (pc0 := 99) (pc' := 123) rfl (hb hby d1_99) (by decide) (by decide) kz) ?_
    show EndsK p e below _ (T1.setTop (mkF m 123 #[.val (.ref a), .val (.int o)] [(.int (0 : Int32))]))
    exact endN X1 hx (t := .boolean) Bd.returns (by simp) (hb hby d1_123) hlk ⟨(congrArg (fun z => some (Value.int z)) (by simp [holdsF, H91_2] : (holdsF 3 o) = (0 : Int32))).symm, M1, e1⟩ (by decide) (by decide)
  · refine EndsK.go (fun _ kz => XS.ifNo X1.here hx rfl (hb hby d1_91) rfl ((if0 _ _).trans (flt H91_2).2.2.1) kz) ?_
    show EndsK p e below _ (T1.setTop (mkF m 94 #[.val (.ref a), .val (.int o)] []))
    refine EndsK.go (fun _ kz => XS.iconst X1.here hx rfl (hb hby d1_94) kz) ?_
    show EndsK p e below _ (T1.setTop (mkF m 95 #[.val (.ref a), .val (.int o)] [(.int (1 : Int32))]))
    refine EndsK.go (fun _ kz => XS.goto X1.here hx rfl (pc0 := 95) (pc' := 123) rfl (hb hby d1_95) (by decide) (by decide) kz) ?_
    show EndsK p e below _ (T1.setTop (mkF m 123 #[.val (.ref a), .val (.int o)] [(.int (1 : Int32))]))
    exact endN X1 hx (t := .boolean) Bd.returns (by simp) (hb hby d1_123) hlk ⟨(congrArg (fun z => some (Value.int z)) (by simp [holdsF, H91_2] : (holdsF 3 o) = (1 : Int32))).symm, M1, e1⟩ (by decide) (by decide)
theorem ef_holds4 (m : MethodId) (a : Addr) (o : Int32) : entryFrame m #[(.ref a), (.int o)] 2 = mkF m 0 #[.val (.ref a), .val (.int o)] [] := by first | (simp [entryFrame, mkF, argsToLocals, Value.category]; done) | rfl
def Q_holds4 (Z : State) (a : Addr) (o : Int32) (h0 : Heap) (n0 : Nat) (vz : Option Value) (hz : Heap) (Lz : List Loc) : Prop := vz = some (.int (holdsF 4 o)) ∧ Fr n0 Lz ∧ hz = h0
set_option maxRecDepth 65536 in
set_option maxHeartbeats 40000000 in
theorem rm_holds4 (l : Launch) (Z : State) (a0 : Array Value) (hw : ∀ d ∈ tables_1, d.before a0 Z = true) (ws : List Jvm.Cond) (a : Addr) (o : Int32) (h0 : Heap) (n0 : Nat) (Z0 : n0 ≤ h0.size) (F : Fld Z h0 a "java/lang/Enum" "ordinal" "I" (.int (4 : Int32))) (E : Exa Z h0 a "com/example/windrow/windrow/Condition$Comparison") :
    MetFree l (⟨"com/example/windrow/windrow/Condition$Comparison", "holds", "(I)Z"⟩ : MethodName) (head1 (Jvm.Cond.code (⟨"com/example/windrow/windrow/Condition$Comparison", "holds", "(I)Z"⟩ : MethodName) prog_20_method_5_code 2 (some .boolean) :: ws) ({ frames := 1, cells := 0, slots := 0, locals := 12 } : Room)) (fun az Uz => az = #[(.ref a), (.int o)] ∧ Z.Warmed39 Uz.vm ∧ Uz.heap = h0) (fun _ _ _ _ _ => True) (fun _ Uz oz Ut => ∃ vz Lz, oz = .returned vz ∧ Q_holds4 Z a o h0 n0 vz Ut.heap Lz ∧ FrameEnd Uz oz Ut Lz (({ frames := 1, cells := 0, slots := 0, locals := 12 } : Room)).cells (({ frames := 1, cells := 0, slots := 0, locals := 12 } : Room)).slots) := by
  refine MetFree.of_bodySF (plainFor_of_name pn1) hisR ?_
  intro p e s m args below meth c s₁ Bd hml0 hP hK
  obtain ⟨rfl, hZ, hh⟩ := hP
  have hx := Bd.exec
  have hby := Bd.bytes
  have hml : c.maxLocals = 2 := hml0
  have hown : s.vm.findClass "com/example/windrow/windrow/Condition$Comparison" = some m.cls := findClass_of_methodNamed Bd.named
  have hnm := (name_of_methodNamed Bd.named Bd.method).1
  have hlk : meth.locks = false := Bd.notSynchronized
  have X0 : Stand p l e ({ frames := 1, cells := 0, slots := 0, locals := 12 } : Room) s m #[(.ref a), (.int o)] below meth c s₁ [] 0 0 := Stand.of_body Bd
  have e0 : s₁.heap = h0 := by rw [← hh, Bd.state]; rfl
  have N0 := Fr.nil n0
  show EndsK p e below (OQ s (Q_holds4 Z a o h0 n0) (({ frames := 1, cells := 0, slots := 0, locals := 12 } : Room)).cells (({ frames := 1, cells := 0, slots := 0, locals := 12 } : Room)).slots) (s₁.setTop (entryFrame m #[(.ref a), (.int o)] 2))
  refine EndsK.start (ef_holds4 m a o) ?_
  show EndsK p e below _ (s₁.setTop (mkF m 0 #[.val (.ref a), .val (.int o)] []))
  refine EndsK.go (fun _ kz => XS.aloadN X0.here hx rfl (hb hby d1_0) rfl rfl kz) ?_
  show EndsK p e below _ (s₁.setTop (mkF m 1 #[.val (.ref a), .val (.int o)] [(.ref a)]))
  obtain ⟨cq1, kq1, qa1, qb1, qc1⟩ := isOf hZ e0 E
  obtain ⟨_, _, ⟨T1, L1, k1, n1⟩, -, X1, ⟨Lc1, hQ1, l1, y1, z1⟩, st1⟩ := X0.virtualBackUp hx (owner := "java/lang/Enum") (x := (⟨"com/example/windrow/windrow/Condition$Comparison", "ordinal", "()I"⟩ : MethodName)) (y := (⟨"java/lang/Enum", "ordinal", "()I"⟩ : MethodName)) hown (mvT hZ (hw _ (List.mem_of_getElem? (i := 8) rfl))) (mvT hZ (hw _ (List.mem_of_getElem? (i := 9) rfl))) (mvT hZ (hw _ (List.mem_of_getElem? (i := 10) rfl))) (by decide) (mvT hZ (hw _ (List.mem_of_getElem? (i := 12) rfl))) (mvT hZ (hw _ (List.mem_of_getElem? (i := 11) rfl))) (backOf (W := 0) (rm_ord l Z a0 hw [] a (4 : Int32) h0 n0 Z0 F) hZ (hw _ (List.mem_of_getElem? (i := 14) rfl)) (hw _ (List.mem_of_getElem? (i := 13) rfl)) (by decide) (by decide)) qa1 qc1 (g := (mkF m 1 #[.val (.ref a), .val (.int o)] [(.ref a)])) rfl (by rw [hml]; rfl) (Steps.refl _) (argsL := []) (rest := []) (lenOf pd0 rfl) rfl (by show 2 * 0 + _ ≤ _; exact Nat.le_of_eq rfl) (hb hby d1_1) (fun _ _ => ⟨rfl, e0, (by decide : 0 + 0 ≤ _), (by decide : 0 + 0 ≤ _)⟩)
  dsimp only [Pt.U, Pt.locs, Pt.cells, Pt.slots] at X1 l1 y1 z1 st1 hQ1
  subst l1 y1 z1
  obtain ⟨rfl, N1, e1⟩ := hQ1
  have M1 := Fr.app N0 N1
  refine EndsK.tr st1 ?_
  show EndsK p e below _ (T1.setTop (mkF m 4 #[.val (.ref a), .val (.int o)] [(.int (4 : Int32))]))
  refine EndsK.go (fun _ kz => XS.tswIn X1.here hx rfl (pc0 := 4) (pc' := 102) rfl (hb hby d1_4) rfl (by decide) (o := 98) rfl (by decide) (by decide) kz) ?_
  show EndsK p e below _ (T1.setTop (mkF m 102 #[.val (.ref a), .val (.int o)] []))
  refine EndsK.go (fun _ kz => XS.iloadN X1.here hx rfl (hb hby d1_102) rfl kz) ?_
  show EndsK p e below _ (T1.setTop (mkF m 103 #[.val (.ref a), .val (.int o)] [(.int o)]))
  by_cases H103_2 : (0 : Int32) < o
  · refine EndsK.go (fun _ kz => XS.ifNo X1.here hx rfl (hb hby d1_103) rfl ((if0 _ _).trans (tlt H103_2).2.2.2) kz) ?_
    show EndsK p e below _ (T1.setTop (mkF m 106 #[.val (.ref a), .val (.int o)] []))
    refine EndsK.go (fun _ kz => XS.iconst X1.here hx rfl (hb hby d1_106) kz) ?_
    show EndsK p e below _ (T1.setTop (mkF m 107 #[.val (.ref a), .val (.int o)] [(.int (1 : Int32))]))
    refine EndsK.go (fun _ kz => XS.goto X1.here hx rfl (pc0 := 107) (pc' := 123) rfl (hb hby d1_107) (by decide) (by decide) kz) ?_
    show EndsK p e below _ (T1.setTop (mkF m 123 #[.val (.ref a), .val (.int o)] [(.int (1 : Int32))]))
    exact endN X1 hx (t := .boolean) Bd.returns (by simp) (hb hby d1_123) hlk ⟨(congrArg (fun z => some (Value.int z)) (by simp [holdsF, H103_2] : (holdsF 4 o) = (1 : Int32))).symm, M1, e1⟩ (by decide) (by decide)
  · refine EndsK.go (fun _ kz => XS.ifYes X1.here hx rfl (pc0 := 103) (pc' := 110) rfl (hb hby d1_103) rfl ((if0 _ _).trans (flt H103_2).2.2.2) (by decide) (by decide) kz) ?_
    show EndsK p e below _ (T1.setTop (mkF m 110 #[.val (.ref a), .val (.int o)] []))
    refine EndsK.go (fun _ kz => XS.iconst X1.here hx rfl (hb hby d1_110) kz) ?_
    show EndsK p e below _ (T1.setTop (mkF m 111 #[.val (.ref a), .val (.int o)] [(.int (0 : Int32))]))
    refine EndsK.go (fun _ kz => XS.goto X1.here hx rfl (pc0 := 111) (pc' := 123) rfl (hb hby d1_111) (by decide) (by decide) kz) ?_
    show EndsK p e below _ (T1.setTop (mkF m 123 #[.val (.ref a), .val (.int o)] [(.int (0 : Int32))]))
    exact endN X1 hx (t := .boolean) Bd.returns (by simp) (hb hby d1_123) hlk ⟨(congrArg (fun z => some (Value.int z)) (by simp [holdsF, H103_2] : (holdsF 4 o) = (0 : Int32))).symm, M1, e1⟩ (by decide) (by decide)
theorem ef_holds5 (m : MethodId) (a : Addr) (o : Int32) : entryFrame m #[(.ref a), (.int o)] 2 = mkF m 0 #[.val (.ref a), .val (.int o)] [] := by first | (simp [entryFrame, mkF, argsToLocals, Value.category]; done) | rfl
def Q_holds5 (Z : State) (a : Addr) (o : Int32) (h0 : Heap) (n0 : Nat) (vz : Option Value) (hz : Heap) (Lz : List Loc) : Prop := vz = some (.int (holdsF 5 o)) ∧ Fr n0 Lz ∧ hz = h0
set_option maxRecDepth 65536 in
set_option maxHeartbeats 40000000 in
theorem rm_holds5 (l : Launch) (Z : State) (a0 : Array Value) (hw : ∀ d ∈ tables_1, d.before a0 Z = true) (ws : List Jvm.Cond) (a : Addr) (o : Int32) (h0 : Heap) (n0 : Nat) (Z0 : n0 ≤ h0.size) (F : Fld Z h0 a "java/lang/Enum" "ordinal" "I" (.int (5 : Int32))) (E : Exa Z h0 a "com/example/windrow/windrow/Condition$Comparison") :
    MetFree l (⟨"com/example/windrow/windrow/Condition$Comparison", "holds", "(I)Z"⟩ : MethodName) (head1 (Jvm.Cond.code (⟨"com/example/windrow/windrow/Condition$Comparison", "holds", "(I)Z"⟩ : MethodName) prog_20_method_5_code 2 (some .boolean) :: ws) ({ frames := 1, cells := 0, slots := 0, locals := 12 } : Room)) (fun az Uz => az = #[(.ref a), (.int o)] ∧ Z.Warmed39 Uz.vm ∧ Uz.heap = h0) (fun _ _ _ _ _ => True) (fun _ Uz oz Ut => ∃ vz Lz, oz = .returned vz ∧ Q_holds5 Z a o h0 n0 vz Ut.heap Lz ∧ FrameEnd Uz oz Ut Lz (({ frames := 1, cells := 0, slots := 0, locals := 12 } : Room)).cells (({ frames := 1, cells := 0, slots := 0, locals := 12 } : Room)).slots) := by
  refine MetFree.of_bodySF (plainFor_of_name pn1) hisR ?_
  intro p e s m args below meth c s₁ Bd hml0 hP hK
  obtain ⟨rfl, hZ, hh⟩ := hP
  have hx := Bd.exec
  have hby := Bd.bytes
  have hml : c.maxLocals = 2 := hml0
  have hown : s.vm.findClass "com/example/windrow/windrow/Condition$Comparison" = some m.cls := findClass_of_methodNamed Bd.named
  have hnm := (name_of_methodNamed Bd.named Bd.method).1
  have hlk : meth.locks = false := Bd.notSynchronized
  have X0 : Stand p l e ({ frames := 1, cells := 0, slots := 0, locals := 12 } : Room) s m #[(.ref a), (.int o)] below meth c s₁ [] 0 0 := Stand.of_body Bd
  have e0 : s₁.heap = h0 := by rw [← hh, Bd.state]; rfl
  have N0 := Fr.nil n0
  show EndsK p e below (OQ s (Q_holds5 Z a o h0 n0) (({ frames := 1, cells := 0, slots := 0, locals := 12 } : Room)).cells (({ frames := 1, cells := 0, slots := 0, locals := 12 } : Room)).slots) (s₁.setTop (entryFrame m #[(.ref a), (.int o)] 2))
  refine EndsK.start (ef_holds5 m a o) ?_
  show EndsK p e below _ (s₁.setTop (mkF m 0 #[.val (.ref a), .val (.int o)] []))
  refine EndsK.go (fun _ kz => XS.aloadN X0.here hx rfl (hb hby d1_0) rfl rfl kz) ?_
  show EndsK p e below _ (s₁.setTop (mkF m 1 #[.val (.ref a), .val (.int o)] [(.ref a)]))
  obtain ⟨cq1, kq1, qa1, qb1, qc1⟩ := isOf hZ e0 E
  obtain ⟨_, _, ⟨T1, L1, k1, n1⟩, -, X1, ⟨Lc1, hQ1, l1, y1, z1⟩, st1⟩ := X0.virtualBackUp hx (owner := "java/lang/Enum") (x := (⟨"com/example/windrow/windrow/Condition$Comparison", "ordinal", "()I"⟩ : MethodName)) (y := (⟨"java/lang/Enum", "ordinal", "()I"⟩ : MethodName)) hown (mvT hZ (hw _ (List.mem_of_getElem? (i := 8) rfl))) (mvT hZ (hw _ (List.mem_of_getElem? (i := 9) rfl))) (mvT hZ (hw _ (List.mem_of_getElem? (i := 10) rfl))) (by decide) (mvT hZ (hw _ (List.mem_of_getElem? (i := 12) rfl))) (mvT hZ (hw _ (List.mem_of_getElem? (i := 11) rfl))) (backOf (W := 0) (rm_ord l Z a0 hw [] a (5 : Int32) h0 n0 Z0 F) hZ (hw _ (List.mem_of_getElem? (i := 14) rfl)) (hw _ (List.mem_of_getElem? (i := 13) rfl)) (by decide) (by decide)) qa1 qc1 (g := (mkF m 1 #[.val (.ref a), .val (.int o)] [(.ref a)])) rfl (by rw [hml]; rfl) (Steps.refl _) (argsL := []) (rest := []) (lenOf pd0 rfl) rfl (by show 2 * 0 + _ ≤ _; exact Nat.le_of_eq rfl) (hb hby d1_1) (fun _ _ => ⟨rfl, e0, (by decide : 0 + 0 ≤ _), (by decide : 0 + 0 ≤ _)⟩)
  dsimp only [Pt.U, Pt.locs, Pt.cells, Pt.slots] at X1 l1 y1 z1 st1 hQ1
  subst l1 y1 z1
  obtain ⟨rfl, N1, e1⟩ := hQ1
  have M1 := Fr.app N0 N1
  refine EndsK.tr st1 ?_
  show EndsK p e below _ (T1.setTop (mkF m 4 #[.val (.ref a), .val (.int o)] [(.int (5 : Int32))]))
  refine EndsK.go (fun _ kz => XS.tswIn X1.here hx rfl (pc0 := 4) (pc' := 114) rfl (hb hby d1_4) rfl (by decide) (o := 110) rfl (by decide) (by decide) kz) ?_
  show EndsK p e below _ (T1.setTop (mkF m 114 #[.val (.ref a), .val (.int o)] []))
  refine EndsK.go (fun _ kz => XS.iloadN X1.here hx rfl (hb hby d1_114) rfl kz) ?_
  show EndsK p e below _ (T1.setTop (mkF m 115 #[.val (.ref a), .val (.int o)] [(.int o)]))
  by_cases H115_2 : o < (0 : Int32)
  · refine EndsK.go (fun _ kz => XS.ifYes X1.here hx rfl (pc0 := 115) (pc' := 122) rfl (hb hby d1_115) rfl ((if0 _ _).trans (tlt H115_2).1) (by decide) (by decide) kz) ?_
    show EndsK p e below _ (T1.setTop (mkF m 122 #[.val (.ref a), .val (.int o)] []))
    refine EndsK.go (fun _ kz => XS.iconst X1.here hx rfl (hb hby d1_122) kz) ?_
    show EndsK p e below _ (T1.setTop (mkF m 123 #[.val (.ref a), .val (.int o)] [(.int (0 : Int32))]))
    exact endN X1 hx (t := .boolean) Bd.returns (by simp) (hb hby d1_123) hlk ⟨(congrArg (fun z => some (Value.int z)) (by simp [holdsF, H115_2] : (holdsF 5 o) = (0 : Int32))).symm, M1, e1⟩ (by decide) (by decide)
  · refine EndsK.go (fun _ kz => XS.ifNo X1.here hx rfl (hb hby d1_115) rfl ((if0 _ _).trans (flt H115_2).1) kz) ?_
    show EndsK p e below _ (T1.setTop (mkF m 118 #[.val (.ref a), .val (.int o)] []))
    refine EndsK.go (fun _ kz => XS.iconst X1.here hx rfl (hb hby d1_118) kz) ?_
    show EndsK p e below _ (T1.setTop (mkF m 119 #[.val (.ref a), .val (.int o)] [(.int (1 : Int32))]))
    refine EndsK.go (fun _ kz => XS.goto X1.here hx rfl (pc0 := 119) (pc' := 123) rfl (hb hby d1_119) (by decide) (by decide) kz) ?_
    show EndsK p e below _ (T1.setTop (mkF m 123 #[.val (.ref a), .val (.int o)] [(.int (1 : Int32))]))
    exact endN X1 hx (t := .boolean) Bd.returns (by simp) (hb hby d1_123) hlk ⟨(congrArg (fun z => some (Value.int z)) (by simp [holdsF, H115_2] : (holdsF 5 o) = (1 : Int32))).symm, M1, e1⟩ (by decide) (by decide)
theorem d3_0 : decode method_2_code 0 = .ok (.iload_n 1, 1) := by decide +kernel
theorem d3_1 : decode method_2_code 1 = .ok (.ifCond .ge 7, 3) := by decide +kernel
theorem d3_4 : decode method_2_code 4 = .ok (.iconst 1, 1) := by decide +kernel
theorem d3_5 : decode method_2_code 5 = .ok (.goto 12, 3) := by decide +kernel
theorem d3_8 : decode method_2_code 8 = .ok (.iload_n 1, 1) := by decide +kernel
theorem d3_9 : decode method_2_code 9 = .ok (.ifCond .ne 7, 3) := by decide +kernel
theorem d3_12 : decode method_2_code 12 = .ok (.iconst 2, 1) := by decide +kernel
theorem d3_13 : decode method_2_code 13 = .ok (.goto 4, 3) := by decide +kernel
theorem d3_16 : decode method_2_code 16 = .ok (.iconst 4, 1) := by decide +kernel
theorem d3_17 : decode method_2_code 17 = .ok (.istore_n 2, 1) := by decide +kernel
theorem d3_18 : decode method_2_code 18 = .ok (.iload_n 0, 1) := by decide +kernel
theorem d3_19 : decode method_2_code 19 = .ok (.iload_n 2, 1) := by decide +kernel
theorem d3_20 : decode method_2_code 20 = .ok (.iand, 1) := by decide +kernel
theorem d3_21 : decode method_2_code 21 = .ok (.ifCond .eq 7, 3) := by decide +kernel
theorem d3_24 : decode method_2_code 24 = .ok (.iconst 1, 1) := by decide +kernel
theorem d3_25 : decode method_2_code 25 = .ok (.goto 4, 3) := by decide +kernel
theorem d3_28 : decode method_2_code 28 = .ok (.iconst 0, 1) := by decide +kernel
theorem d3_29 : decode method_2_code 29 = .ok (.ireturn, 1) := by decide +kernel
theorem pn2 : plainName "com/example/windrow/windrow/ComparisonHoldsPinLaw" = true := by first | (simp [plainName, overriddenIn]; done) | decide +kernel
theorem ef_acc (m : MethodId) (mk : Int32) (o : Int32) : entryFrame m #[(.int mk), (.int o)] 3 = mkF m 0 #[.val (.int mk), .val (.int o), .unset] [] := by first | (simp [entryFrame, mkF, argsToLocals, Value.category]; done) | rfl
def Q_acc (Z : State) (mk : Int32) (o : Int32) (h0 : Heap) (n0 : Nat) (vz : Option Value) (hz : Heap) (Lz : List Loc) : Prop := vz = some (.int (accF mk o)) ∧ Fr n0 Lz ∧ hz = h0
set_option maxRecDepth 65536 in
set_option maxHeartbeats 40000000 in
theorem rm_acc (l : Launch) (Z : State) (a0 : Array Value) (hw : ∀ d ∈ tables_1, d.before a0 Z = true) (ws : List Jvm.Cond) (mk : Int32) (o : Int32) (h0 : Heap) (n0 : Nat) (Z0 : n0 ≤ h0.size)  :
    MetFree l (⟨"com/example/windrow/windrow/ComparisonHoldsPinLaw", "accepted", "(II)Z"⟩ : MethodName) (head1 (Jvm.Cond.code (⟨"com/example/windrow/windrow/ComparisonHoldsPinLaw", "accepted", "(II)Z"⟩ : MethodName) method_2_code 3 (some .boolean) :: ws) ({ frames := 0, cells := 0, slots := 0, locals := 0 } : Room)) (fun az Uz => az = #[(.int mk), (.int o)] ∧ Z.Warmed39 Uz.vm ∧ Uz.heap = h0) (fun _ _ _ _ _ => True) (fun _ Uz oz Ut => ∃ vz Lz, oz = .returned vz ∧ Q_acc Z mk o h0 n0 vz Ut.heap Lz ∧ FrameEnd Uz oz Ut Lz (({ frames := 0, cells := 0, slots := 0, locals := 0 } : Room)).cells (({ frames := 0, cells := 0, slots := 0, locals := 0 } : Room)).slots) := by
  refine MetFree.of_bodySF (plainFor_of_name pn2) hisR ?_
  intro p e s m args below meth c s₁ Bd hml0 hP hK
  obtain ⟨rfl, hZ, hh⟩ := hP
  have hx := Bd.exec
  have hby := Bd.bytes
  have hml : c.maxLocals = 3 := hml0
  have hown : s.vm.findClass "com/example/windrow/windrow/ComparisonHoldsPinLaw" = some m.cls := findClass_of_methodNamed Bd.named
  have hnm := (name_of_methodNamed Bd.named Bd.method).1
  have hlk : meth.locks = false := Bd.notSynchronized
  have X0 : Stand p l e ({ frames := 0, cells := 0, slots := 0, locals := 0 } : Room) s m #[(.int mk), (.int o)] below meth c s₁ [] 0 0 := Stand.of_body Bd
  have e0 : s₁.heap = h0 := by rw [← hh, Bd.state]; rfl
  have N0 := Fr.nil n0
  show EndsK p e below (OQ s (Q_acc Z mk o h0 n0) (({ frames := 0, cells := 0, slots := 0, locals := 0 } : Room)).cells (({ frames := 0, cells := 0, slots := 0, locals := 0 } : Room)).slots) (s₁.setTop (entryFrame m #[(.int mk), (.int o)] 3))
  refine EndsK.start (ef_acc m mk o) ?_
  show EndsK p e below _ (s₁.setTop (mkF m 0 #[.val (.int mk), .val (.int o), .unset] []))
  refine EndsK.go (fun _ kz => XS.iloadN X0.here hx rfl (hb hby d3_0) rfl kz) ?_
  show EndsK p e below _ (s₁.setTop (mkF m 1 #[.val (.int mk), .val (.int o), .unset] [(.int o)]))
  by_cases H1_1 : o < (0 : Int32)
  · refine EndsK.go (fun _ kz => XS.ifNo X0.here hx rfl (hb hby d3_1) rfl ((if0 _ _).trans (tlt H1_1).2.1) kz) ?_
    show EndsK p e below _ (s₁.setTop (mkF m 4 #[.val (.int mk), .val (.int o), .unset] []))
    refine EndsK.go (fun _ kz => XS.iconst X0.here hx rfl (hb hby d3_4) kz) ?_
    show EndsK p e below _ (s₁.setTop (mkF m 5 #[.val (.int mk), .val (.int o), .unset] [(.int (1 : Int32))]))
    refine EndsK.go (fun _ kz => XS.goto X0.here hx rfl (pc0 := 5) (pc' := 17) rfl (hb hby d3_5) (by decide) (by decide) kz) ?_
    show EndsK p e below _ (s₁.setTop (mkF m 17 #[.val (.int mk), .val (.int o), .unset] [(.int (1 : Int32))]))
    refine EndsK.go (fun _ kz => XS.istoreN X0.here hx rfl (hb hby d3_17) rfl (l' := #[.val (.int mk), .val (.int o), .val (.int (1 : Int32))]) rfl kz) ?_
    show EndsK p e below _ (s₁.setTop (mkF m 18 #[.val (.int mk), .val (.int o), .val (.int (1 : Int32))] []))
    refine EndsK.go (fun _ kz => XS.iloadN X0.here hx rfl (hb hby d3_18) rfl kz) ?_
    show EndsK p e below _ (s₁.setTop (mkF m 19 #[.val (.int mk), .val (.int o), .val (.int (1 : Int32))] [(.int mk)]))
    refine EndsK.go (fun _ kz => XS.iloadN X0.here hx rfl (hb hby d3_19) rfl kz) ?_
    show EndsK p e below _ (s₁.setTop (mkF m 20 #[.val (.int mk), .val (.int o), .val (.int (1 : Int32))] [(.int (1 : Int32)), (.int mk)]))
    refine EndsK.go (fun _ kz => XS.iand X0.here hx rfl (hb hby d3_20) rfl kz) ?_
    show EndsK p e below _ (s₁.setTop (mkF m 21 #[.val (.int mk), .val (.int o), .val (.int (1 : Int32))] [(.int (mk &&& (1 : Int32)))]))
    by_cases H21_2 : (mk &&& (1 : Int32)) = (0 : Int32)
    · refine EndsK.go (fun _ kz => XS.ifYes X0.here hx rfl (pc0 := 21) (pc' := 28) rfl (hb hby d3_21) rfl ((if0 _ _).trans (teq H21_2).1) (by decide) (by decide) kz) ?_
      show EndsK p e below _ (s₁.setTop (mkF m 28 #[.val (.int mk), .val (.int o), .val (.int (1 : Int32))] []))
      refine EndsK.go (fun _ kz => XS.iconst X0.here hx rfl (hb hby d3_28) kz) ?_
      show EndsK p e below _ (s₁.setTop (mkF m 29 #[.val (.int mk), .val (.int o), .val (.int (1 : Int32))] [(.int (0 : Int32))]))
      exact endN X0 hx (t := .boolean) Bd.returns (by simp) (hb hby d3_29) hlk ⟨(congrArg (fun z => some (Value.int z)) (by simp [accF, bitF, H1_1, H21_2] : accF mk o = (0 : Int32))).symm, N0, e0⟩ (by decide) (by decide)
    · refine EndsK.go (fun _ kz => XS.ifNo X0.here hx rfl (hb hby d3_21) rfl ((if0 _ _).trans (feq H21_2).1) kz) ?_
      show EndsK p e below _ (s₁.setTop (mkF m 24 #[.val (.int mk), .val (.int o), .val (.int (1 : Int32))] []))
      refine EndsK.go (fun _ kz => XS.iconst X0.here hx rfl (hb hby d3_24) kz) ?_
      show EndsK p e below _ (s₁.setTop (mkF m 25 #[.val (.int mk), .val (.int o), .val (.int (1 : Int32))] [(.int (1 : Int32))]))
      refine EndsK.go (fun _ kz => XS.goto X0.here hx rfl (pc0 := 25) (pc' := 29) rfl (hb hby d3_25) (by decide) (by decide) kz) ?_
      show EndsK p e below _ (s₁.setTop (mkF m 29 #[.val (.int mk), .val (.int o), .val (.int (1 : Int32))] [(.int (1 : Int32))]))
      exact endN X0 hx (t := .boolean) Bd.returns (by simp) (hb hby d3_29) hlk ⟨(congrArg (fun z => some (Value.int z)) (by simp [accF, bitF, H1_1, H21_2] : accF mk o = (1 : Int32))).symm, N0, e0⟩ (by decide) (by decide)
  · refine EndsK.go (fun _ kz => XS.ifYes X0.here hx rfl (pc0 := 1) (pc' := 8) rfl (hb hby d3_1) rfl ((if0 _ _).trans (flt H1_1).2.1) (by decide) (by decide) kz) ?_
    show EndsK p e below _ (s₁.setTop (mkF m 8 #[.val (.int mk), .val (.int o), .unset] []))
    refine EndsK.go (fun _ kz => XS.iloadN X0.here hx rfl (hb hby d3_8) rfl kz) ?_
    show EndsK p e below _ (s₁.setTop (mkF m 9 #[.val (.int mk), .val (.int o), .unset] [(.int o)]))
    by_cases H9_3 : o = (0 : Int32)
    · refine EndsK.go (fun _ kz => XS.ifNo X0.here hx rfl (hb hby d3_9) rfl ((if0 _ _).trans (teq H9_3).2) kz) ?_
      show EndsK p e below _ (s₁.setTop (mkF m 12 #[.val (.int mk), .val (.int o), .unset] []))
      refine EndsK.go (fun _ kz => XS.iconst X0.here hx rfl (hb hby d3_12) kz) ?_
      show EndsK p e below _ (s₁.setTop (mkF m 13 #[.val (.int mk), .val (.int o), .unset] [(.int (2 : Int32))]))
      refine EndsK.go (fun _ kz => XS.goto X0.here hx rfl (pc0 := 13) (pc' := 17) rfl (hb hby d3_13) (by decide) (by decide) kz) ?_
      show EndsK p e below _ (s₁.setTop (mkF m 17 #[.val (.int mk), .val (.int o), .unset] [(.int (2 : Int32))]))
      refine EndsK.go (fun _ kz => XS.istoreN X0.here hx rfl (hb hby d3_17) rfl (l' := #[.val (.int mk), .val (.int o), .val (.int (2 : Int32))]) rfl kz) ?_
      show EndsK p e below _ (s₁.setTop (mkF m 18 #[.val (.int mk), .val (.int o), .val (.int (2 : Int32))] []))
      refine EndsK.go (fun _ kz => XS.iloadN X0.here hx rfl (hb hby d3_18) rfl kz) ?_
      show EndsK p e below _ (s₁.setTop (mkF m 19 #[.val (.int mk), .val (.int o), .val (.int (2 : Int32))] [(.int mk)]))
      refine EndsK.go (fun _ kz => XS.iloadN X0.here hx rfl (hb hby d3_19) rfl kz) ?_
      show EndsK p e below _ (s₁.setTop (mkF m 20 #[.val (.int mk), .val (.int o), .val (.int (2 : Int32))] [(.int (2 : Int32)), (.int mk)]))
      refine EndsK.go (fun _ kz => XS.iand X0.here hx rfl (hb hby d3_20) rfl kz) ?_
      show EndsK p e below _ (s₁.setTop (mkF m 21 #[.val (.int mk), .val (.int o), .val (.int (2 : Int32))] [(.int (mk &&& (2 : Int32)))]))
      by_cases H21_4 : (mk &&& (2 : Int32)) = (0 : Int32)
      · refine EndsK.go (fun _ kz => XS.ifYes X0.here hx rfl (pc0 := 21) (pc' := 28) rfl (hb hby d3_21) rfl ((if0 _ _).trans (teq H21_4).1) (by decide) (by decide) kz) ?_
        show EndsK p e below _ (s₁.setTop (mkF m 28 #[.val (.int mk), .val (.int o), .val (.int (2 : Int32))] []))
        refine EndsK.go (fun _ kz => XS.iconst X0.here hx rfl (hb hby d3_28) kz) ?_
        show EndsK p e below _ (s₁.setTop (mkF m 29 #[.val (.int mk), .val (.int o), .val (.int (2 : Int32))] [(.int (0 : Int32))]))
        exact endN X0 hx (t := .boolean) Bd.returns (by simp) (hb hby d3_29) hlk ⟨(congrArg (fun z => some (Value.int z)) (by simp [accF, bitF, H1_1, H9_3, H21_4] : accF mk o = (0 : Int32))).symm, N0, e0⟩ (by decide) (by decide)
      · refine EndsK.go (fun _ kz => XS.ifNo X0.here hx rfl (hb hby d3_21) rfl ((if0 _ _).trans (feq H21_4).1) kz) ?_
        show EndsK p e below _ (s₁.setTop (mkF m 24 #[.val (.int mk), .val (.int o), .val (.int (2 : Int32))] []))
        refine EndsK.go (fun _ kz => XS.iconst X0.here hx rfl (hb hby d3_24) kz) ?_
        show EndsK p e below _ (s₁.setTop (mkF m 25 #[.val (.int mk), .val (.int o), .val (.int (2 : Int32))] [(.int (1 : Int32))]))
        refine EndsK.go (fun _ kz => XS.goto X0.here hx rfl (pc0 := 25) (pc' := 29) rfl (hb hby d3_25) (by decide) (by decide) kz) ?_
        show EndsK p e below _ (s₁.setTop (mkF m 29 #[.val (.int mk), .val (.int o), .val (.int (2 : Int32))] [(.int (1 : Int32))]))
        exact endN X0 hx (t := .boolean) Bd.returns (by simp) (hb hby d3_29) hlk ⟨(congrArg (fun z => some (Value.int z)) (by simp [accF, bitF, H1_1, H9_3, H21_4] : accF mk o = (1 : Int32))).symm, N0, e0⟩ (by decide) (by decide)
    · refine EndsK.go (fun _ kz => XS.ifYes X0.here hx rfl (pc0 := 9) (pc' := 16) rfl (hb hby d3_9) rfl ((if0 _ _).trans (feq H9_3).2) (by decide) (by decide) kz) ?_
      show EndsK p e below _ (s₁.setTop (mkF m 16 #[.val (.int mk), .val (.int o), .unset] []))
      refine EndsK.go (fun _ kz => XS.iconst X0.here hx rfl (hb hby d3_16) kz) ?_
      show EndsK p e below _ (s₁.setTop (mkF m 17 #[.val (.int mk), .val (.int o), .unset] [(.int (4 : Int32))]))
      refine EndsK.go (fun _ kz => XS.istoreN X0.here hx rfl (hb hby d3_17) rfl (l' := #[.val (.int mk), .val (.int o), .val (.int (4 : Int32))]) rfl kz) ?_
      show EndsK p e below _ (s₁.setTop (mkF m 18 #[.val (.int mk), .val (.int o), .val (.int (4 : Int32))] []))
      refine EndsK.go (fun _ kz => XS.iloadN X0.here hx rfl (hb hby d3_18) rfl kz) ?_
      show EndsK p e below _ (s₁.setTop (mkF m 19 #[.val (.int mk), .val (.int o), .val (.int (4 : Int32))] [(.int mk)]))
      refine EndsK.go (fun _ kz => XS.iloadN X0.here hx rfl (hb hby d3_19) rfl kz) ?_
      show EndsK p e below _ (s₁.setTop (mkF m 20 #[.val (.int mk), .val (.int o), .val (.int (4 : Int32))] [(.int (4 : Int32)), (.int mk)]))
      refine EndsK.go (fun _ kz => XS.iand X0.here hx rfl (hb hby d3_20) rfl kz) ?_
      show EndsK p e below _ (s₁.setTop (mkF m 21 #[.val (.int mk), .val (.int o), .val (.int (4 : Int32))] [(.int (mk &&& (4 : Int32)))]))
      by_cases H21_5 : (mk &&& (4 : Int32)) = (0 : Int32)
      · refine EndsK.go (fun _ kz => XS.ifYes X0.here hx rfl (pc0 := 21) (pc' := 28) rfl (hb hby d3_21) rfl ((if0 _ _).trans (teq H21_5).1) (by decide) (by decide) kz) ?_
        show EndsK p e below _ (s₁.setTop (mkF m 28 #[.val (.int mk), .val (.int o), .val (.int (4 : Int32))] []))
        refine EndsK.go (fun _ kz => XS.iconst X0.here hx rfl (hb hby d3_28) kz) ?_
        show EndsK p e below _ (s₁.setTop (mkF m 29 #[.val (.int mk), .val (.int o), .val (.int (4 : Int32))] [(.int (0 : Int32))]))
        exact endN X0 hx (t := .boolean) Bd.returns (by simp) (hb hby d3_29) hlk ⟨(congrArg (fun z => some (Value.int z)) (by simp [accF, bitF, H1_1, H9_3, H21_5] : accF mk o = (0 : Int32))).symm, N0, e0⟩ (by decide) (by decide)
      · refine EndsK.go (fun _ kz => XS.ifNo X0.here hx rfl (hb hby d3_21) rfl ((if0 _ _).trans (feq H21_5).1) kz) ?_
        show EndsK p e below _ (s₁.setTop (mkF m 24 #[.val (.int mk), .val (.int o), .val (.int (4 : Int32))] []))
        refine EndsK.go (fun _ kz => XS.iconst X0.here hx rfl (hb hby d3_24) kz) ?_
        show EndsK p e below _ (s₁.setTop (mkF m 25 #[.val (.int mk), .val (.int o), .val (.int (4 : Int32))] [(.int (1 : Int32))]))
        refine EndsK.go (fun _ kz => XS.goto X0.here hx rfl (pc0 := 25) (pc' := 29) rfl (hb hby d3_25) (by decide) (by decide) kz) ?_
        show EndsK p e below _ (s₁.setTop (mkF m 29 #[.val (.int mk), .val (.int o), .val (.int (4 : Int32))] [(.int (1 : Int32))]))
        exact endN X0 hx (t := .boolean) Bd.returns (by simp) (hb hby d3_29) hlk ⟨(congrArg (fun z => some (Value.int z)) (by simp [accF, bitF, H1_1, H9_3, H21_5] : accF mk o = (1 : Int32))).symm, N0, e0⟩ (by decide) (by decide)
theorem ef_law (m : MethodId) (o : Int32) (b0 : Addr) (b1 : Addr) (b2 : Addr) (b3 : Addr) (b4 : Addr) (b5 : Addr) : entryFrame m #[(.int o)] maxLocals = mkF m 0 #[.val (.int o), .unset, .unset, .unset, .unset, .unset, .unset] [] := by first | (simp [entryFrame, mkF, argsToLocals, Value.category, maxLocals]; done) | rfl
def Q_law (Z : State) (o : Int32) (b0 : Addr) (b1 : Addr) (b2 : Addr) (b3 : Addr) (b4 : Addr) (b5 : Addr) (h0 : Heap) (n0 : Nat) (vz : Option Value) (hz : Heap) (Lz : List Loc) : Prop := vz = some (.int 1) ∧ Fr n0 Lz
theorem pd1 : parseMethodDescriptor "(I)Z" = some ⟨[.int], some .boolean⟩ := by decide +kernel
theorem pd2 : parseMethodDescriptor "(II)Z" = some ⟨[.int, .int], some .boolean⟩ := by decide +kernel
set_option maxRecDepth 65536 in
set_option maxHeartbeats 40000000 in
theorem rm_law (l : Launch) (Z : State) (a0 : Array Value) (hw : ∀ d ∈ tables_1, d.before a0 Z = true) (ws : List Jvm.Cond) (o : Int32) (b0 : Addr) (b1 : Addr) (b2 : Addr) (b3 : Addr) (b4 : Addr) (b5 : Addr) (h0 : Heap) (n0 : Nat) (Z0 : n0 ≤ h0.size) (S0 : Sta Z h0 "com/example/windrow/windrow/Condition$Comparison" "EQUAL" "Lcom/example/windrow/windrow/Condition$Comparison;" (.ref b0)) (F0 : Fld Z h0 b0 "java/lang/Enum" "ordinal" "I" (.int (0 : Int32))) (E0 : Exa Z h0 b0 "com/example/windrow/windrow/Condition$Comparison") (S1 : Sta Z h0 "com/example/windrow/windrow/Condition$Comparison" "NOT_EQUAL" "Lcom/example/windrow/windrow/Condition$Comparison;" (.ref b1)) (F1 : Fld Z h0 b1 "java/lang/Enum" "ordinal" "I" (.int (1 : Int32))) (E1 : Exa Z h0 b1 "com/example/windrow/windrow/Condition$Comparison") (S2 : Sta Z h0 "com/example/windrow/windrow/Condition$Comparison" "LESS" "Lcom/example/windrow/windrow/Condition$Comparison;" (.ref b2)) (F2 : Fld Z h0 b2 "java/lang/Enum" "ordinal" "I" (.int (2 : Int32))) (E2 : Exa Z h0 b2 "com/example/windrow/windrow/Condition$Comparison") (S3 : Sta Z h0 "com/example/windrow/windrow/Condition$Comparison" "LESS_OR_EQUAL" "Lcom/example/windrow/windrow/Condition$Comparison;" (.ref b3)) (F3 : Fld Z h0 b3 "java/lang/Enum" "ordinal" "I" (.int (3 : Int32))) (E3 : Exa Z h0 b3 "com/example/windrow/windrow/Condition$Comparison") (S4 : Sta Z h0 "com/example/windrow/windrow/Condition$Comparison" "GREATER" "Lcom/example/windrow/windrow/Condition$Comparison;" (.ref b4)) (F4 : Fld Z h0 b4 "java/lang/Enum" "ordinal" "I" (.int (4 : Int32))) (E4 : Exa Z h0 b4 "com/example/windrow/windrow/Condition$Comparison") (S5 : Sta Z h0 "com/example/windrow/windrow/Condition$Comparison" "GREATER_OR_EQUAL" "Lcom/example/windrow/windrow/Condition$Comparison;" (.ref b5)) (F5 : Fld Z h0 b5 "java/lang/Enum" "ordinal" "I" (.int (5 : Int32))) (E5 : Exa Z h0 b5 "com/example/windrow/windrow/Condition$Comparison") :
    MetFree l x (head1 (Jvm.Cond.code x code maxLocals ret :: ws) room_1) (fun az Uz => az = #[(.int o)] ∧ Z.Warmed39 Uz.vm ∧ Uz.heap = h0) (fun _ _ _ _ _ => True) (fun _ Uz oz Ut => ∃ vz Lz, oz = .returned vz ∧ Q_law Z o b0 b1 b2 b3 b4 b5 h0 n0 vz Ut.heap Lz ∧ FrameEnd Uz oz Ut Lz (room_1).cells (room_1).slots) := by
  refine MetFree.of_bodySF (plainFor_of_name pn2) hisR ?_
  intro p e s m args below meth c s₁ Bd hml0 hP hK
  obtain ⟨rfl, hZ, hh⟩ := hP
  have hx := Bd.exec
  have hby := Bd.bytes
  have hml : c.maxLocals = 7 := hml0
  have hown : s.vm.findClass "com/example/windrow/windrow/ComparisonHoldsPinLaw" = some m.cls := findClass_of_methodNamed Bd.named
  have hnm := (name_of_methodNamed Bd.named Bd.method).1
  have hlk : meth.locks = false := Bd.notSynchronized
  have X0 : Stand p l e room_1 s m #[(.int o)] below meth c s₁ [] 0 0 := Stand.of_body Bd
  have e0 : s₁.heap = h0 := by rw [← hh, Bd.state]; rfl
  have N0 := Fr.nil n0
  show EndsK p e below (OQ s (Q_law Z o b0 b1 b2 b3 b4 b5 h0 n0) (room_1).cells (room_1).slots) (s₁.setTop (entryFrame m #[(.int o)] maxLocals))
  refine EndsK.start (ef_law m o b0 b1 b2 b3 b4 b5) ?_
  show EndsK p e below _ (s₁.setTop (mkF m 0 #[.val (.int o), .unset, .unset, .unset, .unset, .unset, .unset] []))
  obtain ⟨T1, X1, e1, st1⟩ := getS2 X0 hx hZ hown (host := "") (Or.inl (hw _ (List.mem_of_getElem? (i := 0) rfl))) Via.refl e0 S0 (g := (mkF m 0 #[.val (.int o), .unset, .unset, .unset, .unset, .unset, .unset] [])) rfl (hb hby at_0)
  refine EndsK.go st1 ?_
  show EndsK p e below _ (T1.setTop (mkF m 3 #[.val (.int o), .unset, .unset, .unset, .unset, .unset, .unset] [(.ref b0)]))
  refine EndsK.go (fun _ kz => XS.iloadN X1.here hx rfl (hb hby at_3) rfl kz) ?_
  show EndsK p e below _ (T1.setTop (mkF m 4 #[.val (.int o), .unset, .unset, .unset, .unset, .unset, .unset] [(.int o), (.ref b0)]))
  obtain ⟨cq2, kq2, qa2, qb2, qc2⟩ := isOf hZ e1 E0
  obtain ⟨_, _, ⟨T2, L2, k2, n2⟩, -, X2, ⟨Lc2, hQ2, l2, y2, z2⟩, st2⟩ := X1.virtualBack hx (y := (⟨"com/example/windrow/windrow/Condition$Comparison", "holds", "(I)Z"⟩ : MethodName)) (z := (⟨"com/example/windrow/windrow/Condition$Comparison", "holds", "(I)Z"⟩ : MethodName)) hown (mvT hZ (hw _ (List.mem_of_getElem? (i := 3) rfl))) (mvT hZ (hw _ (List.mem_of_getElem? (i := 4) rfl))) (notFace_of_selects (args := #[]) (mvT hZ (hw _ (List.mem_of_getElem? (i := 6) rfl)))) (mvT hZ (hw _ (List.mem_of_getElem? (i := 6) rfl))) (mvT hZ (hw _ (List.mem_of_getElem? (i := 5) rfl))) (by decide) (backOf (W := 0) (rm_holds0 l Z a0 hw [] b0 o h0 n0 Z0 F0 E0) hZ (hw _ (List.mem_of_getElem? (i := 7) rfl)) (hw _ (List.mem_of_getElem? (i := 1) rfl)) (by decide) (by decide)) qa2 qc2 (g := (mkF m 4 #[.val (.int o), .unset, .unset, .unset, .unset, .unset, .unset] [(.int o), (.ref b0)])) rfl (by rw [hml]; rfl) (Steps.refl _) (argsL := [(.int o)]) (rest := []) (lenOf pd1 rfl) rfl (by show 2 * 0 + _ ≤ _; exact Nat.le_of_eq rfl) (hb hby at_4) (fun _ _ => ⟨rfl, e1, (by decide : 0 + 0 ≤ _), (by decide : 0 + 0 ≤ _)⟩)
  dsimp only [Pt.U, Pt.locs, Pt.cells, Pt.slots] at X2 l2 y2 z2 st2 hQ2
  subst l2 y2 z2
  obtain ⟨rfl, N2, e2⟩ := hQ2
  have M2 := Fr.app N0 N2
  refine EndsK.tr st2 ?_
  show EndsK p e below _ (T2.setTop (mkF m 7 #[.val (.int o), .unset, .unset, .unset, .unset, .unset, .unset] [(.int (holdsF 0 o))]))
  refine EndsK.go (fun _ kz => XS.istoreN X2.here hx rfl (hb hby at_7) rfl (l' := #[.val (.int o), .val (.int (holdsF 0 o)), .unset, .unset, .unset, .unset, .unset]) rfl kz) ?_
  show EndsK p e below _ (T2.setTop (mkF m 8 #[.val (.int o), .val (.int (holdsF 0 o)), .unset, .unset, .unset, .unset, .unset] []))
  obtain ⟨T3, X3, e3, st3⟩ := getS2 X2 hx hZ hown (host := "") (Or.inl (hw _ (List.mem_of_getElem? (i := 17) rfl))) Via.refl e2 S1 (g := (mkF m 8 #[.val (.int o), .val (.int (holdsF 0 o)), .unset, .unset, .unset, .unset, .unset] [])) rfl (hb hby at_8)
  refine EndsK.go st3 ?_
  show EndsK p e below _ (T3.setTop (mkF m 11 #[.val (.int o), .val (.int (holdsF 0 o)), .unset, .unset, .unset, .unset, .unset] [(.ref b1)]))
  refine EndsK.go (fun _ kz => XS.iloadN X3.here hx rfl (hb hby at_11) rfl kz) ?_
  show EndsK p e below _ (T3.setTop (mkF m 12 #[.val (.int o), .val (.int (holdsF 0 o)), .unset, .unset, .unset, .unset, .unset] [(.int o), (.ref b1)]))
  obtain ⟨cq4, kq4, qa4, qb4, qc4⟩ := isOf hZ e3 E1
  obtain ⟨_, _, ⟨T4, L4, k4, n4⟩, -, X4, ⟨Lc4, hQ4, l4, y4, z4⟩, st4⟩ := X3.virtualBack hx (y := (⟨"com/example/windrow/windrow/Condition$Comparison", "holds", "(I)Z"⟩ : MethodName)) (z := (⟨"com/example/windrow/windrow/Condition$Comparison", "holds", "(I)Z"⟩ : MethodName)) hown (mvT hZ (hw _ (List.mem_of_getElem? (i := 3) rfl))) (mvT hZ (hw _ (List.mem_of_getElem? (i := 4) rfl))) (notFace_of_selects (args := #[]) (mvT hZ (hw _ (List.mem_of_getElem? (i := 6) rfl)))) (mvT hZ (hw _ (List.mem_of_getElem? (i := 6) rfl))) (mvT hZ (hw _ (List.mem_of_getElem? (i := 5) rfl))) (by decide) (backOf (W := 0) (rm_holds1 l Z a0 hw [] b1 o h0 n0 Z0 F1 E1) hZ (hw _ (List.mem_of_getElem? (i := 7) rfl)) (hw _ (List.mem_of_getElem? (i := 1) rfl)) (by decide) (by decide)) qa4 qc4 (g := (mkF m 12 #[.val (.int o), .val (.int (holdsF 0 o)), .unset, .unset, .unset, .unset, .unset] [(.int o), (.ref b1)])) rfl (by rw [hml]; rfl) (Steps.refl _) (argsL := [(.int o)]) (rest := []) (lenOf pd1 rfl) rfl (by show 2 * 0 + _ ≤ _; exact Nat.le_of_eq rfl) (hb hby at_12) (fun _ _ => ⟨rfl, e3, (by decide : 0 + 0 + 0 ≤ _), (by decide : 0 + 0 + 0 ≤ _)⟩)
  dsimp only [Pt.U, Pt.locs, Pt.cells, Pt.slots] at X4 l4 y4 z4 st4 hQ4
  subst l4 y4 z4
  obtain ⟨rfl, N4, e4⟩ := hQ4
  have M4 := Fr.app M2 N4
  refine EndsK.tr st4 ?_
  show EndsK p e below _ (T4.setTop (mkF m 15 #[.val (.int o), .val (.int (holdsF 0 o)), .unset, .unset, .unset, .unset, .unset] [(.int (holdsF 1 o))]))
  refine EndsK.go (fun _ kz => XS.istoreN X4.here hx rfl (hb hby at_15) rfl (l' := #[.val (.int o), .val (.int (holdsF 0 o)), .val (.int (holdsF 1 o)), .unset, .unset, .unset, .unset]) rfl kz) ?_
  show EndsK p e below _ (T4.setTop (mkF m 16 #[.val (.int o), .val (.int (holdsF 0 o)), .val (.int (holdsF 1 o)), .unset, .unset, .unset, .unset] []))
  obtain ⟨T5, X5, e5, st5⟩ := getS2 X4 hx hZ hown (host := "") (Or.inl (hw _ (List.mem_of_getElem? (i := 19) rfl))) Via.refl e4 S2 (g := (mkF m 16 #[.val (.int o), .val (.int (holdsF 0 o)), .val (.int (holdsF 1 o)), .unset, .unset, .unset, .unset] [])) rfl (hb hby at_16)
  refine EndsK.go st5 ?_
  show EndsK p e below _ (T5.setTop (mkF m 19 #[.val (.int o), .val (.int (holdsF 0 o)), .val (.int (holdsF 1 o)), .unset, .unset, .unset, .unset] [(.ref b2)]))
  refine EndsK.go (fun _ kz => XS.iloadN X5.here hx rfl (hb hby at_19) rfl kz) ?_
  show EndsK p e below _ (T5.setTop (mkF m 20 #[.val (.int o), .val (.int (holdsF 0 o)), .val (.int (holdsF 1 o)), .unset, .unset, .unset, .unset] [(.int o), (.ref b2)]))
  obtain ⟨cq6, kq6, qa6, qb6, qc6⟩ := isOf hZ e5 E2
  obtain ⟨_, _, ⟨T6, L6, k6, n6⟩, -, X6, ⟨Lc6, hQ6, l6, y6, z6⟩, st6⟩ := X5.virtualBack hx (y := (⟨"com/example/windrow/windrow/Condition$Comparison", "holds", "(I)Z"⟩ : MethodName)) (z := (⟨"com/example/windrow/windrow/Condition$Comparison", "holds", "(I)Z"⟩ : MethodName)) hown (mvT hZ (hw _ (List.mem_of_getElem? (i := 3) rfl))) (mvT hZ (hw _ (List.mem_of_getElem? (i := 4) rfl))) (notFace_of_selects (args := #[]) (mvT hZ (hw _ (List.mem_of_getElem? (i := 6) rfl)))) (mvT hZ (hw _ (List.mem_of_getElem? (i := 6) rfl))) (mvT hZ (hw _ (List.mem_of_getElem? (i := 5) rfl))) (by decide) (backOf (W := 0) (rm_holds2 l Z a0 hw [] b2 o h0 n0 Z0 F2 E2) hZ (hw _ (List.mem_of_getElem? (i := 7) rfl)) (hw _ (List.mem_of_getElem? (i := 1) rfl)) (by decide) (by decide)) qa6 qc6 (g := (mkF m 20 #[.val (.int o), .val (.int (holdsF 0 o)), .val (.int (holdsF 1 o)), .unset, .unset, .unset, .unset] [(.int o), (.ref b2)])) rfl (by rw [hml]; rfl) (Steps.refl _) (argsL := [(.int o)]) (rest := []) (lenOf pd1 rfl) rfl (by show 2 * 0 + _ ≤ _; exact Nat.le_of_eq rfl) (hb hby at_20) (fun _ _ => ⟨rfl, e5, (by decide : 0 + 0 + 0 + 0 ≤ _), (by decide : 0 + 0 + 0 + 0 ≤ _)⟩)
  dsimp only [Pt.U, Pt.locs, Pt.cells, Pt.slots] at X6 l6 y6 z6 st6 hQ6
  subst l6 y6 z6
  obtain ⟨rfl, N6, e6⟩ := hQ6
  have M6 := Fr.app M4 N6
  refine EndsK.tr st6 ?_
  show EndsK p e below _ (T6.setTop (mkF m 23 #[.val (.int o), .val (.int (holdsF 0 o)), .val (.int (holdsF 1 o)), .unset, .unset, .unset, .unset] [(.int (holdsF 2 o))]))
  refine EndsK.go (fun _ kz => XS.istoreN X6.here hx rfl (hb hby at_23) rfl (l' := #[.val (.int o), .val (.int (holdsF 0 o)), .val (.int (holdsF 1 o)), .val (.int (holdsF 2 o)), .unset, .unset, .unset]) rfl kz) ?_
  show EndsK p e below _ (T6.setTop (mkF m 24 #[.val (.int o), .val (.int (holdsF 0 o)), .val (.int (holdsF 1 o)), .val (.int (holdsF 2 o)), .unset, .unset, .unset] []))
  obtain ⟨T7, X7, e7, st7⟩ := getS2 X6 hx hZ hown (host := "") (Or.inl (hw _ (List.mem_of_getElem? (i := 21) rfl))) Via.refl e6 S3 (g := (mkF m 24 #[.val (.int o), .val (.int (holdsF 0 o)), .val (.int (holdsF 1 o)), .val (.int (holdsF 2 o)), .unset, .unset, .unset] [])) rfl (hb hby at_24)
  refine EndsK.go st7 ?_
  show EndsK p e below _ (T7.setTop (mkF m 27 #[.val (.int o), .val (.int (holdsF 0 o)), .val (.int (holdsF 1 o)), .val (.int (holdsF 2 o)), .unset, .unset, .unset] [(.ref b3)]))
  refine EndsK.go (fun _ kz => XS.iloadN X7.here hx rfl (hb hby at_27) rfl kz) ?_
  show EndsK p e below _ (T7.setTop (mkF m 28 #[.val (.int o), .val (.int (holdsF 0 o)), .val (.int (holdsF 1 o)), .val (.int (holdsF 2 o)), .unset, .unset, .unset] [(.int o), (.ref b3)]))
  obtain ⟨cq8, kq8, qa8, qb8, qc8⟩ := isOf hZ e7 E3
  obtain ⟨_, _, ⟨T8, L8, k8, n8⟩, -, X8, ⟨Lc8, hQ8, l8, y8, z8⟩, st8⟩ := X7.virtualBack hx (y := (⟨"com/example/windrow/windrow/Condition$Comparison", "holds", "(I)Z"⟩ : MethodName)) (z := (⟨"com/example/windrow/windrow/Condition$Comparison", "holds", "(I)Z"⟩ : MethodName)) hown (mvT hZ (hw _ (List.mem_of_getElem? (i := 3) rfl))) (mvT hZ (hw _ (List.mem_of_getElem? (i := 4) rfl))) (notFace_of_selects (args := #[]) (mvT hZ (hw _ (List.mem_of_getElem? (i := 6) rfl)))) (mvT hZ (hw _ (List.mem_of_getElem? (i := 6) rfl))) (mvT hZ (hw _ (List.mem_of_getElem? (i := 5) rfl))) (by decide) (backOf (W := 0) (rm_holds3 l Z a0 hw [] b3 o h0 n0 Z0 F3 E3) hZ (hw _ (List.mem_of_getElem? (i := 7) rfl)) (hw _ (List.mem_of_getElem? (i := 1) rfl)) (by decide) (by decide)) qa8 qc8 (g := (mkF m 28 #[.val (.int o), .val (.int (holdsF 0 o)), .val (.int (holdsF 1 o)), .val (.int (holdsF 2 o)), .unset, .unset, .unset] [(.int o), (.ref b3)])) rfl (by rw [hml]; rfl) (Steps.refl _) (argsL := [(.int o)]) (rest := []) (lenOf pd1 rfl) rfl (by show 2 * 0 + _ ≤ _; exact Nat.le_of_eq rfl) (hb hby at_28) (fun _ _ => ⟨rfl, e7, (by decide : 0 + 0 + 0 + 0 + 0 ≤ _), (by decide : 0 + 0 + 0 + 0 + 0 ≤ _)⟩)
  dsimp only [Pt.U, Pt.locs, Pt.cells, Pt.slots] at X8 l8 y8 z8 st8 hQ8
  subst l8 y8 z8
  obtain ⟨rfl, N8, e8⟩ := hQ8
  have M8 := Fr.app M6 N8
  refine EndsK.tr st8 ?_
  show EndsK p e below _ (T8.setTop (mkF m 31 #[.val (.int o), .val (.int (holdsF 0 o)), .val (.int (holdsF 1 o)), .val (.int (holdsF 2 o)), .unset, .unset, .unset] [(.int (holdsF 3 o))]))
  refine EndsK.go (fun _ kz => XS.istore X8.here hx rfl (hb hby at_31) rfl (l' := #[.val (.int o), .val (.int (holdsF 0 o)), .val (.int (holdsF 1 o)), .val (.int (holdsF 2 o)), .val (.int (holdsF 3 o)), .unset, .unset]) rfl kz) ?_
  show EndsK p e below _ (T8.setTop (mkF m 33 #[.val (.int o), .val (.int (holdsF 0 o)), .val (.int (holdsF 1 o)), .val (.int (holdsF 2 o)), .val (.int (holdsF 3 o)), .unset, .unset] []))
  obtain ⟨T9, X9, e9, st9⟩ := getS2 X8 hx hZ hown (host := "") (Or.inl (hw _ (List.mem_of_getElem? (i := 23) rfl))) Via.refl e8 S4 (g := (mkF m 33 #[.val (.int o), .val (.int (holdsF 0 o)), .val (.int (holdsF 1 o)), .val (.int (holdsF 2 o)), .val (.int (holdsF 3 o)), .unset, .unset] [])) rfl (hb hby at_33)
  refine EndsK.go st9 ?_
  show EndsK p e below _ (T9.setTop (mkF m 36 #[.val (.int o), .val (.int (holdsF 0 o)), .val (.int (holdsF 1 o)), .val (.int (holdsF 2 o)), .val (.int (holdsF 3 o)), .unset, .unset] [(.ref b4)]))
  refine EndsK.go (fun _ kz => XS.iloadN X9.here hx rfl (hb hby at_36) rfl kz) ?_
  show EndsK p e below _ (T9.setTop (mkF m 37 #[.val (.int o), .val (.int (holdsF 0 o)), .val (.int (holdsF 1 o)), .val (.int (holdsF 2 o)), .val (.int (holdsF 3 o)), .unset, .unset] [(.int o), (.ref b4)]))
  obtain ⟨cq10, kq10, qa10, qb10, qc10⟩ := isOf hZ e9 E4
  obtain ⟨_, _, ⟨T10, L10, k10, n10⟩, -, X10, ⟨Lc10, hQ10, l10, y10, z10⟩, st10⟩ := X9.virtualBack hx (y := (⟨"com/example/windrow/windrow/Condition$Comparison", "holds", "(I)Z"⟩ : MethodName)) (z := (⟨"com/example/windrow/windrow/Condition$Comparison", "holds", "(I)Z"⟩ : MethodName)) hown (mvT hZ (hw _ (List.mem_of_getElem? (i := 3) rfl))) (mvT hZ (hw _ (List.mem_of_getElem? (i := 4) rfl))) (notFace_of_selects (args := #[]) (mvT hZ (hw _ (List.mem_of_getElem? (i := 6) rfl)))) (mvT hZ (hw _ (List.mem_of_getElem? (i := 6) rfl))) (mvT hZ (hw _ (List.mem_of_getElem? (i := 5) rfl))) (by decide) (backOf (W := 0) (rm_holds4 l Z a0 hw [] b4 o h0 n0 Z0 F4 E4) hZ (hw _ (List.mem_of_getElem? (i := 7) rfl)) (hw _ (List.mem_of_getElem? (i := 1) rfl)) (by decide) (by decide)) qa10 qc10 (g := (mkF m 37 #[.val (.int o), .val (.int (holdsF 0 o)), .val (.int (holdsF 1 o)), .val (.int (holdsF 2 o)), .val (.int (holdsF 3 o)), .unset, .unset] [(.int o), (.ref b4)])) rfl (by rw [hml]; rfl) (Steps.refl _) (argsL := [(.int o)]) (rest := []) (lenOf pd1 rfl) rfl (by show 2 * 0 + _ ≤ _; exact Nat.le_of_eq rfl) (hb hby at_37) (fun _ _ => ⟨rfl, e9, (by decide : 0 + 0 + 0 + 0 + 0 + 0 ≤ _), (by decide : 0 + 0 + 0 + 0 + 0 + 0 ≤ _)⟩)
  dsimp only [Pt.U, Pt.locs, Pt.cells, Pt.slots] at X10 l10 y10 z10 st10 hQ10
  subst l10 y10 z10
  obtain ⟨rfl, N10, e10⟩ := hQ10
  have M10 := Fr.app M8 N10
  refine EndsK.tr st10 ?_
  show EndsK p e below _ (T10.setTop (mkF m 40 #[.val (.int o), .val (.int (holdsF 0 o)), .val (.int (holdsF 1 o)), .val (.int (holdsF 2 o)), .val (.int (holdsF 3 o)), .unset, .unset] [(.int (holdsF 4 o))]))
  refine EndsK.go (fun _ kz => XS.istore X10.here hx rfl (hb hby at_40) rfl (l' := #[.val (.int o), .val (.int (holdsF 0 o)), .val (.int (holdsF 1 o)), .val (.int (holdsF 2 o)), .val (.int (holdsF 3 o)), .val (.int (holdsF 4 o)), .unset]) rfl kz) ?_
  show EndsK p e below _ (T10.setTop (mkF m 42 #[.val (.int o), .val (.int (holdsF 0 o)), .val (.int (holdsF 1 o)), .val (.int (holdsF 2 o)), .val (.int (holdsF 3 o)), .val (.int (holdsF 4 o)), .unset] []))
  obtain ⟨T11, X11, e11, st11⟩ := getS2 X10 hx hZ hown (host := "") (Or.inl (hw _ (List.mem_of_getElem? (i := 25) rfl))) Via.refl e10 S5 (g := (mkF m 42 #[.val (.int o), .val (.int (holdsF 0 o)), .val (.int (holdsF 1 o)), .val (.int (holdsF 2 o)), .val (.int (holdsF 3 o)), .val (.int (holdsF 4 o)), .unset] [])) rfl (hb hby at_42)
  refine EndsK.go st11 ?_
  show EndsK p e below _ (T11.setTop (mkF m 45 #[.val (.int o), .val (.int (holdsF 0 o)), .val (.int (holdsF 1 o)), .val (.int (holdsF 2 o)), .val (.int (holdsF 3 o)), .val (.int (holdsF 4 o)), .unset] [(.ref b5)]))
  refine EndsK.go (fun _ kz => XS.iloadN X11.here hx rfl (hb hby at_45) rfl kz) ?_
  show EndsK p e below _ (T11.setTop (mkF m 46 #[.val (.int o), .val (.int (holdsF 0 o)), .val (.int (holdsF 1 o)), .val (.int (holdsF 2 o)), .val (.int (holdsF 3 o)), .val (.int (holdsF 4 o)), .unset] [(.int o), (.ref b5)]))
  obtain ⟨cq12, kq12, qa12, qb12, qc12⟩ := isOf hZ e11 E5
  obtain ⟨_, _, ⟨T12, L12, k12, n12⟩, -, X12, ⟨Lc12, hQ12, l12, y12, z12⟩, st12⟩ := X11.virtualBack hx (y := (⟨"com/example/windrow/windrow/Condition$Comparison", "holds", "(I)Z"⟩ : MethodName)) (z := (⟨"com/example/windrow/windrow/Condition$Comparison", "holds", "(I)Z"⟩ : MethodName)) hown (mvT hZ (hw _ (List.mem_of_getElem? (i := 3) rfl))) (mvT hZ (hw _ (List.mem_of_getElem? (i := 4) rfl))) (notFace_of_selects (args := #[]) (mvT hZ (hw _ (List.mem_of_getElem? (i := 6) rfl)))) (mvT hZ (hw _ (List.mem_of_getElem? (i := 6) rfl))) (mvT hZ (hw _ (List.mem_of_getElem? (i := 5) rfl))) (by decide) (backOf (W := 0) (rm_holds5 l Z a0 hw [] b5 o h0 n0 Z0 F5 E5) hZ (hw _ (List.mem_of_getElem? (i := 7) rfl)) (hw _ (List.mem_of_getElem? (i := 1) rfl)) (by decide) (by decide)) qa12 qc12 (g := (mkF m 46 #[.val (.int o), .val (.int (holdsF 0 o)), .val (.int (holdsF 1 o)), .val (.int (holdsF 2 o)), .val (.int (holdsF 3 o)), .val (.int (holdsF 4 o)), .unset] [(.int o), (.ref b5)])) rfl (by rw [hml]; rfl) (Steps.refl _) (argsL := [(.int o)]) (rest := []) (lenOf pd1 rfl) rfl (by show 2 * 0 + _ ≤ _; exact Nat.le_of_eq rfl) (hb hby at_46) (fun _ _ => ⟨rfl, e11, (by decide : 0 + 0 + 0 + 0 + 0 + 0 + 0 ≤ _), (by decide : 0 + 0 + 0 + 0 + 0 + 0 + 0 ≤ _)⟩)
  dsimp only [Pt.U, Pt.locs, Pt.cells, Pt.slots] at X12 l12 y12 z12 st12 hQ12
  subst l12 y12 z12
  obtain ⟨rfl, N12, e12⟩ := hQ12
  have M12 := Fr.app M10 N12
  refine EndsK.tr st12 ?_
  show EndsK p e below _ (T12.setTop (mkF m 49 #[.val (.int o), .val (.int (holdsF 0 o)), .val (.int (holdsF 1 o)), .val (.int (holdsF 2 o)), .val (.int (holdsF 3 o)), .val (.int (holdsF 4 o)), .unset] [(.int (holdsF 5 o))]))
  refine EndsK.go (fun _ kz => XS.istore X12.here hx rfl (hb hby at_49) rfl (l' := #[.val (.int o), .val (.int (holdsF 0 o)), .val (.int (holdsF 1 o)), .val (.int (holdsF 2 o)), .val (.int (holdsF 3 o)), .val (.int (holdsF 4 o)), .val (.int (holdsF 5 o))]) rfl kz) ?_
  show EndsK p e below _ (T12.setTop (mkF m 51 #[.val (.int o), .val (.int (holdsF 0 o)), .val (.int (holdsF 1 o)), .val (.int (holdsF 2 o)), .val (.int (holdsF 3 o)), .val (.int (holdsF 4 o)), .val (.int (holdsF 5 o))] []))
  refine EndsK.go (fun _ kz => XS.iloadN X12.here hx rfl (hb hby at_51) rfl kz) ?_
  show EndsK p e below _ (T12.setTop (mkF m 52 #[.val (.int o), .val (.int (holdsF 0 o)), .val (.int (holdsF 1 o)), .val (.int (holdsF 2 o)), .val (.int (holdsF 3 o)), .val (.int (holdsF 4 o)), .val (.int (holdsF 5 o))] [(.int (holdsF 0 o))]))
  refine EndsK.go (fun _ kz => XS.iconst X12.here hx rfl (hb hby at_52) kz) ?_
  show EndsK p e below _ (T12.setTop (mkF m 53 #[.val (.int o), .val (.int (holdsF 0 o)), .val (.int (holdsF 1 o)), .val (.int (holdsF 2 o)), .val (.int (holdsF 3 o)), .val (.int (holdsF 4 o)), .val (.int (holdsF 5 o))] [(.int (2 : Int32)), (.int (holdsF 0 o))]))
  refine EndsK.go (fun _ kz => XS.iloadN X12.here hx rfl (hb hby at_53) rfl kz) ?_
  show EndsK p e below _ (T12.setTop (mkF m 54 #[.val (.int o), .val (.int (holdsF 0 o)), .val (.int (holdsF 1 o)), .val (.int (holdsF 2 o)), .val (.int (holdsF 3 o)), .val (.int (holdsF 4 o)), .val (.int (holdsF 5 o))] [(.int o), (.int (2 : Int32)), (.int (holdsF 0 o))]))
  obtain ⟨_, _, ⟨T13, L13, k13, n13⟩, -, X13, ⟨Lc13, hQ13, l13, y13, z13⟩, st13⟩ := Jvm.LawKit.callS X12 hx (y := (⟨"com/example/windrow/windrow/ComparisonHoldsPinLaw", "accepted", "(II)Z"⟩ : MethodName)) hown (mvT hZ (hw _ (List.mem_of_getElem? (i := 27) rfl))) (mvT hZ (hw _ (List.mem_of_getElem? (i := 28) rfl))) (mvT hZ (hw _ (List.mem_of_getElem? (i := 29) rfl))) (mvT hZ (hw _ (List.mem_of_getElem? (i := 30) rfl))) (by decide) (backOf (W := 1) (rm_acc l Z a0 hw [] (2 : Int32) o h0 n0 Z0) hZ (hw _ (List.mem_of_getElem? (i := 30) rfl)) (hw _ (List.mem_of_getElem? (i := 29) rfl)) (by decide) (by decide)) (g := (mkF m 54 #[.val (.int o), .val (.int (holdsF 0 o)), .val (.int (holdsF 1 o)), .val (.int (holdsF 2 o)), .val (.int (holdsF 3 o)), .val (.int (holdsF 4 o)), .val (.int (holdsF 5 o))] [(.int o), (.int (2 : Int32)), (.int (holdsF 0 o))])) rfl (by rw [hml]; rfl) (argsL := [(.int (2 : Int32)), (.int o)]) (rest := [(.int (holdsF 0 o))]) (lenOf pd2 rfl) rfl (by show 2 * 0 + _ ≤ _; exact Nat.le_of_eq rfl) (hb hby at_54) (fun _ _ => ⟨rfl, e12, (by decide : 0 + 0 + 0 + 0 + 0 + 0 + 0 + 0 ≤ _), (by decide : 0 + 0 + 0 + 0 + 0 + 0 + 0 + 0 ≤ _)⟩)
  dsimp only [Pt.U, Pt.locs, Pt.cells, Pt.slots] at X13 l13 y13 z13 st13 hQ13
  subst l13 y13 z13
  obtain ⟨rfl, N13, e13⟩ := hQ13
  have M13 := Fr.app M12 N13
  refine EndsK.go st13 ?_
  show EndsK p e below _ (T13.setTop (mkF m 57 #[.val (.int o), .val (.int (holdsF 0 o)), .val (.int (holdsF 1 o)), .val (.int (holdsF 2 o)), .val (.int (holdsF 3 o)), .val (.int (holdsF 4 o)), .val (.int (holdsF 5 o))] [(.int (accF 2 o)), (.int (holdsF 0 o))]))
  refine EndsK.go (fun _ kz => XS.icmpNo X13.here hx rfl (hb hby at_57) rfl (teq (own_law o).1).2 kz) ?_
  show EndsK p e below _ (T13.setTop (mkF m 60 #[.val (.int o), .val (.int (holdsF 0 o)), .val (.int (holdsF 1 o)), .val (.int (holdsF 2 o)), .val (.int (holdsF 3 o)), .val (.int (holdsF 4 o)), .val (.int (holdsF 5 o))] []))
  refine EndsK.go (fun _ kz => XS.iloadN X13.here hx rfl (hb hby at_60) rfl kz) ?_
  show EndsK p e below _ (T13.setTop (mkF m 61 #[.val (.int o), .val (.int (holdsF 0 o)), .val (.int (holdsF 1 o)), .val (.int (holdsF 2 o)), .val (.int (holdsF 3 o)), .val (.int (holdsF 4 o)), .val (.int (holdsF 5 o))] [(.int (holdsF 1 o))]))
  refine EndsK.go (fun _ kz => XS.iconst X13.here hx rfl (hb hby at_61) kz) ?_
  show EndsK p e below _ (T13.setTop (mkF m 62 #[.val (.int o), .val (.int (holdsF 0 o)), .val (.int (holdsF 1 o)), .val (.int (holdsF 2 o)), .val (.int (holdsF 3 o)), .val (.int (holdsF 4 o)), .val (.int (holdsF 5 o))] [(.int (5 : Int32)), (.int (holdsF 1 o))]))
  refine EndsK.go (fun _ kz => XS.iloadN X13.here hx rfl (hb hby at_62) rfl kz) ?_
  show EndsK p e below _ (T13.setTop (mkF m 63 #[.val (.int o), .val (.int (holdsF 0 o)), .val (.int (holdsF 1 o)), .val (.int (holdsF 2 o)), .val (.int (holdsF 3 o)), .val (.int (holdsF 4 o)), .val (.int (holdsF 5 o))] [(.int o), (.int (5 : Int32)), (.int (holdsF 1 o))]))
  obtain ⟨_, _, ⟨T14, L14, k14, n14⟩, -, X14, ⟨Lc14, hQ14, l14, y14, z14⟩, st14⟩ := Jvm.LawKit.callS X13 hx (y := (⟨"com/example/windrow/windrow/ComparisonHoldsPinLaw", "accepted", "(II)Z"⟩ : MethodName)) hown (mvT hZ (hw _ (List.mem_of_getElem? (i := 27) rfl))) (mvT hZ (hw _ (List.mem_of_getElem? (i := 28) rfl))) (mvT hZ (hw _ (List.mem_of_getElem? (i := 29) rfl))) (mvT hZ (hw _ (List.mem_of_getElem? (i := 30) rfl))) (by decide) (backOf (W := 1) (rm_acc l Z a0 hw [] (5 : Int32) o h0 n0 Z0) hZ (hw _ (List.mem_of_getElem? (i := 30) rfl)) (hw _ (List.mem_of_getElem? (i := 29) rfl)) (by decide) (by decide)) (g := (mkF m 63 #[.val (.int o), .val (.int (holdsF 0 o)), .val (.int (holdsF 1 o)), .val (.int (holdsF 2 o)), .val (.int (holdsF 3 o)), .val (.int (holdsF 4 o)), .val (.int (holdsF 5 o))] [(.int o), (.int (5 : Int32)), (.int (holdsF 1 o))])) rfl (by rw [hml]; rfl) (argsL := [(.int (5 : Int32)), (.int o)]) (rest := [(.int (holdsF 1 o))]) (lenOf pd2 rfl) rfl (by show 2 * 0 + _ ≤ _; exact Nat.le_of_eq rfl) (hb hby at_63) (fun _ _ => ⟨rfl, e13, (by decide : 0 + 0 + 0 + 0 + 0 + 0 + 0 + 0 + 0 ≤ _), (by decide : 0 + 0 + 0 + 0 + 0 + 0 + 0 + 0 + 0 ≤ _)⟩)
  dsimp only [Pt.U, Pt.locs, Pt.cells, Pt.slots] at X14 l14 y14 z14 st14 hQ14
  subst l14 y14 z14
  obtain ⟨rfl, N14, e14⟩ := hQ14
  have M14 := Fr.app M13 N14
  refine EndsK.go st14 ?_
  show EndsK p e below _ (T14.setTop (mkF m 66 #[.val (.int o), .val (.int (holdsF 0 o)), .val (.int (holdsF 1 o)), .val (.int (holdsF 2 o)), .val (.int (holdsF 3 o)), .val (.int (holdsF 4 o)), .val (.int (holdsF 5 o))] [(.int (accF 5 o)), (.int (holdsF 1 o))]))
  refine EndsK.go (fun _ kz => XS.icmpNo X14.here hx rfl (hb hby at_66) rfl (teq (own_law o).2.1).2 kz) ?_
  show EndsK p e below _ (T14.setTop (mkF m 69 #[.val (.int o), .val (.int (holdsF 0 o)), .val (.int (holdsF 1 o)), .val (.int (holdsF 2 o)), .val (.int (holdsF 3 o)), .val (.int (holdsF 4 o)), .val (.int (holdsF 5 o))] []))
  refine EndsK.go (fun _ kz => XS.iloadN X14.here hx rfl (hb hby at_69) rfl kz) ?_
  show EndsK p e below _ (T14.setTop (mkF m 70 #[.val (.int o), .val (.int (holdsF 0 o)), .val (.int (holdsF 1 o)), .val (.int (holdsF 2 o)), .val (.int (holdsF 3 o)), .val (.int (holdsF 4 o)), .val (.int (holdsF 5 o))] [(.int (holdsF 2 o))]))
  refine EndsK.go (fun _ kz => XS.iconst X14.here hx rfl (hb hby at_70) kz) ?_
  show EndsK p e below _ (T14.setTop (mkF m 71 #[.val (.int o), .val (.int (holdsF 0 o)), .val (.int (holdsF 1 o)), .val (.int (holdsF 2 o)), .val (.int (holdsF 3 o)), .val (.int (holdsF 4 o)), .val (.int (holdsF 5 o))] [(.int (1 : Int32)), (.int (holdsF 2 o))]))
  refine EndsK.go (fun _ kz => XS.iloadN X14.here hx rfl (hb hby at_71) rfl kz) ?_
  show EndsK p e below _ (T14.setTop (mkF m 72 #[.val (.int o), .val (.int (holdsF 0 o)), .val (.int (holdsF 1 o)), .val (.int (holdsF 2 o)), .val (.int (holdsF 3 o)), .val (.int (holdsF 4 o)), .val (.int (holdsF 5 o))] [(.int o), (.int (1 : Int32)), (.int (holdsF 2 o))]))
  obtain ⟨_, _, ⟨T15, L15, k15, n15⟩, -, X15, ⟨Lc15, hQ15, l15, y15, z15⟩, st15⟩ := Jvm.LawKit.callS X14 hx (y := (⟨"com/example/windrow/windrow/ComparisonHoldsPinLaw", "accepted", "(II)Z"⟩ : MethodName)) hown (mvT hZ (hw _ (List.mem_of_getElem? (i := 27) rfl))) (mvT hZ (hw _ (List.mem_of_getElem? (i := 28) rfl))) (mvT hZ (hw _ (List.mem_of_getElem? (i := 29) rfl))) (mvT hZ (hw _ (List.mem_of_getElem? (i := 30) rfl))) (by decide) (backOf (W := 1) (rm_acc l Z a0 hw [] (1 : Int32) o h0 n0 Z0) hZ (hw _ (List.mem_of_getElem? (i := 30) rfl)) (hw _ (List.mem_of_getElem? (i := 29) rfl)) (by decide) (by decide)) (g := (mkF m 72 #[.val (.int o), .val (.int (holdsF 0 o)), .val (.int (holdsF 1 o)), .val (.int (holdsF 2 o)), .val (.int (holdsF 3 o)), .val (.int (holdsF 4 o)), .val (.int (holdsF 5 o))] [(.int o), (.int (1 : Int32)), (.int (holdsF 2 o))])) rfl (by rw [hml]; rfl) (argsL := [(.int (1 : Int32)), (.int o)]) (rest := [(.int (holdsF 2 o))]) (lenOf pd2 rfl) rfl (by show 2 * 0 + _ ≤ _; exact Nat.le_of_eq rfl) (hb hby at_72) (fun _ _ => ⟨rfl, e14, (by decide : 0 + 0 + 0 + 0 + 0 + 0 + 0 + 0 + 0 + 0 ≤ _), (by decide : 0 + 0 + 0 + 0 + 0 + 0 + 0 + 0 + 0 + 0 ≤ _)⟩)
  dsimp only [Pt.U, Pt.locs, Pt.cells, Pt.slots] at X15 l15 y15 z15 st15 hQ15
  subst l15 y15 z15
  obtain ⟨rfl, N15, e15⟩ := hQ15
  have M15 := Fr.app M14 N15
  refine EndsK.go st15 ?_
  show EndsK p e below _ (T15.setTop (mkF m 75 #[.val (.int o), .val (.int (holdsF 0 o)), .val (.int (holdsF 1 o)), .val (.int (holdsF 2 o)), .val (.int (holdsF 3 o)), .val (.int (holdsF 4 o)), .val (.int (holdsF 5 o))] [(.int (accF 1 o)), (.int (holdsF 2 o))]))
  refine EndsK.go (fun _ kz => XS.icmpNo X15.here hx rfl (hb hby at_75) rfl (teq (own_law o).2.2.1).2 kz) ?_
  show EndsK p e below _ (T15.setTop (mkF m 78 #[.val (.int o), .val (.int (holdsF 0 o)), .val (.int (holdsF 1 o)), .val (.int (holdsF 2 o)), .val (.int (holdsF 3 o)), .val (.int (holdsF 4 o)), .val (.int (holdsF 5 o))] []))
  refine EndsK.go (fun _ kz => XS.iload X15.here hx rfl (hb hby at_78) rfl kz) ?_
  show EndsK p e below _ (T15.setTop (mkF m 80 #[.val (.int o), .val (.int (holdsF 0 o)), .val (.int (holdsF 1 o)), .val (.int (holdsF 2 o)), .val (.int (holdsF 3 o)), .val (.int (holdsF 4 o)), .val (.int (holdsF 5 o))] [(.int (holdsF 3 o))]))
  refine EndsK.go (fun _ kz => XS.iconst X15.here hx rfl (hb hby at_80) kz) ?_
  show EndsK p e below _ (T15.setTop (mkF m 81 #[.val (.int o), .val (.int (holdsF 0 o)), .val (.int (holdsF 1 o)), .val (.int (holdsF 2 o)), .val (.int (holdsF 3 o)), .val (.int (holdsF 4 o)), .val (.int (holdsF 5 o))] [(.int (3 : Int32)), (.int (holdsF 3 o))]))
  refine EndsK.go (fun _ kz => XS.iloadN X15.here hx rfl (hb hby at_81) rfl kz) ?_
  show EndsK p e below _ (T15.setTop (mkF m 82 #[.val (.int o), .val (.int (holdsF 0 o)), .val (.int (holdsF 1 o)), .val (.int (holdsF 2 o)), .val (.int (holdsF 3 o)), .val (.int (holdsF 4 o)), .val (.int (holdsF 5 o))] [(.int o), (.int (3 : Int32)), (.int (holdsF 3 o))]))
  obtain ⟨_, _, ⟨T16, L16, k16, n16⟩, -, X16, ⟨Lc16, hQ16, l16, y16, z16⟩, st16⟩ := Jvm.LawKit.callS X15 hx (y := (⟨"com/example/windrow/windrow/ComparisonHoldsPinLaw", "accepted", "(II)Z"⟩ : MethodName)) hown (mvT hZ (hw _ (List.mem_of_getElem? (i := 27) rfl))) (mvT hZ (hw _ (List.mem_of_getElem? (i := 28) rfl))) (mvT hZ (hw _ (List.mem_of_getElem? (i := 29) rfl))) (mvT hZ (hw _ (List.mem_of_getElem? (i := 30) rfl))) (by decide) (backOf (W := 1) (rm_acc l Z a0 hw [] (3 : Int32) o h0 n0 Z0) hZ (hw _ (List.mem_of_getElem? (i := 30) rfl)) (hw _ (List.mem_of_getElem? (i := 29) rfl)) (by decide) (by decide)) (g := (mkF m 82 #[.val (.int o), .val (.int (holdsF 0 o)), .val (.int (holdsF 1 o)), .val (.int (holdsF 2 o)), .val (.int (holdsF 3 o)), .val (.int (holdsF 4 o)), .val (.int (holdsF 5 o))] [(.int o), (.int (3 : Int32)), (.int (holdsF 3 o))])) rfl (by rw [hml]; rfl) (argsL := [(.int (3 : Int32)), (.int o)]) (rest := [(.int (holdsF 3 o))]) (lenOf pd2 rfl) rfl (by show 2 * 0 + _ ≤ _; exact Nat.le_of_eq rfl) (hb hby at_82) (fun _ _ => ⟨rfl, e15, (by decide : 0 + 0 + 0 + 0 + 0 + 0 + 0 + 0 + 0 + 0 + 0 ≤ _), (by decide : 0 + 0 + 0 + 0 + 0 + 0 + 0 + 0 + 0 + 0 + 0 ≤ _)⟩)
  dsimp only [Pt.U, Pt.locs, Pt.cells, Pt.slots] at X16 l16 y16 z16 st16 hQ16
  subst l16 y16 z16
  obtain ⟨rfl, N16, e16⟩ := hQ16
  have M16 := Fr.app M15 N16
  refine EndsK.go st16 ?_
  show EndsK p e below _ (T16.setTop (mkF m 85 #[.val (.int o), .val (.int (holdsF 0 o)), .val (.int (holdsF 1 o)), .val (.int (holdsF 2 o)), .val (.int (holdsF 3 o)), .val (.int (holdsF 4 o)), .val (.int (holdsF 5 o))] [(.int (accF 3 o)), (.int (holdsF 3 o))]))
  refine EndsK.go (fun _ kz => XS.icmpNo X16.here hx rfl (hb hby at_85) rfl (teq (own_law o).2.2.2.1).2 kz) ?_
  show EndsK p e below _ (T16.setTop (mkF m 88 #[.val (.int o), .val (.int (holdsF 0 o)), .val (.int (holdsF 1 o)), .val (.int (holdsF 2 o)), .val (.int (holdsF 3 o)), .val (.int (holdsF 4 o)), .val (.int (holdsF 5 o))] []))
  refine EndsK.go (fun _ kz => XS.iload X16.here hx rfl (hb hby at_88) rfl kz) ?_
  show EndsK p e below _ (T16.setTop (mkF m 90 #[.val (.int o), .val (.int (holdsF 0 o)), .val (.int (holdsF 1 o)), .val (.int (holdsF 2 o)), .val (.int (holdsF 3 o)), .val (.int (holdsF 4 o)), .val (.int (holdsF 5 o))] [(.int (holdsF 4 o))]))
  refine EndsK.go (fun _ kz => XS.iconst X16.here hx rfl (hb hby at_90) kz) ?_
  show EndsK p e below _ (T16.setTop (mkF m 91 #[.val (.int o), .val (.int (holdsF 0 o)), .val (.int (holdsF 1 o)), .val (.int (holdsF 2 o)), .val (.int (holdsF 3 o)), .val (.int (holdsF 4 o)), .val (.int (holdsF 5 o))] [(.int (4 : Int32)), (.int (holdsF 4 o))]))
  refine EndsK.go (fun _ kz => XS.iloadN X16.here hx rfl (hb hby at_91) rfl kz) ?_
  show EndsK p e below _ (T16.setTop (mkF m 92 #[.val (.int o), .val (.int (holdsF 0 o)), .val (.int (holdsF 1 o)), .val (.int (holdsF 2 o)), .val (.int (holdsF 3 o)), .val (.int (holdsF 4 o)), .val (.int (holdsF 5 o))] [(.int o), (.int (4 : Int32)), (.int (holdsF 4 o))]))
  obtain ⟨_, _, ⟨T17, L17, k17, n17⟩, -, X17, ⟨Lc17, hQ17, l17, y17, z17⟩, st17⟩ := Jvm.LawKit.callS X16 hx (y := (⟨"com/example/windrow/windrow/ComparisonHoldsPinLaw", "accepted", "(II)Z"⟩ : MethodName)) hown (mvT hZ (hw _ (List.mem_of_getElem? (i := 27) rfl))) (mvT hZ (hw _ (List.mem_of_getElem? (i := 28) rfl))) (mvT hZ (hw _ (List.mem_of_getElem? (i := 29) rfl))) (mvT hZ (hw _ (List.mem_of_getElem? (i := 30) rfl))) (by decide) (backOf (W := 1) (rm_acc l Z a0 hw [] (4 : Int32) o h0 n0 Z0) hZ (hw _ (List.mem_of_getElem? (i := 30) rfl)) (hw _ (List.mem_of_getElem? (i := 29) rfl)) (by decide) (by decide)) (g := (mkF m 92 #[.val (.int o), .val (.int (holdsF 0 o)), .val (.int (holdsF 1 o)), .val (.int (holdsF 2 o)), .val (.int (holdsF 3 o)), .val (.int (holdsF 4 o)), .val (.int (holdsF 5 o))] [(.int o), (.int (4 : Int32)), (.int (holdsF 4 o))])) rfl (by rw [hml]; rfl) (argsL := [(.int (4 : Int32)), (.int o)]) (rest := [(.int (holdsF 4 o))]) (lenOf pd2 rfl) rfl (by show 2 * 0 + _ ≤ _; exact Nat.le_of_eq rfl) (hb hby at_92) (fun _ _ => ⟨rfl, e16, (by decide : 0 + 0 + 0 + 0 + 0 + 0 + 0 + 0 + 0 + 0 + 0 + 0 ≤ _), (by decide : 0 + 0 + 0 + 0 + 0 + 0 + 0 + 0 + 0 + 0 + 0 + 0 ≤ _)⟩)
  dsimp only [Pt.U, Pt.locs, Pt.cells, Pt.slots] at X17 l17 y17 z17 st17 hQ17
  subst l17 y17 z17
  obtain ⟨rfl, N17, e17⟩ := hQ17
  have M17 := Fr.app M16 N17
  refine EndsK.go st17 ?_
  show EndsK p e below _ (T17.setTop (mkF m 95 #[.val (.int o), .val (.int (holdsF 0 o)), .val (.int (holdsF 1 o)), .val (.int (holdsF 2 o)), .val (.int (holdsF 3 o)), .val (.int (holdsF 4 o)), .val (.int (holdsF 5 o))] [(.int (accF 4 o)), (.int (holdsF 4 o))]))
  refine EndsK.go (fun _ kz => XS.icmpNo X17.here hx rfl (hb hby at_95) rfl (teq (own_law o).2.2.2.2.1).2 kz) ?_
  show EndsK p e below _ (T17.setTop (mkF m 98 #[.val (.int o), .val (.int (holdsF 0 o)), .val (.int (holdsF 1 o)), .val (.int (holdsF 2 o)), .val (.int (holdsF 3 o)), .val (.int (holdsF 4 o)), .val (.int (holdsF 5 o))] []))
  refine EndsK.go (fun _ kz => XS.iload X17.here hx rfl (hb hby at_98) rfl kz) ?_
  show EndsK p e below _ (T17.setTop (mkF m 100 #[.val (.int o), .val (.int (holdsF 0 o)), .val (.int (holdsF 1 o)), .val (.int (holdsF 2 o)), .val (.int (holdsF 3 o)), .val (.int (holdsF 4 o)), .val (.int (holdsF 5 o))] [(.int (holdsF 5 o))]))
  refine EndsK.go (fun _ kz => XS.bipush X17.here hx rfl (hb hby at_100) kz) ?_
  show EndsK p e below _ (T17.setTop (mkF m 102 #[.val (.int o), .val (.int (holdsF 0 o)), .val (.int (holdsF 1 o)), .val (.int (holdsF 2 o)), .val (.int (holdsF 3 o)), .val (.int (holdsF 4 o)), .val (.int (holdsF 5 o))] [(.int (6 : Int32)), (.int (holdsF 5 o))]))
  refine EndsK.go (fun _ kz => XS.iloadN X17.here hx rfl (hb hby at_102) rfl kz) ?_
  show EndsK p e below _ (T17.setTop (mkF m 103 #[.val (.int o), .val (.int (holdsF 0 o)), .val (.int (holdsF 1 o)), .val (.int (holdsF 2 o)), .val (.int (holdsF 3 o)), .val (.int (holdsF 4 o)), .val (.int (holdsF 5 o))] [(.int o), (.int (6 : Int32)), (.int (holdsF 5 o))]))
  obtain ⟨_, _, ⟨T18, L18, k18, n18⟩, -, X18, ⟨Lc18, hQ18, l18, y18, z18⟩, st18⟩ := Jvm.LawKit.callS X17 hx (y := (⟨"com/example/windrow/windrow/ComparisonHoldsPinLaw", "accepted", "(II)Z"⟩ : MethodName)) hown (mvT hZ (hw _ (List.mem_of_getElem? (i := 27) rfl))) (mvT hZ (hw _ (List.mem_of_getElem? (i := 28) rfl))) (mvT hZ (hw _ (List.mem_of_getElem? (i := 29) rfl))) (mvT hZ (hw _ (List.mem_of_getElem? (i := 30) rfl))) (by decide) (backOf (W := 1) (rm_acc l Z a0 hw [] (6 : Int32) o h0 n0 Z0) hZ (hw _ (List.mem_of_getElem? (i := 30) rfl)) (hw _ (List.mem_of_getElem? (i := 29) rfl)) (by decide) (by decide)) (g := (mkF m 103 #[.val (.int o), .val (.int (holdsF 0 o)), .val (.int (holdsF 1 o)), .val (.int (holdsF 2 o)), .val (.int (holdsF 3 o)), .val (.int (holdsF 4 o)), .val (.int (holdsF 5 o))] [(.int o), (.int (6 : Int32)), (.int (holdsF 5 o))])) rfl (by rw [hml]; rfl) (argsL := [(.int (6 : Int32)), (.int o)]) (rest := [(.int (holdsF 5 o))]) (lenOf pd2 rfl) rfl (by show 2 * 0 + _ ≤ _; exact Nat.le_of_eq rfl) (hb hby at_103) (fun _ _ => ⟨rfl, e17, (by decide : 0 + 0 + 0 + 0 + 0 + 0 + 0 + 0 + 0 + 0 + 0 + 0 + 0 ≤ _), (by decide : 0 + 0 + 0 + 0 + 0 + 0 + 0 + 0 + 0 + 0 + 0 + 0 + 0 ≤ _)⟩)
  dsimp only [Pt.U, Pt.locs, Pt.cells, Pt.slots] at X18 l18 y18 z18 st18 hQ18
  subst l18 y18 z18
  obtain ⟨rfl, N18, e18⟩ := hQ18
  have M18 := Fr.app M17 N18
  refine EndsK.go st18 ?_
  show EndsK p e below _ (T18.setTop (mkF m 106 #[.val (.int o), .val (.int (holdsF 0 o)), .val (.int (holdsF 1 o)), .val (.int (holdsF 2 o)), .val (.int (holdsF 3 o)), .val (.int (holdsF 4 o)), .val (.int (holdsF 5 o))] [(.int (accF 6 o)), (.int (holdsF 5 o))]))
  refine EndsK.go (fun _ kz => XS.icmpNo X18.here hx rfl (hb hby at_106) rfl (teq (own_law o).2.2.2.2.2).2 kz) ?_
  show EndsK p e below _ (T18.setTop (mkF m 109 #[.val (.int o), .val (.int (holdsF 0 o)), .val (.int (holdsF 1 o)), .val (.int (holdsF 2 o)), .val (.int (holdsF 3 o)), .val (.int (holdsF 4 o)), .val (.int (holdsF 5 o))] []))
  refine EndsK.go (fun _ kz => XS.iconst X18.here hx rfl (hb hby at_109) kz) ?_
  show EndsK p e below _ (T18.setTop (mkF m 110 #[.val (.int o), .val (.int (holdsF 0 o)), .val (.int (holdsF 1 o)), .val (.int (holdsF 2 o)), .val (.int (holdsF 3 o)), .val (.int (holdsF 4 o)), .val (.int (holdsF 5 o))] [(.int (1 : Int32))]))
  refine EndsK.go (fun _ kz => XS.goto X18.here hx rfl (pc0 := 110) (pc' := 114) rfl (hb hby at_110) (by decide) (by decide) kz) ?_
  show EndsK p e below _ (T18.setTop (mkF m 114 #[.val (.int o), .val (.int (holdsF 0 o)), .val (.int (holdsF 1 o)), .val (.int (holdsF 2 o)), .val (.int (holdsF 3 o)), .val (.int (holdsF 4 o)), .val (.int (holdsF 5 o))] [(.int (1 : Int32))]))
  exact endN X18 hx (t := .boolean) Bd.returns (by simp) (hb hby at_114) hlk ⟨rfl, M18⟩ (by decide) (by decide)
set_option maxRecDepth 65536 in
set_option maxHeartbeats 40000000 in
theorem comes_1 {Post : Tables → Env → Array Value → State → Outcome → State → Prop} (hpost : ∀ tb e args s v u, (limb_1_1.after args s (.returned v) u = true ∧ limb_1_2.after args s (.returned v) u = true ∧ True) → FrameEnd s (.returned v) u (Jvm.fieldLocs frame_1_writes args s ++ Jvm.arrayLocs frame_1_arrays args s ++ Jvm.staticLocs frame_1_statics s) 0 0 → Post tb e args s (.returned v) u) :
    ArmFor flags0 classFile x code maxLocals ret World_1 tables_1 room_1 Calls_1 rest_1 Pre_1 Post := by
  intro l hfl _ _ p e ha hc hk s m args below hf hA hF happ hP
  obtain ⟨hcalls, hrest, hpre⟩ := hP
  obtain ⟨-, -, -, hnamed, -, -, -, hat⟩ := (Spec.applies_iff hf).mp happ
  obtain ⟨hg, hn⟩ := and_e (Cond.before_iff.mp (show (Jvm.Cond.and given_1 narrow_1).before args s = true from hpre))
  obtain ⟨hcount, hg⟩ := and_e hg
  obtain ⟨w0, rfl⟩ : ∃ w0 : Value, args = #[w0] := by
    have hs : args.size = 1 := by simpa [Cond.value, given_1] using hcount
    obtain ⟨L⟩ := args
    match L, hs with
    | [w0], _ => exact ⟨w0, rfl⟩
  have hw := fun d (hd : d ∈ tables_1) => atoms_spec (ws := Jvm.Cond.code x code maxLocals ret :: tables_1) hat d (List.mem_cons_of_mem _ hd)
  have hfit : Fit s := fun {y c} hc i hi => by
    obtain ⟨ha, rfl⟩ := Array.getElem?_eq_some_iff.mp hc
    have q := List.all_eq_true.mp ((Array.all_eq_true_iff_forall_mem.mp hF) _ (Array.getElem_mem ha)) i (List.mem_range.mpr hi)
    simpa [Array.getElem?_eq_getElem hi] using q
  obtain ⟨i0, ei0⟩ := is_v hg
  obtain rfl : w0 = (.int i0) := Option.some.inj ei0
  obtain ⟨q0, hn⟩ := and_e hn
  obtain ⟨q1, hn⟩ := and_e hn
  obtain ⟨q2, hn⟩ := and_e hn
  obtain ⟨q3, hn⟩ := and_e hn
  obtain ⟨q4, hn⟩ := and_e hn
  obtain ⟨q5, hn⟩ := and_e hn
  obtain ⟨q6, hn⟩ := and_e hn
  obtain ⟨q7, hn⟩ := and_e hn
  obtain ⟨q8, hn⟩ := and_e hn
  obtain ⟨q9, hn⟩ := and_e hn
  obtain ⟨q10, hn⟩ := and_e hn
  have q11 := hn
  obtain ⟨b0, v0⟩ := exa_v q0
  have E0 := Exa.start v0 q0
  have F0 := fldI v0 q1
  have S0 := Sta.start v0 (Or.inr ⟨(hw _ (List.mem_of_getElem? (i := 1) rfl)), (hw _ (List.mem_of_getElem? (i := 2) rfl))⟩)
  obtain ⟨b1, v1⟩ := exa_v q2
  have E1 := Exa.start v1 q2
  have F1 := fldI v1 q3
  have S1 := Sta.start v1 (Or.inr ⟨(hw _ (List.mem_of_getElem? (i := 1) rfl)), (hw _ (List.mem_of_getElem? (i := 18) rfl))⟩)
  obtain ⟨b2, v2⟩ := exa_v q4
  have E2 := Exa.start v2 q4
  have F2 := fldI v2 q5
  have S2 := Sta.start v2 (Or.inr ⟨(hw _ (List.mem_of_getElem? (i := 1) rfl)), (hw _ (List.mem_of_getElem? (i := 20) rfl))⟩)
  obtain ⟨b3, v3⟩ := exa_v q6
  have E3 := Exa.start v3 q6
  have F3 := fldI v3 q7
  have S3 := Sta.start v3 (Or.inr ⟨(hw _ (List.mem_of_getElem? (i := 1) rfl)), (hw _ (List.mem_of_getElem? (i := 22) rfl))⟩)
  obtain ⟨b4, v4⟩ := exa_v q8
  have E4 := Exa.start v4 q8
  have F4 := fldI v4 q9
  have S4 := Sta.start v4 (Or.inr ⟨(hw _ (List.mem_of_getElem? (i := 1) rfl)), (hw _ (List.mem_of_getElem? (i := 24) rfl))⟩)
  obtain ⟨b5, v5⟩ := exa_v q10
  have E5 := Exa.start v5 q10
  have F5 := fldI v5 q11
  have S5 := Sta.start v5 (Or.inr ⟨(hw _ (List.mem_of_getElem? (i := 1) rfl)), (hw _ (List.mem_of_getElem? (i := 26) rfl))⟩)
  obtain ⟨n, o, h1, h2, h3, _, L, rfl, ⟨rfl, N⟩, hq⟩ := rm_law l s _ hw tables_1 i0 b0 b1 b2 b3 b4 b5 s.heap s.heap.size (Nat.le_refl _) S0 F0 E0 S1 F1 E1 S2 F2 E2 S3 F3 E3 S4 F4 E4 S5 F5 E5 p e ha hc hk s m _ below hf ((Spec.applies_iff_loose hf).mp happ).1 ⟨rfl, State.Warmed39.refl s, rfl⟩ trivial
  refine ⟨n, _, h1, h2, h3, hpost _ _ _ _ _ _ ⟨Cond.after_iff.mpr rfl, Cond.after_iff.mpr (eq_i res_at (Term.int_eval (1)) rfl), trivial⟩ ⟨hq.1, hq.2.1, (hq.2.2.sift fun y hy => Or.inr (N y hy)).mono (by decide) (by decide)⟩⟩
theorem main_1_1 : Claimed_1_1 := comes_1 fun _ _ _ _ _ _ h hF => ⟨h.1, hF⟩
theorem main_1_2 : Claimed_1_2 := comes_1 fun _ _ _ _ _ _ h hF => ⟨h.2.1, hF⟩
end Jvm.Pilot.@@N@@
namespace Jvm.Pilot.@@N@@
open Jvm Jvm.ClassFile Sem Op Lib Jvm.Free Jvm.Stand Jvm.Pilot.@@N@@.Jvm.D
/-! MADE BY PROGRAM (witnessworld.py) out of the Statement's table words and the real class files: 12 classes; the members and pool entries that the words name. The judged class is class 1, her method 2. -/
namespace start1
open Jvm.ClassFile
def u (s : String) : CpInfo := .utf8 (stringToUtf16 s)
/-- a pool by its gaps: so many unusable entries, then the entry; so many at the end -/
def gap : Nat → List CpInfo → List CpInfo
  | 0, r => r
  | n + 1, r => .unusable :: gap n r
def poolList (es : List (Nat × CpInfo)) (last : Nat) : List CpInfo := es.foldr (fun e r => gap e.1 (e.2 :: r)) (gap last [])
def pool (es : List (Nat × CpInfo)) (last : Nat) : Array CpInfo := ⟨poolList es last⟩
def fileOf (pool : Array CpInfo) (this : Nat) (attrs : Array Attribute := #[]) (ms : Array MethodInfo := #[]) (fl : Nat := 33) (sup : Nat := 0) (ifs : Array Nat := #[]) (fds : Array FieldInfo := #[]) : ClassFile where
  minorVersion := 0
  majorVersion := 65
  constantPool := pool
  accessFlags := fl
  thisClass := this
  superClass := sup
  interfaces := ifs
  fields := fds
  methods := ms
  attributes := attrs
def plain (name : String) (sup : Option ClassId) : Class where
  name := name
  kind := .ordinary
  loader := none
  accessFlags := 33
  super := sup
  interfaces := #[]
  cf := none
  fields := #[]
  methods := #[]
  instanceTypes := #[]
  staticTypes := #[]
  resolved := #[]
  callSites := []
  init := .initialized
  statics := none
  mirror := none

def pool0 : Array CpInfo := pool [(5, u "<init>"), (0, u "()V"), (1, .class_ 10), (1, u "java/lang/Object")] 113

def k0m0 : Method := { name := "<init>", desc := "()V", sig := { parameters := [], returnType := none }, accessFlags := 1, code := none }
/-- java/lang/Object -/
def k0 : Class := { plain "java/lang/Object" none with
  accessFlags := 33
  interfaces := #[]
  cf := some (fileOf pool0 8 #[] #[{ accessFlags := 1, nameIndex := 5, descriptorIndex := 6, attributes := #[] }] 33 0 #[] #[])
  fields := #[]
  methods := #[k0m0]
  instanceTypes := #[]
  staticTypes := #[]
  resolved := Array.replicate 124 none
  statics := none }

def pool1 : Array CpInfo := pool [(2, .class_ 4), (1, u "java/lang/Object"), (0, u "<init>"), (0, u "()V"), (0, .fieldref 8 9), (0, .class_ 10), (0, .nameAndType 11 12), (0, u "com/example/windrow/windrow/Condition$Comparison"), (0, u "EQUAL"), (0, u "Lcom/example/windrow/windrow/Condition$Comparison;"), (0, .methodref 8 14), (0, .nameAndType 15 16), (0, u "holds"), (0, u "(I)Z"), (0, .fieldref 8 18), (0, .nameAndType 19 12), (0, u "NOT_EQUAL"), (0, .fieldref 8 21), (0, .nameAndType 22 12), (0, u "LESS"), (0, .fieldref 8 24), (0, .nameAndType 25 12), (0, u "LESS_OR_EQUAL"), (0, .fieldref 8 27), (0, .nameAndType 28 12), (0, u "GREATER"), (0, .fieldref 8 30), (0, .nameAndType 31 12), (0, u "GREATER_OR_EQUAL"), (0, .methodref 33 34), (0, .class_ 35), (0, .nameAndType 36 37), (0, u "com/example/windrow/windrow/ComparisonHoldsPinLaw"), (0, u "accepted"), (0, u "(II)Z"), (3, u "law")] 6

def k1m0 : Method := { name := "<init>", desc := "()V", sig := { parameters := [], returnType := none }, accessFlags := 2, code := none }
def k1c1 : Code := { maxStack := 2, maxLocals := 3, code := method_2_code, exceptionTable := #[], attributes := #[] }
def k1m1 : Method := { name := "accepted", desc := "(II)Z", sig := { parameters := [.int, .int], returnType := some .boolean }, accessFlags := 10, code := some k1c1 }
def k1c2 : Code := { maxStack := 3, maxLocals := 7, code := code, exceptionTable := #[], attributes := #[] }
def k1m2 : Method := { name := "law", desc := "(I)Z", sig := { parameters := [.int], returnType := some .boolean }, accessFlags := 9, code := some k1c2 }
/-- com/example/windrow/windrow/ComparisonHoldsPinLaw -/
def k1 : Class := { plain "com/example/windrow/windrow/ComparisonHoldsPinLaw" (some 0) with
  accessFlags := 49
  interfaces := #[]
  cf := some (fileOf pool1 33 #[] #[{ accessFlags := 2, nameIndex := 5, descriptorIndex := 6, attributes := #[] }, { accessFlags := 10, nameIndex := 36, descriptorIndex := 37, attributes := #[] }, { accessFlags := 9, nameIndex := 41, descriptorIndex := 16, attributes := #[] }] 49 2 #[] #[])
  fields := #[]
  methods := #[k1m0, k1m1, k1m2]
  instanceTypes := #[]
  staticTypes := #[]
  resolved := Array.replicate 48 none
  statics := none }

def pool2 : Array CpInfo := pool [(1, .class_ 2), (0, u "java/lang/constant/Constable"), (0, .class_ 4), (0, u "java/lang/Object")] 6

/-- java/lang/constant/Constable -/
def k2 : Class := { plain "java/lang/constant/Constable" (some 0) with
  accessFlags := 1537
  interfaces := #[]
  cf := some (fileOf pool2 1 #[] #[] 1537 3 #[] #[])
  fields := #[]
  methods := #[]
  instanceTypes := #[]
  staticTypes := #[]
  resolved := Array.replicate 11 none
  statics := none }

def pool3 : Array CpInfo := pool [(1, .class_ 2), (0, u "java/lang/Comparable"), (0, .class_ 4), (0, u "java/lang/Object")] 7

/-- java/lang/Comparable -/
def k3 : Class := { plain "java/lang/Comparable" (some 0) with
  accessFlags := 1537
  interfaces := #[]
  cf := some (fileOf pool3 1 #[] #[] 1537 3 #[] #[])
  fields := #[]
  methods := #[]
  instanceTypes := #[]
  staticTypes := #[]
  resolved := Array.replicate 12 none
  statics := none }

def pool4 : Array CpInfo := pool [(1, .class_ 2), (0, u "java/io/Serializable"), (0, .class_ 4), (0, u "java/lang/Object")] 2

/-- java/io/Serializable -/
def k4 : Class := { plain "java/io/Serializable" (some 0) with
  accessFlags := 1537
  interfaces := #[]
  cf := some (fileOf pool4 1 #[] #[] 1537 3 #[] #[])
  fields := #[]
  methods := #[]
  instanceTypes := #[]
  staticTypes := #[]
  resolved := Array.replicate 7 none
  statics := none }

def pool5 : Array CpInfo := pool [(2, .class_ 4), (1, u "java/lang/Enum"), (0, u "name"), (0, u "Ljava/lang/String;"), (0, .fieldref 2 8), (0, .nameAndType 9 10), (0, u "ordinal"), (0, u "I"), (1, .class_ 14), (1, u "java/lang/Object"), (4, u "hash"), (86, .class_ 108), (1, u "java/lang/Enum$EnumDesc"), (2, .class_ 112), (0, u "java/lang/constant/Constable"), (0, .class_ 114), (0, u "java/lang/Comparable"), (0, .class_ 116), (0, u "java/io/Serializable"), (9, u "()I")] 77

def k5c0 : Code := { maxStack := 1, maxLocals := 1, code := jdk_37_method_2_code, exceptionTable := #[], attributes := #[] }
def k5m0 : Method := { name := "ordinal", desc := "()I", sig := { parameters := [], returnType := some .int }, accessFlags := 17, code := some k5c0 }
/-- java/lang/Enum -/
def k5 : Class := { plain "java/lang/Enum" (some 0) with
  accessFlags := 1057
  interfaces := #[2, 3, 4]
  cf := some (fileOf pool5 2 #[.nestMembers #[106]] #[{ accessFlags := 17, nameIndex := 9, descriptorIndex := 126, attributes := #[] }] 1057 12 #[111, 113, 115] #[{ accessFlags := 18, nameIndex := 5, descriptorIndex := 6, attributes := #[] }, { accessFlags := 18, nameIndex := 9, descriptorIndex := 10, attributes := #[] }, { accessFlags := 2, nameIndex := 19, descriptorIndex := 10, attributes := #[] }])
  fields := #[{ name := "name", type := (.object "java/lang/String"), accessFlags := 18, slot := 0, constantValue := 0 }, { name := "ordinal", type := .int, accessFlags := 18, slot := 1, constantValue := 0 }, { name := "hash", type := .int, accessFlags := 2, slot := 2, constantValue := 0 }]
  methods := #[k5m0]
  instanceTypes := #[(.object "java/lang/String"), .int, .int]
  staticTypes := #[]
  resolved := Array.replicate 204 none
  statics := none }

def pool6 : Array CpInfo := pool [(1, .class_ 2), (0, u "com/example/windrow/windrow/Condition$Comparison"), (2, u "EQUAL"), (0, u "Lcom/example/windrow/windrow/Condition$Comparison;"), (2, u "NOT_EQUAL"), (2, u "LESS"), (2, u "LESS_OR_EQUAL"), (2, u "GREATER"), (2, u "GREATER_OR_EQUAL"), (2, u "$VALUES"), (0, u "[Lcom/example/windrow/windrow/Condition$Comparison;"), (6, .class_ 34), (1, u "java/lang/Enum"), (8, u "symbol"), (0, u "Ljava/lang/String;"), (10, .methodref 1 56), (0, .nameAndType 57 58), (0, u "ordinal"), (0, u "()I"), (37, u "holds"), (0, u "(I)Z"), (6, .class_ 105), (0, u "com/example/windrow/windrow/Condition")] 2

def k6c0 : Code := { maxStack := 4, maxLocals := 2, code := prog_20_method_5_code, exceptionTable := #[], attributes := #[] }
def k6m0 : Method := { name := "holds", desc := "(I)Z", sig := { parameters := [.int], returnType := some .boolean }, accessFlags := 0, code := some k6c0 }
/-- com/example/windrow/windrow/Condition$Comparison -/
def k6 : Class := { plain "com/example/windrow/windrow/Condition$Comparison" (some 5) with
  accessFlags := 16433
  interfaces := #[]
  cf := some (fileOf pool6 1 #[.nestHost 104] #[{ accessFlags := 0, nameIndex := 96, descriptorIndex := 97, attributes := #[] }] 16433 32 #[] #[{ accessFlags := 16409, nameIndex := 5, descriptorIndex := 6, attributes := #[] }, { accessFlags := 16409, nameIndex := 9, descriptorIndex := 6, attributes := #[] }, { accessFlags := 16409, nameIndex := 12, descriptorIndex := 6, attributes := #[] }, { accessFlags := 16409, nameIndex := 15, descriptorIndex := 6, attributes := #[] }, { accessFlags := 16409, nameIndex := 18, descriptorIndex := 6, attributes := #[] }, { accessFlags := 16409, nameIndex := 21, descriptorIndex := 6, attributes := #[] }, { accessFlags := 16, nameIndex := 43, descriptorIndex := 44, attributes := #[] }, { accessFlags := 4122, nameIndex := 24, descriptorIndex := 25, attributes := #[] }])
  fields := #[{ name := "EQUAL", type := (.object "com/example/windrow/windrow/Condition$Comparison"), accessFlags := 16409, slot := 0, constantValue := 0 }, { name := "NOT_EQUAL", type := (.object "com/example/windrow/windrow/Condition$Comparison"), accessFlags := 16409, slot := 1, constantValue := 0 }, { name := "LESS", type := (.object "com/example/windrow/windrow/Condition$Comparison"), accessFlags := 16409, slot := 2, constantValue := 0 }, { name := "LESS_OR_EQUAL", type := (.object "com/example/windrow/windrow/Condition$Comparison"), accessFlags := 16409, slot := 3, constantValue := 0 }, { name := "GREATER", type := (.object "com/example/windrow/windrow/Condition$Comparison"), accessFlags := 16409, slot := 4, constantValue := 0 }, { name := "GREATER_OR_EQUAL", type := (.object "com/example/windrow/windrow/Condition$Comparison"), accessFlags := 16409, slot := 5, constantValue := 0 }, { name := "symbol", type := (.object "java/lang/String"), accessFlags := 16, slot := 3, constantValue := 0 }, { name := "$VALUES", type := (.array (.object "com/example/windrow/windrow/Condition$Comparison")), accessFlags := 4122, slot := 6, constantValue := 0 }]
  methods := #[k6m0]
  instanceTypes := #[(.object "java/lang/String"), .int, .int, (.object "java/lang/String")]
  staticTypes := #[(.object "com/example/windrow/windrow/Condition$Comparison"), (.object "com/example/windrow/windrow/Condition$Comparison"), (.object "com/example/windrow/windrow/Condition$Comparison"), (.object "com/example/windrow/windrow/Condition$Comparison"), (.object "com/example/windrow/windrow/Condition$Comparison"), (.object "com/example/windrow/windrow/Condition$Comparison"), (.array (.object "com/example/windrow/windrow/Condition$Comparison"))]
  resolved := Array.replicate 108 none
  statics := some 0 }

def pool7 : Array CpInfo := pool [(1, u "java/lang/Cloneable"), (0, .class_ 1), (0, u "java/lang/Object"), (0, .class_ 3)] 3

/-- java/lang/Cloneable -/
def k7 : Class := { plain "java/lang/Cloneable" (some 0) with
  accessFlags := 1537
  interfaces := #[]
  cf := some (fileOf pool7 2 #[] #[] 1537 4 #[] #[])
  fields := #[]
  methods := #[]
  instanceTypes := #[]
  staticTypes := #[]
  resolved := Array.replicate 8 none
  statics := none }

/-- the primitive byte -/
def k8 : Class := { plain "byte" none with kind := .primitive 'B', accessFlags := 0x411 }
/-- [B -/
def k9 : Class := { plain "[B" (some 0) with kind := .array 8 .byte, interfaces := #[7, 4], accessFlags := 1041 }

/-- the primitive int -/
def k10 : Class := { plain "int" none with kind := .primitive 'I', accessFlags := 0x411 }
/-- [I -/
def k11 : Class := { plain "[I" (some 0) with kind := .array 10 .int, interfaces := #[7, 4], accessFlags := 1041 }

def heap : Heap := #[{ cls := 6, slots := #[.ref 1, .ref 2, .ref 3, .ref 4, .ref 5, .ref 6, .null], vm := .statics 6 },
  { cls := 6, slots := #[.null, .int 0, .int 0, .null], vm := .none },
  { cls := 6, slots := #[.null, .int 1, .int 0, .null], vm := .none },
  { cls := 6, slots := #[.null, .int 2, .int 0, .null], vm := .none },
  { cls := 6, slots := #[.null, .int 3, .int 0, .null], vm := .none },
  { cls := 6, slots := #[.null, .int 4, .int 0, .null], vm := .none },
  { cls := 6, slots := #[.null, .int 5, .int 0, .null], vm := .none }]
def classes : Array Class := #[k0, k1, k2, k3, k4, k5, k6, k7, k8, k9, k10, k11]
def interned : List (Array UInt16 × Addr) := []
def slotsUsed : Nat := 31
def theMethod : MethodId := ⟨1, 2⟩
def args0 : Array Value := #[.int 5]
def aboutOver (below : List Frame) : State where
  vm := { classes := classes, interned := interned.toArray }
  heap := heap
  slotsUsed := slotsUsed
  threads := #[{ frames := .invoking theMethod args0 :: below }]
def below0 : List Frame := [.native { method := ⟨0, 0⟩, args := #[] }]
def about1 : State := aboutOver below0
def p0 : Program := .bare "" "" ""
def e0 : Env := launch0.env 0 0 0
theorem w_frames : about1.frames = Frame.invoking theMethod args0 :: below0 := rfl
set_option maxRecDepth 65536 in
theorem w_args : argsFit about1.vm theMethod args0 = true := by decide +kernel
set_option maxRecDepth 65536 in
theorem w_heap : heapFits about1 = true := by decide +kernel
set_option maxRecDepth 65536 in
theorem w_runnable : about1.curStatus? = some .runnable := by decide +kernel
set_option maxRecDepth 65536 in
theorem w_alone : about1.alone = true := by decide +kernel
set_option maxRecDepth 65536 in
theorem w_named : about1.methodNamed? x = some theMethod := by decide +kernel
set_option maxRecDepth 65536 in
theorem w_hears : about1.hears theMethod below0 = true := by decide +kernel
set_option maxRecDepth 65536 in
theorem w_ripe : about1.ripe theMethod args0 below0 = true := by decide +kernel
theorem w_running : about1.status = .running := rfl
set_option maxRecDepth 65536 in
theorem w_room : about1.hasRoom e0.platform room_1 = true :=
  launch0.hasRoom_least _ room_1 (by decide +kernel) (by decide +kernel) (by decide +kernel) (by decide +kernel) (by decide +kernel) (by decide +kernel)
theorem allAtoms_all (ts : List Jvm.Cond) (a : Array Jvm.Value) (st : Jvm.State) : (allAtoms ts).before a st = ts.all (fun c => c.before a st) := by
  induction ts with
  | nil => rfl
  | cons c t ih =>
    show (Jvm.Cond.and c (allAtoms t)).before a st = _
    rw [Jvm.Cond.before_and, ih, List.all_cons]
def words1 : List Jvm.Cond := Jvm.Cond.code x code maxLocals ret :: tables_1
/-- a 'code' word, met by the world's own term for the bytes: nothing is compared byte by byte -/
theorem code_word {y : MethodName} {bytes : ByteArray} {mx : Nat} {rt : Option FieldType} {a : Array Value} {s : State} {m : MethodId} {meth : Method} {c : Code} (h1 : s.methodNamed? y = some m) (h2 : s.vm.method? m = some meth) (h3 : meth.code = some c) (h4 : c.code = bytes)
    (h5 : (c.maxLocals == mx && c.exceptionTable.isEmpty && decide (c.maxStack ≤ mostOperands) && decide (meth.sig.returnType = rt) && !meth.locks && decide (parseMethodDescriptor y.desc = some meth.sig)) = true) : (Jvm.Cond.code y bytes mx rt).before a s = true := by
  simp only [Bool.and_eq_true, beq_iff_eq, Bool.not_eq_true', decide_eq_true_eq] at h5
  obtain ⟨⟨⟨⟨⟨g1, g2⟩, g3⟩, g4⟩, g5⟩, g6⟩ := h5
  simp [Cond.before, Cond.holds, Cond.value, h1, h2, h3, h4, g1, g2, g3, g4, g5, g6]
def isCode : Jvm.Cond → Bool
  | .code _ _ _ _ => true
  | _ => false
theorem all_split {L : List Jvm.Cond} {P : Jvm.Cond → Bool} (h1 : L.all (fun c => isCode c || P c) = true) (h2 : ∀ c ∈ L.filter isCode, P c = true) : L.all P = true := by
  refine List.all_eq_true.mpr fun c hc => ?_
  have h := List.all_eq_true.mp h1 c hc
  rcases Bool.eq_false_or_eq_true (isCode c) with hi | hi
  · exact h2 c (List.mem_filter.mpr ⟨hc, hi⟩)
  · simpa [hi] using h
set_option maxRecDepth 65536 in
theorem w_c0 : (Jvm.Cond.code x code maxLocals ret).before args0 about1 = true := code_word (m := ⟨1, 2⟩) (meth := k1m2) (c := k1c2) (by decide +kernel) rfl rfl rfl (by decide +kernel)
set_option maxRecDepth 65536 in
theorem w_c1 : (Jvm.Cond.code ({ cls := "com/example/windrow/windrow/Condition$Comparison", name := "holds", desc := "(I)Z" } : Jvm.MethodName) prog_20_method_5_code (2 : Nat) (Option.some Jvm.ClassFile.FieldType.boolean)).before args0 about1 = true := code_word (m := ⟨6, 0⟩) (meth := k6m0) (c := k6c0) (by decide +kernel) rfl rfl rfl (by decide +kernel)
set_option maxRecDepth 65536 in
theorem w_c2 : (Jvm.Cond.code ({ cls := "java/lang/Enum", name := "ordinal", desc := "()I" } : Jvm.MethodName) jdk_37_method_2_code (1 : Nat) (Option.some Jvm.ClassFile.FieldType.int)).before args0 about1 = true := code_word (m := ⟨5, 0⟩) (meth := k5m0) (c := k5c0) (by decide +kernel) rfl rfl rfl (by decide +kernel)
set_option maxRecDepth 65536 in
theorem w_c3 : (Jvm.Cond.code ({ cls := "com/example/windrow/windrow/ComparisonHoldsPinLaw", name := "accepted", desc := "(II)Z" } : Jvm.MethodName) method_2_code (3 : Nat) (Option.some Jvm.ClassFile.FieldType.boolean)).before args0 about1 = true := code_word (m := ⟨1, 1⟩) (meth := k1m1) (c := k1c1) (by decide +kernel) rfl rfl rfl (by decide +kernel)
def codes1 : List Jvm.Cond := [Jvm.Cond.code x code maxLocals ret, Jvm.Cond.code ({ cls := "com/example/windrow/windrow/Condition$Comparison", name := "holds", desc := "(I)Z" } : Jvm.MethodName) prog_20_method_5_code (2 : Nat) (Option.some Jvm.ClassFile.FieldType.boolean), Jvm.Cond.code ({ cls := "java/lang/Enum", name := "ordinal", desc := "()I" } : Jvm.MethodName) jdk_37_method_2_code (1 : Nat) (Option.some Jvm.ClassFile.FieldType.int), Jvm.Cond.code ({ cls := "com/example/windrow/windrow/ComparisonHoldsPinLaw", name := "accepted", desc := "(II)Z" } : Jvm.MethodName) method_2_code (3 : Nat) (Option.some Jvm.ClassFile.FieldType.boolean)]
set_option maxRecDepth 65536 in
theorem codes_eq : words1.filter isCode = codes1 := rfl
theorem w_codes : ∀ c ∈ words1.filter isCode, c.before args0 about1 = true := by
  rw [codes_eq]
  intro c hc
  simp only [codes1, List.mem_cons, List.not_mem_nil, or_false] at hc
  rcases hc with rfl | rfl | rfl | rfl
  · exact w_c0
  · exact w_c1
  · exact w_c2
  · exact w_c3
set_option maxRecDepth 65536 in
theorem w_t1 : (words1.take 24).all (fun c => isCode c || c.before args0 about1) = true := by decide +kernel
set_option maxRecDepth 65536 in
theorem w_t2 : (words1.drop 24).all (fun c => isCode c || c.before args0 about1) = true := by decide +kernel
theorem w_tables : (allAtoms (Jvm.Cond.code x code maxLocals ret :: tables_1)).before args0 about1 = true := by
  rw [allAtoms_all]
  show words1.all (fun c => c.before args0 about1) = true
  refine all_split ?_ w_codes
  rw [← List.take_append_drop 24 words1, List.all_append, w_t1, w_t2]
  rfl
set_option maxRecDepth 65536 in
theorem w_case : (Jvm.Cond.and given_1 narrow_1).before args0 about1 = true := by decide +kernel
theorem w_applies : (headSpec (Jvm.Cond.code x code maxLocals ret :: tables_1) room_1).applies x e0.platform about1 = true :=
  (Spec.applies_iff w_frames).mpr ⟨w_running, w_runnable, w_alone, w_named, w_hears, w_ripe, w_room, w_tables⟩
theorem atStart : AtStart classFile x code maxLocals ret World_1 tables_1 room_1 Calls_1 rest_1 Pre_1 launch0 p0 e0 about1 theMethod args0 below0 :=
  ⟨lists_1, trivial, launch0.admits_env _ _ _, launch0.least_env, fairChoices_fair.cas, fairChoices_fair.clock, w_frames, w_args, w_heap, w_applies, trivial, trivial, w_case⟩
end start1
theorem witness_1 : WitnessClaimed_1 := ⟨start1.p0, start1.e0, start1.about1, start1.theMethod, start1.args0, start1.below0, start1.atStart⟩
end Jvm.Pilot.@@N@@
