import JvmDerived
import JvmDerived.Pilot.@@N@@Statement
import JvmDerived.Pilot.@@N@@Code
set_option linter.unusedVariables false
set_option linter.unusedSimpArgs false
namespace Jvm.OwnK
open Sem ClassFile Op Lib Jvm.Stand Jvm.Free Jvm.LawKit Jvm.RoadKit
/-- the run from S ends, and well -/
def EndsK (p : Program) (e : Env) (below : List Frame) (QQ : Outcome → State → Prop) (S : State) : Prop :=
  ∃ s₂ o, Steps p.tables e below S s₂ ∧ s₂.status = .running ∧ Ended s₂ below o ∧ QQ o s₂
/-- what a body's contract says of its end -/
abbrev OQ (s : State) (Q : Option Value → Heap → List Loc → Prop) (ck cs : Nat) : Outcome → State → Prop :=
  fun o U' => ∃ v L, o = .returned v ∧ Q v U'.heap L ∧ FrameEnd s o U' L ck cs
section EndsK
variable {p : Program} {e : Env} {below : List Frame} {QQ : Outcome → State → Prop} {S S' T : State}
theorem EndsK.go (h : ∀ t, Steps p.tables e below S' t → Steps p.tables e below S t) (k : EndsK p e below QQ S') : EndsK p e below QQ S := by
  obtain ⟨s₂, o, h1, h2⟩ := k
  exact ⟨s₂, o, h _ h1, h2⟩
theorem EndsK.tr (h : Steps p.tables e below S S') (k : EndsK p e below QQ S') : EndsK p e below QQ S := by
  obtain ⟨s₂, o, h1, h2⟩ := k
  exact ⟨s₂, o, h.trans h1, h2⟩
theorem EndsK.start {g g' : JFrame} (q : g = g') (k : EndsK p e below QQ (T.setTop g')) : EndsK p e below QQ (T.setTop g) := q ▸ k
end EndsK
section Leave
variable {p : Program} {l : Launch} {e : Env} {R : Room} {s : State} {m : MethodId} {args : Array Value} {below : List Frame} {meth : Method} {c : Code} {T : State} {locs : List Loc} {cells slots : Nat} {Q : Option Value → Heap → List Loc → Prop} {ck cs pc : Nat} {Ls : Array Slot} {rest : List Value}
theorem endI (X : Stand p l e R s m args below meth c T locs cells slots) (hx : p.tables.exec = Jvm.exec) {z : Int32} (hret : meth.sig.returnType = some .int) (hd : decode c.code pc = .ok (.ireturn, 1)) (hlk : meth.locks = false)
    (hq : Q (some (.int z)) T.heap locs) (hc : cells ≤ ck) (hs : slots ≤ cs) : EndsK p e below (OQ s Q ck cs) (T.setTop (mkF m pc Ls (.int z :: rest))) := by
  obtain ⟨fs, hr, hrun, hended, hW, hsame⟩ := X.leave (v := some (.int z)) (fun h => by rw [hret] at h; cases h) hlk
  refine ⟨_, _, retOut X hx hret rfl (Or.inl ⟨rfl, Or.inl rfl, _, rfl⟩) hd hr, hrun, hended, _, _, rfl, hq, ⟨_, rfl⟩, hW, hsame.mono hc hs⟩
theorem endN (X : Stand p l e R s m args below meth c T locs cells slots) (hx : p.tables.exec = Jvm.exec) {z : Int32} {t : FieldType} (hret : meth.sig.returnType = some t) (ht : t = .boolean ∨ t = .byte ∨ t = .char ∨ t = .short) (hd : decode c.code pc = .ok (.ireturn, 1)) (hlk : meth.locks = false)
    (hq : Q (some (.int (nar t z))) T.heap locs) (hc : cells ≤ ck) (hs : slots ≤ cs) : EndsK p e below (OQ s Q ck cs) (T.setTop (mkF m pc Ls (.int z :: rest))) := by
  obtain ⟨fs, hr, hrun, hended, hW, hsame⟩ := X.leave (v := some (.int (nar t z))) (fun h => by rw [hret] at h; cases h) hlk
  exact ⟨_, _, retN X hx hret ht hd hr, hrun, hended, _, _, rfl, hq, ⟨_, rfl⟩, hW, hsame.mono hc hs⟩
theorem endJ (X : Stand p l e R s m args below meth c T locs cells slots) (hx : p.tables.exec = Jvm.exec) {z : Int64} (hret : meth.sig.returnType = some .long) (hd : decode c.code pc = .ok (.lreturn, 1)) (hlk : meth.locks = false)
    (hq : Q (some (.long z)) T.heap locs) (hc : cells ≤ ck) (hs : slots ≤ cs) : EndsK p e below (OQ s Q ck cs) (T.setTop (mkF m pc Ls (.long z :: rest))) := by
  obtain ⟨fs, hr, hrun, hended, hW, hsame⟩ := X.leave (v := some (.long z)) (fun h => by rw [hret] at h; cases h) hlk
  exact ⟨_, _, retOut X hx hret rfl (Or.inr (Or.inl ⟨rfl, rfl, _, rfl⟩)) hd hr, hrun, hended, _, _, rfl, hq, ⟨_, rfl⟩, hW, hsame.mono hc hs⟩
theorem endR (X : Stand p l e R s m args below meth c T locs cells slots) (hx : p.tables.exec = Jvm.exec) {w : Value} {t : FieldType} (hret : meth.sig.returnType = some t) (ht : t.isReference = true) (hw : w.isRef = true) (hd : decode c.code pc = .ok (.areturn, 1)) (hlk : meth.locks = false)
    (hq : Q (some w) T.heap locs) (hc : cells ≤ ck) (hs : slots ≤ cs) : EndsK p e below (OQ s Q ck cs) (T.setTop (mkF m pc Ls (w :: rest))) := by
  obtain ⟨fs, hr, hrun, hended, hW, hsame⟩ := X.leave (v := some w) (fun h => by rw [hret] at h; cases h) hlk
  have hn : narrow t w = w := by cases t <;> first | (cases ht; done) | (cases w <;> first | rfl | (cases hw; done))
  exact ⟨_, _, retOut X hx hret hn (Or.inr (Or.inr (Or.inr (Or.inr ⟨rfl, ht, hw⟩)))) hd hr, hrun, hended, _, _, rfl, hq, ⟨_, rfl⟩, hW, hsame.mono hc hs⟩
theorem endV (X : Stand p l e R s m args below meth c T locs cells slots) (hx : p.tables.exec = Jvm.exec) (hret : meth.sig.returnType = none) (hd : decode c.code pc = .ok (.return_, 1)) (hlk : meth.locks = false)
    (hq : Q none T.heap locs) (hc : cells ≤ ck) (hs : slots ≤ cs) : EndsK p e below (OQ s Q ck cs) (T.setTop (mkF m pc Ls [])) := by
  obtain ⟨fs, hr, hrun, hended, hW, hsame⟩ := X.leave (v := none) (fun _ => rfl) hlk
  exact ⟨_, _, X.returnOut hx hret hd hr, hrun, hended, _, _, rfl, hq, ⟨_, rfl⟩, hW, hsame.mono hc hs⟩
end Leave
section Heaps
variable {h0 h h' : Heap} {a : Addr} {sl : Nat} {v : Value}
theorem ext_refl (h : Heap) : Ext h h := ⟨Nat.le_refl _, fun _ _ q => q⟩
theorem ext_trans (E : Ext h0 h) (E' : Ext h h') : Ext h0 h' := ⟨Nat.le_trans E.1 E'.1, fun x c q => E'.2 x c (E.2 x c q)⟩
theorem ext_wr (E : Ext h0 h) (W : Wr h h' a sl v) (q : h0.size ≤ a) : Ext h0 h' := by
  refine ⟨Nat.le_trans E.1 (Nat.le_of_eq W.size.symm), fun x c r => ?_⟩
  obtain ⟨c', e1, -, -, -, e5, -⟩ := wr_at W (E.2 x c r)
  rw [e1, e5 (fun z => by
    subst z
    exact absurd (Array.getElem?_eq_some_iff.mp r).1 (Nat.not_lt.mpr q))]
end Heaps
section Words
variable {Z : State} {args : Array Value} {t u : Term} {a b : Addr} {C n d O : String} {v : Value}
theorem fldI {k : Int32} (ev : t.eval args Z none [] Z = some (.ref a)) (h : (Cond.eq (.field t O n d) (.int k)).value args Z none Z [] = some true) : Fld Z Z.heap a O n d (.int k) := by
  obtain ⟨x, y, e1, e2, -, k2⟩ := cmp_v (Or.inl h)
  cases e2
  obtain ⟨z, rfl⟩ := k2
  have e3 := (fld_at (C := O) (n := n) (dd := d) ev).symm.trans e1
  have q := gotT (Cond.eq_ints e1 rfl) h
  subst q
  exact Fld.start e3
theorem fldR (ev : t.eval args Z none [] Z = some (.ref a)) (eu : u.eval args Z none [] Z = some (.ref b)) (h : (Cond.eq (.field t O n d) u).value args Z none Z [] = some true) : Fld Z Z.heap a O n d (.ref b) := by
  obtain ⟨x, y, e1, e2, -, k2⟩ := cmp_v (Or.inl h)
  cases eu.symm.trans e2
  have e3 := (fld_at (C := O) (n := n) (dd := d) ev).symm.trans e1
  have q := gotT (eq_R e1 eu k2.2 rfl) h
  subst q
  exact Fld.start e3
theorem fldN (ev : t.eval args Z none [] Z = some (.ref a)) (h : (Cond.eq (.field t O n d) .null).value args Z none Z [] = some true) : Fld Z Z.heap a O n d .null :=
  Fld.start ((fld_at (C := O) (n := n) (dd := d) ev).symm.trans (null_v h))
/-- an int[] of the start: its length and what it holds, as the case says -/
theorem arrLen {k : Int32} {cl : Cell} {ty : FieldType} (ev : t.eval args Z none [] Z = some (.ref a)) (A : Arr Z Z.heap a cl ty) (h : (Cond.eq (.length t) (.int k)).value args Z none Z [] = some true) : cl.slots.size < 2 ^ 31 ∧ cl.slots.size.toInt32 = k := by
  obtain ⟨x, y, e1, e2, -, k2⟩ := cmp_v (Or.inl h)
  cases e2
  obtain ⟨z, rfl⟩ := k2
  have q := gotT (Cond.eq_ints e1 rfl) h
  subst q
  have ha := A.fin (Vm.Alike.refl _)
  simp only [Term.eval, ev, ha, Option.bind_eq_bind, Option.bind_some] at e1
  split at e1
  · rename_i hlt; exact ⟨hlt, by simpa using e1⟩
  · cases e1
theorem arrAt {j k : Int32} {cl : Cell} {ty : FieldType} (ev : t.eval args Z none [] Z = some (.ref a)) (A : Arr Z Z.heap a cl ty) (h : (Cond.eq (.elem t (.int j)) (.int k)).value args Z none Z [] = some true) : ¬ (j < 0 ∨ cl.slots.size ≤ j.toNatClampNeg) ∧ cl.slots[j.toNatClampNeg]? = some (.int k) := by
  obtain ⟨x, y, e1, e2, -, k2⟩ := cmp_v (Or.inl h)
  cases e2
  obtain ⟨z, rfl⟩ := k2
  have q := gotT (Cond.eq_ints e1 rfl) h
  subst q
  exact elem_in e1 ev rfl A.1
end Words
end Jvm.OwnK
namespace Jvm.Pilot.@@N@@
open Jvm Jvm.ClassFile Sem Op Lib Jvm.Free Jvm.Stand Jvm.LawKit Jvm.RoadKit Jvm.OwnK Bundle Jvm.Pilot.@@N@@.Jvm.D
theorem ext_keep {hB h0 h : Heap} {ws : List Addr} (E : Ext hB h0) (K : Keep h0 h ws) (q : ∀ x ∈ ws, hB.size ≤ x) : Ext hB h :=
  ⟨Nat.le_trans E.1 K.1, fun x c r => K.2.1 x c (E.2 x c r) fun z => absurd (Array.getElem?_eq_some_iff.mp r).1 (Nat.not_lt.mpr (q x z))⟩
theorem ns_root {Z : State} {a0 : Array Value} {O K : String} {n : Nat} (w : (Cond.noSuperclass O).before a0 Z = true) (wk : (Cond.instantiable K n).before a0 Z = true) (hn : O ≠ K) : NS Z O K := by
  obtain ⟨c, k, h1, h2, h3, -, -⟩ := Cond.noSuperclass_spec w
  obtain ⟨t, kt, g1, -⟩ := Cond.instantiable_spec wk
  have ne := ids_ne h1 g1 hn
  refine ⟨c, t, h1, g1, fun fuel => ?_⟩
  cases fuel with
  | zero => rfl
  | succ f => simp [Vm.isSubclassAux, ne, h2, h3]
theorem ns_no {Z : State} {a0 : Array Value} {C S K : String} {n : Nat} (w : (Cond.superclass C S).before a0 Z = true) (wk : (Cond.instantiable K n).before a0 Z = true) (nn : NS Z C K) (hn : C ≠ K) : ∃ c t, Z.vm.findClass C = some c ∧ Z.vm.findClass K = some t ∧ Z.vm.assignable c t = false := by
  obtain ⟨c, t, h0, g0, n3⟩ := nn
  obtain ⟨p, k, kp, h1, h2, h3, h4, h5, -, h7⟩ := Cond.superclass_spec h0 w
  obtain ⟨t', kt, g1, g2, g3, g4, -⟩ := Cond.instantiable_spec wk
  cases g0.symm.trans g1
  have ne := ids_ne h0 g0 hn
  refine ⟨c, t, h0, g0, ?_⟩
  have g5 : kt.isInterface = false := by
    cases hq : kt.isInterface with
    | false => rfl
    | true => rw [hq] at g4; simp at g4
  show Z.vm.assignableAux (255 + 1) c t = false
  simp [Vm.assignableAux, ne, h2, g2, h5, g3, g5, Vm.isSubclass, n3]
theorem d2_0 : decode jdk_30_method_1_code 0 = .ok (.aload_n 0, 1) := by decide +kernel
theorem d2_1 : decode jdk_30_method_1_code 1 = .ok (.invokespecial 1, 3) := by decide +kernel
theorem d2_4 : decode jdk_30_method_1_code 4 = .ok (.return_, 1) := by decide +kernel
theorem pn0 : plainName "java/lang/Record" = true := by first | (simp [plainName, overriddenIn]; done) | decide +kernel
theorem ef_rec (m : MethodId) (a : Addr) : entryFrame m #[(.ref a)] 1 = mkF m 0 #[.val (.ref a)] [] := by first | (simp [entryFrame, mkF, argsToLocals, Value.category]; done) | rfl
def Q_rec (Z : State) (a : Addr) (h0 : Heap) (n0 : Nat) (vz : Option Value) (hz : Heap) (Lz : List Loc) : Prop := vz = none ∧ Fr n0 Lz ∧ hz = h0
set_option maxRecDepth 65536 in
set_option maxHeartbeats 40000000 in
theorem rm_rec (l : Launch) (Z : State) (a0 : Array Value) (hw : ∀ d ∈ tables_1, d.before a0 Z = true) (ws : List Jvm.Cond) (a : Addr) (h0 : Heap) (n0 : Nat) (Z0 : n0 ≤ h0.size)  :
    MetFree l (⟨"java/lang/Record", "<init>", "()V"⟩ : MethodName) (head1 (Jvm.Cond.code (⟨"java/lang/Record", "<init>", "()V"⟩ : MethodName) jdk_30_method_1_code 1 none :: ws) ({ frames := 1, cells := 0, slots := 0, locals := 12 } : Room)) (fun az Uz => az = #[(.ref a)] ∧ Z.Warmed39 Uz.vm ∧ Uz.heap = h0) (fun _ _ _ _ _ => True) (fun _ Uz oz Ut => ∃ vz Lz, oz = .returned vz ∧ Q_rec Z a h0 n0 vz Ut.heap Lz ∧ FrameEnd Uz oz Ut Lz (({ frames := 1, cells := 0, slots := 0, locals := 12 } : Room)).cells (({ frames := 1, cells := 0, slots := 0, locals := 12 } : Room)).slots) := by
  refine MetFree.of_bodySF (plainFor_of_name pn0) hisR ?_
  intro p e s m args below meth c s₁ Bd hml0 hP hK
  obtain ⟨rfl, hZ, hh⟩ := hP
  have hx := Bd.exec
  have hby := Bd.bytes
  have hml : c.maxLocals = 1 := hml0
  have hown : s.vm.findClass "java/lang/Record" = some m.cls := findClass_of_methodNamed Bd.named
  have hnm := (name_of_methodNamed Bd.named Bd.method).1
  have hlk : meth.locks = false := Bd.notSynchronized
  have X0 : Stand p l e ({ frames := 1, cells := 0, slots := 0, locals := 12 } : Room) s m #[(.ref a)] below meth c s₁ [] 0 0 := Stand.of_body Bd
  have e0 : s₁.heap = h0 := by rw [← hh, Bd.state]; rfl
  have N0 := Fr.nil n0
  show EndsK p e below (OQ s (Q_rec Z a h0 n0) (({ frames := 1, cells := 0, slots := 0, locals := 12 } : Room)).cells (({ frames := 1, cells := 0, slots := 0, locals := 12 } : Room)).slots) (s₁.setTop (entryFrame m #[(.ref a)] 1))
  refine EndsK.start (ef_rec m a) ?_
  show EndsK p e below _ (s₁.setTop (mkF m 0 #[.val (.ref a)] []))
  refine EndsK.go (fun _ kz => XS.aloadN X0.here hx rfl (hb hby d2_0) rfl rfl kz) ?_
  show EndsK p e below _ (s₁.setTop (mkF m 1 #[.val (.ref a)] [(.ref a)]))
  obtain ⟨T1, X1, e1, st1⟩ := initO X0 hx hZ hown (hw _ (List.mem_of_getElem? (i := 11) rfl)) (hw _ (List.mem_of_getElem? (i := 12) rfl)) (hw _ (List.mem_of_getElem? (i := 13) rfl)) e0 (g := (mkF m 1 #[.val (.ref a)] [(.ref a)])) rfl (by rw [hml]; rfl) rfl (hb hby d2_1) (by decide) (W := 0) (by show 2 * 0 + _ ≤ _; exact Nat.le_of_eq rfl) (by decide)
  refine EndsK.go st1 ?_
  show EndsK p e below _ (T1.setTop (mkF m 4 #[.val (.ref a)] []))
  exact endV X1 hx Bd.returns (hb hby d2_4) hlk ⟨rfl, N0, e1⟩ (by decide) (by decide)
theorem d9_0 : decode jdk_18_method_1_code 0 = .ok (.aload_n 0, 1) := by decide +kernel
theorem d9_1 : decode jdk_18_method_1_code 1 = .ok (.invokespecial 1, 3) := by decide +kernel
theorem d9_4 : decode jdk_18_method_1_code 4 = .ok (.return_, 1) := by decide +kernel
theorem pn1 : plainName "java/lang/Number" = true := by first | (simp [plainName, overriddenIn]; done) | decide +kernel
theorem ef_num (m : MethodId) (a : Addr) : entryFrame m #[(.ref a)] 1 = mkF m 0 #[.val (.ref a)] [] := by first | (simp [entryFrame, mkF, argsToLocals, Value.category]; done) | rfl
def Q_num (Z : State) (a : Addr) (h0 : Heap) (n0 : Nat) (vz : Option Value) (hz : Heap) (Lz : List Loc) : Prop := vz = none ∧ Fr n0 Lz ∧ hz = h0
set_option maxRecDepth 65536 in
set_option maxHeartbeats 40000000 in
theorem rm_num (l : Launch) (Z : State) (a0 : Array Value) (hw : ∀ d ∈ tables_1, d.before a0 Z = true) (ws : List Jvm.Cond) (a : Addr) (h0 : Heap) (n0 : Nat) (Z0 : n0 ≤ h0.size)  :
    MetFree l (⟨"java/lang/Number", "<init>", "()V"⟩ : MethodName) (head1 (Jvm.Cond.code (⟨"java/lang/Number", "<init>", "()V"⟩ : MethodName) jdk_18_method_1_code 1 none :: ws) ({ frames := 1, cells := 0, slots := 0, locals := 12 } : Room)) (fun az Uz => az = #[(.ref a)] ∧ Z.Warmed39 Uz.vm ∧ Uz.heap = h0) (fun _ _ _ _ _ => True) (fun _ Uz oz Ut => ∃ vz Lz, oz = .returned vz ∧ Q_num Z a h0 n0 vz Ut.heap Lz ∧ FrameEnd Uz oz Ut Lz (({ frames := 1, cells := 0, slots := 0, locals := 12 } : Room)).cells (({ frames := 1, cells := 0, slots := 0, locals := 12 } : Room)).slots) := by
  refine MetFree.of_bodySF (plainFor_of_name pn1) hisR ?_
  intro p e s m args below meth c s₁ Bd hml0 hP hK
  obtain ⟨rfl, hZ, hh⟩ := hP
  have hx := Bd.exec
  have hby := Bd.bytes
  have hml : c.maxLocals = 1 := hml0
  have hown : s.vm.findClass "java/lang/Number" = some m.cls := findClass_of_methodNamed Bd.named
  have hnm := (name_of_methodNamed Bd.named Bd.method).1
  have hlk : meth.locks = false := Bd.notSynchronized
  have X0 : Stand p l e ({ frames := 1, cells := 0, slots := 0, locals := 12 } : Room) s m #[(.ref a)] below meth c s₁ [] 0 0 := Stand.of_body Bd
  have e0 : s₁.heap = h0 := by rw [← hh, Bd.state]; rfl
  have N0 := Fr.nil n0
  show EndsK p e below (OQ s (Q_num Z a h0 n0) (({ frames := 1, cells := 0, slots := 0, locals := 12 } : Room)).cells (({ frames := 1, cells := 0, slots := 0, locals := 12 } : Room)).slots) (s₁.setTop (entryFrame m #[(.ref a)] 1))
  refine EndsK.start (ef_num m a) ?_
  show EndsK p e below _ (s₁.setTop (mkF m 0 #[.val (.ref a)] []))
  refine EndsK.go (fun _ kz => XS.aloadN X0.here hx rfl (hb hby d9_0) rfl rfl kz) ?_
  show EndsK p e below _ (s₁.setTop (mkF m 1 #[.val (.ref a)] [(.ref a)]))
  obtain ⟨T1, X1, e1, st1⟩ := initO X0 hx hZ hown (hw _ (List.mem_of_getElem? (i := 66) rfl)) (hw _ (List.mem_of_getElem? (i := 12) rfl)) (hw _ (List.mem_of_getElem? (i := 13) rfl)) e0 (g := (mkF m 1 #[.val (.ref a)] [(.ref a)])) rfl (by rw [hml]; rfl) rfl (hb hby d9_1) (by decide) (W := 0) (by show 2 * 0 + _ ≤ _; exact Nat.le_of_eq rfl) (by decide)
  refine EndsK.go st1 ?_
  show EndsK p e below _ (T1.setTop (mkF m 4 #[.val (.ref a)] []))
  exact endV X1 hx Bd.returns (hb hby d9_4) hlk ⟨rfl, N0, e1⟩ (by decide) (by decide)
theorem d5_0 : decode prog_25_method_1_code 0 = .ok (.aload_n 0, 1) := by decide +kernel
theorem d5_1 : decode prog_25_method_1_code 1 = .ok (.invokespecial 1, 3) := by decide +kernel
theorem d5_4 : decode prog_25_method_1_code 4 = .ok (.aload_n 0, 1) := by decide +kernel
theorem d5_5 : decode prog_25_method_1_code 5 = .ok (.lload_n 1, 1) := by decide +kernel
theorem d5_6 : decode prog_25_method_1_code 6 = .ok (.putfield 7, 3) := by decide +kernel
theorem d5_9 : decode prog_25_method_1_code 9 = .ok (.aload_n 0, 1) := by decide +kernel
theorem d5_10 : decode prog_25_method_1_code 10 = .ok (.lload_n 3, 1) := by decide +kernel
theorem d5_11 : decode prog_25_method_1_code 11 = .ok (.putfield 13, 3) := by decide +kernel
theorem d5_14 : decode prog_25_method_1_code 14 = .ok (.return_, 1) := by decide +kernel
theorem pn2 : plainName "com/example/update_by_version/updatebyversion/Marker$Range" = true := by first | (simp [plainName, overriddenIn]; done) | decide +kernel
theorem ef_ri (m : MethodId) (a : Addr) (x : Int64) (y : Int64) : entryFrame m #[(.ref a), (.long x), (.long y)] 5 = mkF m 0 #[.val (.ref a), .val (.long x), .second, .val (.long y), .second] [] := by first | (simp [entryFrame, mkF, argsToLocals, Value.category]; done) | rfl
def Q_ri (Z : State) (a : Addr) (x : Int64) (y : Int64) (h0 : Heap) (n0 : Nat) (vz : Option Value) (hz : Heap) (Lz : List Loc) : Prop := vz = none ∧ Fr n0 Lz ∧ Keep h0 hz [a] ∧ Exa Z hz a "com/example/update_by_version/updatebyversion/Marker$Range" ∧ Fld Z hz a "com/example/update_by_version/updatebyversion/Marker$Range" "least" "J" (.long x) ∧ Fld Z hz a "com/example/update_by_version/updatebyversion/Marker$Range" "greatest" "J" (.long y)
theorem pd0 : parseMethodDescriptor "()V" = some ⟨[], none⟩ := by decide +kernel
set_option maxRecDepth 65536 in
set_option maxHeartbeats 40000000 in
theorem rm_ri (l : Launch) (Z : State) (a0 : Array Value) (hw : ∀ d ∈ tables_1, d.before a0 Z = true) (ws : List Jvm.Cond) (a : Addr) (x : Int64) (y : Int64) (h0 : Heap) (n0 : Nat) (Z0 : n0 ≤ h0.size) (ga : n0 ≤ a) (Ea : Exa Z h0 a "com/example/update_by_version/updatebyversion/Marker$Range") (Fa_least : Fld Z h0 a "com/example/update_by_version/updatebyversion/Marker$Range" "least" "J" (.long (0 : Int64))) (Fa_greatest : Fld Z h0 a "com/example/update_by_version/updatebyversion/Marker$Range" "greatest" "J" (.long (0 : Int64))) :
    MetFree l (⟨"com/example/update_by_version/updatebyversion/Marker$Range", "<init>", "(JJ)V"⟩ : MethodName) (head1 (Jvm.Cond.code (⟨"com/example/update_by_version/updatebyversion/Marker$Range", "<init>", "(JJ)V"⟩ : MethodName) prog_25_method_1_code 5 none :: ws) ({ frames := 2, cells := 0, slots := 0, locals := 24 } : Room)) (fun az Uz => az = #[(.ref a), (.long x), (.long y)] ∧ Z.Warmed39 Uz.vm ∧ Uz.heap = h0) (fun _ _ _ _ _ => True) (fun _ Uz oz Ut => ∃ vz Lz, oz = .returned vz ∧ Q_ri Z a x y h0 n0 vz Ut.heap Lz ∧ FrameEnd Uz oz Ut Lz (({ frames := 2, cells := 0, slots := 0, locals := 24 } : Room)).cells (({ frames := 2, cells := 0, slots := 0, locals := 24 } : Room)).slots) := by
  refine MetFree.of_bodySF (plainFor_of_name pn2) hisR ?_
  intro p e s m args below meth c s₁ Bd hml0 hP hK
  obtain ⟨rfl, hZ, hh⟩ := hP
  have hx := Bd.exec
  have hby := Bd.bytes
  have hml : c.maxLocals = 5 := hml0
  have hown : s.vm.findClass "com/example/update_by_version/updatebyversion/Marker$Range" = some m.cls := findClass_of_methodNamed Bd.named
  have hnm := (name_of_methodNamed Bd.named Bd.method).1
  have hlk : meth.locks = false := Bd.notSynchronized
  have X0 : Stand p l e ({ frames := 2, cells := 0, slots := 0, locals := 24 } : Room) s m #[(.ref a), (.long x), (.long y)] below meth c s₁ [] 0 0 := Stand.of_body Bd
  have e0 : s₁.heap = h0 := by rw [← hh, Bd.state]; rfl
  have N0 := Fr.nil n0
  show EndsK p e below (OQ s (Q_ri Z a x y h0 n0) (({ frames := 2, cells := 0, slots := 0, locals := 24 } : Room)).cells (({ frames := 2, cells := 0, slots := 0, locals := 24 } : Room)).slots) (s₁.setTop (entryFrame m #[(.ref a), (.long x), (.long y)] 5))
  refine EndsK.start (ef_ri m a x y) ?_
  have K0 : Keep h0 h0 [a] := Keep.refl _ _
  show EndsK p e below _ (s₁.setTop (mkF m 0 #[.val (.ref a), .val (.long x), .second, .val (.long y), .second] []))
  refine EndsK.go (fun _ kz => XS.aloadN X0.here hx rfl (hb hby d5_0) rfl rfl kz) ?_
  show EndsK p e below _ (s₁.setTop (mkF m 1 #[.val (.ref a), .val (.long x), .second, .val (.long y), .second] [(.ref a)]))
  obtain ⟨_, _, ⟨T1, L1, k1, n1⟩, -, X1, ⟨Lc1, hQ1, l1, y1, z1⟩, st1⟩ := X0.specialBack hx (y := (⟨"java/lang/Record", "<init>", "()V"⟩ : MethodName)) rfl hown (mvT hZ (hw _ (List.mem_of_getElem? (i := 31) rfl))) (mvT hZ (hw _ (List.mem_of_getElem? (i := 7) rfl))) (mvT hZ (hw _ (List.mem_of_getElem? (i := 10) rfl))) (by decide) (backOf (W := 0) (rm_rec l Z a0 hw [] a h0 n0 Z0) hZ (hw _ (List.mem_of_getElem? (i := 10) rfl)) (hw _ (List.mem_of_getElem? (i := 9) rfl)) (by decide) (by decide)) (g := (mkF m 1 #[.val (.ref a), .val (.long x), .second, .val (.long y), .second] [(.ref a)])) rfl (by rw [hml]; rfl) (Steps.refl _) (a := a) (argsL := []) (rest := []) (lenOf pd0 rfl) rfl (by show 2 * 0 + _ ≤ _; exact Nat.le_of_eq rfl) (hb hby d5_1) (fun _ _ => ⟨rfl, e0, (by decide : 0 + 0 ≤ _), (by decide : 0 + 0 ≤ _)⟩)
  dsimp only [Pt.U, Pt.locs, Pt.cells, Pt.slots] at X1 l1 y1 z1 st1 hQ1
  subst l1 y1 z1
  obtain ⟨rfl, N1, e1⟩ := hQ1
  have M1 := Fr.app N0 N1
  refine EndsK.tr st1 ?_
  show EndsK p e below _ (T1.setTop (mkF m 4 #[.val (.ref a), .val (.long x), .second, .val (.long y), .second] []))
  refine EndsK.go (fun _ kz => XS.aloadN X1.here hx rfl (hb hby d5_4) rfl rfl kz) ?_
  show EndsK p e below _ (T1.setTop (mkF m 5 #[.val (.ref a), .val (.long x), .second, .val (.long y), .second] [(.ref a)]))
  refine EndsK.go (fun _ kz => XS.lloadN X1.here hx rfl (hb hby d5_5) rfl kz) ?_
  show EndsK p e below _ (T1.setTop (mkF m 6 #[.val (.ref a), .val (.long x), .second, .val (.long y), .second] [(.long x), (.ref a)]))
  obtain ⟨T2, h2, X2, e2, W2, st2⟩ := putF X1 hx hZ hown (host := "") (Or.inl (hw _ (List.mem_of_getElem? (i := 32) rfl))) Via.refl e1 Fa_least Ea (Or.inr ⟨(hw _ (List.mem_of_getElem? (i := 33) rfl)), rfl, hnm⟩) (hw _ (List.mem_of_getElem? (i := 26) rfl)) (ty := .long) (by decide) rfl rfl (g := (mkF m 6 #[.val (.ref a), .val (.long x), .second, .val (.long y), .second] [(.long x), (.ref a)])) rfl rfl (hb hby d5_6)
  refine EndsK.go st2 ?_
  have N2 := Fr.snoc X2 M1 ga
  have E2_a := Ea.wr W2
  have F2_least := Fa_least.same W2
  have F2_greatest_a := Fa_greatest.other W2 (Or.inr (slot_ne (Or.inr (hw _ (List.mem_of_getElem? (i := 35) rfl))) (Or.inr (hw _ (List.mem_of_getElem? (i := 33) rfl))) (by decide) (t := .long) (t' := .long) (by decide) (by decide)))
  have Z2 : n0 ≤ h2.size := Nat.le_trans Z0 (Nat.le_of_eq W2.size.symm)
  have K2 := K0.wr W2 (Or.inl (List.mem_of_getElem? (i := 0) rfl))
  show EndsK p e below _ (T2.setTop (mkF m 9 #[.val (.ref a), .val (.long x), .second, .val (.long y), .second] []))
  refine EndsK.go (fun _ kz => XS.aloadN X2.here hx rfl (hb hby d5_9) rfl rfl kz) ?_
  show EndsK p e below _ (T2.setTop (mkF m 10 #[.val (.ref a), .val (.long x), .second, .val (.long y), .second] [(.ref a)]))
  refine EndsK.go (fun _ kz => XS.lloadN X2.here hx rfl (hb hby d5_10) rfl kz) ?_
  show EndsK p e below _ (T2.setTop (mkF m 11 #[.val (.ref a), .val (.long x), .second, .val (.long y), .second] [(.long y), (.ref a)]))
  obtain ⟨T3, h3, X3, e3, W3, st3⟩ := putF X2 hx hZ hown (host := "") (Or.inl (hw _ (List.mem_of_getElem? (i := 34) rfl))) Via.refl e2 F2_greatest_a E2_a (Or.inr ⟨(hw _ (List.mem_of_getElem? (i := 35) rfl)), rfl, hnm⟩) (hw _ (List.mem_of_getElem? (i := 26) rfl)) (ty := .long) (by decide) rfl rfl (g := (mkF m 11 #[.val (.ref a), .val (.long x), .second, .val (.long y), .second] [(.long y), (.ref a)])) rfl rfl (hb hby d5_11)
  refine EndsK.go st3 ?_
  have N3 := Fr.snoc X3 N2 ga
  have E3_a := E2_a.wr W3
  have F3_least_a := F2_least.other W3 (Or.inr (slot_ne (Or.inr (hw _ (List.mem_of_getElem? (i := 33) rfl))) (Or.inr (hw _ (List.mem_of_getElem? (i := 35) rfl))) (by decide) (t := .long) (t' := .long) (by decide) (by decide)))
  have F3_greatest := F2_greatest_a.same W3
  have Z3 : n0 ≤ h3.size := Nat.le_trans Z2 (Nat.le_of_eq W3.size.symm)
  have K3 := K2.wr W3 (Or.inl (List.mem_of_getElem? (i := 0) rfl))
  show EndsK p e below _ (T3.setTop (mkF m 14 #[.val (.ref a), .val (.long x), .second, .val (.long y), .second] []))
  exact endV X3 hx Bd.returns (hb hby d5_14) hlk ⟨rfl, N3, by rw [e3]; exact K3, by rw [e3]; exact E3_a, by rw [e3]; exact F3_least_a, by rw [e3]; exact F3_greatest⟩ (by decide) (by decide)
theorem d6_0 : decode prog_28_method_1_code 0 = .ok (.aload_n 0, 1) := by decide +kernel
theorem d6_1 : decode prog_28_method_1_code 1 = .ok (.invokespecial 1, 3) := by decide +kernel
theorem d6_4 : decode prog_28_method_1_code 4 = .ok (.aload_n 0, 1) := by decide +kernel
theorem d6_5 : decode prog_28_method_1_code 5 = .ok (.aload_n 1, 1) := by decide +kernel
theorem d6_6 : decode prog_28_method_1_code 6 = .ok (.putfield 7, 3) := by decide +kernel
theorem d6_9 : decode prog_28_method_1_code 9 = .ok (.return_, 1) := by decide +kernel
theorem pn3 : plainName "com/example/update_by_version/updatebyversion/Marker$Timestamp" = true := by first | (simp [plainName, overriddenIn]; done) | decide +kernel
theorem ef_ti (m : MethodId) (a : Addr) : entryFrame m #[(.ref a), .null] 2 = mkF m 0 #[.val (.ref a), .val .null] [] := by first | (simp [entryFrame, mkF, argsToLocals, Value.category]; done) | rfl
def Q_ti (Z : State) (a : Addr) (h0 : Heap) (n0 : Nat) (vz : Option Value) (hz : Heap) (Lz : List Loc) : Prop := vz = none ∧ Fr n0 Lz ∧ Keep h0 hz [a] ∧ Exa Z hz a "com/example/update_by_version/updatebyversion/Marker$Timestamp" ∧ Fld Z hz a "com/example/update_by_version/updatebyversion/Marker$Timestamp" "timestamp" "Ljava/time/LocalDateTime;" .null
set_option maxRecDepth 65536 in
set_option maxHeartbeats 40000000 in
theorem rm_ti (l : Launch) (Z : State) (a0 : Array Value) (hw : ∀ d ∈ tables_1, d.before a0 Z = true) (ws : List Jvm.Cond) (a : Addr) (h0 : Heap) (n0 : Nat) (Z0 : n0 ≤ h0.size) (ga : n0 ≤ a) (Ea : Exa Z h0 a "com/example/update_by_version/updatebyversion/Marker$Timestamp") (Fa_timestamp : Fld Z h0 a "com/example/update_by_version/updatebyversion/Marker$Timestamp" "timestamp" "Ljava/time/LocalDateTime;" .null) :
    MetFree l (⟨"com/example/update_by_version/updatebyversion/Marker$Timestamp", "<init>", "(Ljava/time/LocalDateTime;)V"⟩ : MethodName) (head1 (Jvm.Cond.code (⟨"com/example/update_by_version/updatebyversion/Marker$Timestamp", "<init>", "(Ljava/time/LocalDateTime;)V"⟩ : MethodName) prog_28_method_1_code 2 none :: ws) ({ frames := 2, cells := 0, slots := 0, locals := 24 } : Room)) (fun az Uz => az = #[(.ref a), .null] ∧ Z.Warmed39 Uz.vm ∧ Uz.heap = h0) (fun _ _ _ _ _ => True) (fun _ Uz oz Ut => ∃ vz Lz, oz = .returned vz ∧ Q_ti Z a h0 n0 vz Ut.heap Lz ∧ FrameEnd Uz oz Ut Lz (({ frames := 2, cells := 0, slots := 0, locals := 24 } : Room)).cells (({ frames := 2, cells := 0, slots := 0, locals := 24 } : Room)).slots) := by
  refine MetFree.of_bodySF (plainFor_of_name pn3) hisR ?_
  intro p e s m args below meth c s₁ Bd hml0 hP hK
  obtain ⟨rfl, hZ, hh⟩ := hP
  have hx := Bd.exec
  have hby := Bd.bytes
  have hml : c.maxLocals = 2 := hml0
  have hown : s.vm.findClass "com/example/update_by_version/updatebyversion/Marker$Timestamp" = some m.cls := findClass_of_methodNamed Bd.named
  have hnm := (name_of_methodNamed Bd.named Bd.method).1
  have hlk : meth.locks = false := Bd.notSynchronized
  have X0 : Stand p l e ({ frames := 2, cells := 0, slots := 0, locals := 24 } : Room) s m #[(.ref a), .null] below meth c s₁ [] 0 0 := Stand.of_body Bd
  have e0 : s₁.heap = h0 := by rw [← hh, Bd.state]; rfl
  have N0 := Fr.nil n0
  show EndsK p e below (OQ s (Q_ti Z a h0 n0) (({ frames := 2, cells := 0, slots := 0, locals := 24 } : Room)).cells (({ frames := 2, cells := 0, slots := 0, locals := 24 } : Room)).slots) (s₁.setTop (entryFrame m #[(.ref a), .null] 2))
  refine EndsK.start (ef_ti m a) ?_
  have K0 : Keep h0 h0 [a] := Keep.refl _ _
  show EndsK p e below _ (s₁.setTop (mkF m 0 #[.val (.ref a), .val .null] []))
  refine EndsK.go (fun _ kz => XS.aloadN X0.here hx rfl (hb hby d6_0) rfl rfl kz) ?_
  show EndsK p e below _ (s₁.setTop (mkF m 1 #[.val (.ref a), .val .null] [(.ref a)]))
  obtain ⟨_, _, ⟨T1, L1, k1, n1⟩, -, X1, ⟨Lc1, hQ1, l1, y1, z1⟩, st1⟩ := X0.specialBack hx (y := (⟨"java/lang/Record", "<init>", "()V"⟩ : MethodName)) rfl hown (mvT hZ (hw _ (List.mem_of_getElem? (i := 42) rfl))) (mvT hZ (hw _ (List.mem_of_getElem? (i := 7) rfl))) (mvT hZ (hw _ (List.mem_of_getElem? (i := 10) rfl))) (by decide) (backOf (W := 0) (rm_rec l Z a0 hw [] a h0 n0 Z0) hZ (hw _ (List.mem_of_getElem? (i := 10) rfl)) (hw _ (List.mem_of_getElem? (i := 9) rfl)) (by decide) (by decide)) (g := (mkF m 1 #[.val (.ref a), .val .null] [(.ref a)])) rfl (by rw [hml]; rfl) (Steps.refl _) (a := a) (argsL := []) (rest := []) (lenOf pd0 rfl) rfl (by show 2 * 0 + _ ≤ _; exact Nat.le_of_eq rfl) (hb hby d6_1) (fun _ _ => ⟨rfl, e0, (by decide : 0 + 0 ≤ _), (by decide : 0 + 0 ≤ _)⟩)
  dsimp only [Pt.U, Pt.locs, Pt.cells, Pt.slots] at X1 l1 y1 z1 st1 hQ1
  subst l1 y1 z1
  obtain ⟨rfl, N1, e1⟩ := hQ1
  have M1 := Fr.app N0 N1
  refine EndsK.tr st1 ?_
  show EndsK p e below _ (T1.setTop (mkF m 4 #[.val (.ref a), .val .null] []))
  refine EndsK.go (fun _ kz => XS.aloadN X1.here hx rfl (hb hby d6_4) rfl rfl kz) ?_
  show EndsK p e below _ (T1.setTop (mkF m 5 #[.val (.ref a), .val .null] [(.ref a)]))
  refine EndsK.go (fun _ kz => XS.aloadN X1.here hx rfl (hb hby d6_5) rfl rfl kz) ?_
  show EndsK p e below _ (T1.setTop (mkF m 6 #[.val (.ref a), .val .null] [.null, (.ref a)]))
  obtain ⟨T2, h2, X2, e2, W2, st2⟩ := putF X1 hx hZ hown (host := "") (Or.inl (hw _ (List.mem_of_getElem? (i := 43) rfl))) Via.refl e1 Fa_timestamp Ea (Or.inr ⟨(hw _ (List.mem_of_getElem? (i := 44) rfl)), rfl, hnm⟩) (hw _ (List.mem_of_getElem? (i := 37) rfl)) (ty := (.object "java/time/LocalDateTime")) (by decide) rfl rfl (g := (mkF m 6 #[.val (.ref a), .val .null] [.null, (.ref a)])) rfl rfl (hb hby d6_6)
  refine EndsK.go st2 ?_
  have N2 := Fr.snoc X2 M1 ga
  have E2_a := Ea.wr W2
  have F2_timestamp := Fa_timestamp.same W2
  have Z2 : n0 ≤ h2.size := Nat.le_trans Z0 (Nat.le_of_eq W2.size.symm)
  have K2 := K0.wr W2 (Or.inl (List.mem_of_getElem? (i := 0) rfl))
  show EndsK p e below _ (T2.setTop (mkF m 9 #[.val (.ref a), .val .null] []))
  exact endV X2 hx Bd.returns (hb hby d6_9) hlk ⟨rfl, N2, by rw [e2]; exact K2, by rw [e2]; exact E2_a, by rw [e2]; exact F2_timestamp⟩ (by decide) (by decide)
theorem d8_0 : decode jdk_35_method_26_code 0 = .ok (.aload_n 0, 1) := by decide +kernel
theorem d8_1 : decode jdk_35_method_26_code 1 = .ok (.invokespecial 270, 3) := by decide +kernel
theorem d8_4 : decode jdk_35_method_26_code 4 = .ok (.aload_n 0, 1) := by decide +kernel
theorem d8_5 : decode jdk_35_method_26_code 5 = .ok (.lload_n 1, 1) := by decide +kernel
theorem d8_6 : decode jdk_35_method_26_code 6 = .ok (.putfield 273, 3) := by decide +kernel
theorem d8_9 : decode jdk_35_method_26_code 9 = .ok (.return_, 1) := by decide +kernel
theorem pn4 : plainName "java/lang/Long" = true := by first | (simp [plainName, overriddenIn]; done) | decide +kernel
theorem ef_li (m : MethodId) (a : Addr) (x : Int64) : entryFrame m #[(.ref a), (.long x)] 3 = mkF m 0 #[.val (.ref a), .val (.long x), .second] [] := by first | (simp [entryFrame, mkF, argsToLocals, Value.category]; done) | rfl
def Q_li (Z : State) (a : Addr) (x : Int64) (h0 : Heap) (n0 : Nat) (vz : Option Value) (hz : Heap) (Lz : List Loc) : Prop := vz = none ∧ Fr n0 Lz ∧ Keep h0 hz [a] ∧ Exa Z hz a "java/lang/Long" ∧ Fld Z hz a "java/lang/Long" "value" "J" (.long x)
set_option maxRecDepth 65536 in
set_option maxHeartbeats 40000000 in
theorem rm_li (l : Launch) (Z : State) (a0 : Array Value) (hw : ∀ d ∈ tables_1, d.before a0 Z = true) (ws : List Jvm.Cond) (a : Addr) (x : Int64) (h0 : Heap) (n0 : Nat) (Z0 : n0 ≤ h0.size) (ga : n0 ≤ a) (Ea : Exa Z h0 a "java/lang/Long") (Fa_value : Fld Z h0 a "java/lang/Long" "value" "J" (.long (0 : Int64))) :
    MetFree l (⟨"java/lang/Long", "<init>", "(J)V"⟩ : MethodName) (head1 (Jvm.Cond.code (⟨"java/lang/Long", "<init>", "(J)V"⟩ : MethodName) jdk_35_method_26_code 3 none :: ws) ({ frames := 2, cells := 0, slots := 0, locals := 24 } : Room)) (fun az Uz => az = #[(.ref a), (.long x)] ∧ Z.Warmed39 Uz.vm ∧ Uz.heap = h0) (fun _ _ _ _ _ => True) (fun _ Uz oz Ut => ∃ vz Lz, oz = .returned vz ∧ Q_li Z a x h0 n0 vz Ut.heap Lz ∧ FrameEnd Uz oz Ut Lz (({ frames := 2, cells := 0, slots := 0, locals := 24 } : Room)).cells (({ frames := 2, cells := 0, slots := 0, locals := 24 } : Room)).slots) := by
  refine MetFree.of_bodySF (plainFor_of_name pn4) hisR ?_
  intro p e s m args below meth c s₁ Bd hml0 hP hK
  obtain ⟨rfl, hZ, hh⟩ := hP
  have hx := Bd.exec
  have hby := Bd.bytes
  have hml : c.maxLocals = 3 := hml0
  have hown : s.vm.findClass "java/lang/Long" = some m.cls := findClass_of_methodNamed Bd.named
  have hnm := (name_of_methodNamed Bd.named Bd.method).1
  have hlk : meth.locks = false := Bd.notSynchronized
  have X0 : Stand p l e ({ frames := 2, cells := 0, slots := 0, locals := 24 } : Room) s m #[(.ref a), (.long x)] below meth c s₁ [] 0 0 := Stand.of_body Bd
  have e0 : s₁.heap = h0 := by rw [← hh, Bd.state]; rfl
  have N0 := Fr.nil n0
  show EndsK p e below (OQ s (Q_li Z a x h0 n0) (({ frames := 2, cells := 0, slots := 0, locals := 24 } : Room)).cells (({ frames := 2, cells := 0, slots := 0, locals := 24 } : Room)).slots) (s₁.setTop (entryFrame m #[(.ref a), (.long x)] 3))
  refine EndsK.start (ef_li m a x) ?_
  have K0 : Keep h0 h0 [a] := Keep.refl _ _
  show EndsK p e below _ (s₁.setTop (mkF m 0 #[.val (.ref a), .val (.long x), .second] []))
  refine EndsK.go (fun _ kz => XS.aloadN X0.here hx rfl (hb hby d8_0) rfl rfl kz) ?_
  show EndsK p e below _ (s₁.setTop (mkF m 1 #[.val (.ref a), .val (.long x), .second] [(.ref a)]))
  obtain ⟨_, _, ⟨T1, L1, k1, n1⟩, -, X1, ⟨Lc1, hQ1, l1, y1, z1⟩, st1⟩ := X0.specialBack hx (y := (⟨"java/lang/Number", "<init>", "()V"⟩ : MethodName)) rfl hown (mvT hZ (hw _ (List.mem_of_getElem? (i := 60) rfl))) (mvT hZ (hw _ (List.mem_of_getElem? (i := 61) rfl))) (mvT hZ (hw _ (List.mem_of_getElem? (i := 65) rfl))) (by decide) (backOf (W := 0) (rm_num l Z a0 hw [] a h0 n0 Z0) hZ (hw _ (List.mem_of_getElem? (i := 65) rfl)) (hw _ (List.mem_of_getElem? (i := 64) rfl)) (by decide) (by decide)) (g := (mkF m 1 #[.val (.ref a), .val (.long x), .second] [(.ref a)])) rfl (by rw [hml]; rfl) (Steps.refl _) (a := a) (argsL := []) (rest := []) (lenOf pd0 rfl) rfl (by show 2 * 0 + _ ≤ _; exact Nat.le_of_eq rfl) (hb hby d8_1) (fun _ _ => ⟨rfl, e0, (by decide : 0 + 0 ≤ _), (by decide : 0 + 0 ≤ _)⟩)
  dsimp only [Pt.U, Pt.locs, Pt.cells, Pt.slots] at X1 l1 y1 z1 st1 hQ1
  subst l1 y1 z1
  obtain ⟨rfl, N1, e1⟩ := hQ1
  have M1 := Fr.app N0 N1
  refine EndsK.tr st1 ?_
  show EndsK p e below _ (T1.setTop (mkF m 4 #[.val (.ref a), .val (.long x), .second] []))
  refine EndsK.go (fun _ kz => XS.aloadN X1.here hx rfl (hb hby d8_4) rfl rfl kz) ?_
  show EndsK p e below _ (T1.setTop (mkF m 5 #[.val (.ref a), .val (.long x), .second] [(.ref a)]))
  refine EndsK.go (fun _ kz => XS.lloadN X1.here hx rfl (hb hby d8_5) rfl kz) ?_
  show EndsK p e below _ (T1.setTop (mkF m 6 #[.val (.ref a), .val (.long x), .second] [(.long x), (.ref a)]))
  obtain ⟨T2, h2, X2, e2, W2, st2⟩ := putF X1 hx hZ hown (host := "") (Or.inl (hw _ (List.mem_of_getElem? (i := 67) rfl))) Via.refl e1 Fa_value Ea (Or.inr ⟨(hw _ (List.mem_of_getElem? (i := 68) rfl)), rfl, hnm⟩) (hw _ (List.mem_of_getElem? (i := 55) rfl)) (ty := .long) (by decide) rfl rfl (g := (mkF m 6 #[.val (.ref a), .val (.long x), .second] [(.long x), (.ref a)])) rfl rfl (hb hby d8_6)
  refine EndsK.go st2 ?_
  have N2 := Fr.snoc X2 M1 ga
  have E2_a := Ea.wr W2
  have F2_value := Fa_value.same W2
  have Z2 : n0 ≤ h2.size := Nat.le_trans Z0 (Nat.le_of_eq W2.size.symm)
  have K2 := K0.wr W2 (Or.inl (List.mem_of_getElem? (i := 0) rfl))
  show EndsK p e below _ (T2.setTop (mkF m 9 #[.val (.ref a), .val (.long x), .second] []))
  exact endV X2 hx Bd.returns (hb hby d8_9) hlk ⟨rfl, N2, by rw [e2]; exact K2, by rw [e2]; exact E2_a, by rw [e2]; exact F2_value⟩ (by decide) (by decide)
theorem d1_0 : decode prog_30_method_1_code 0 = .ok (.aload_n 0, 1) := by decide +kernel
theorem d1_1 : decode prog_30_method_1_code 1 = .ok (.invokespecial 1, 3) := by decide +kernel
theorem d1_4 : decode prog_30_method_1_code 4 = .ok (.aload_n 0, 1) := by decide +kernel
theorem d1_5 : decode prog_30_method_1_code 5 = .ok (.lload_n 1, 1) := by decide +kernel
theorem d1_6 : decode prog_30_method_1_code 6 = .ok (.putfield 7, 3) := by decide +kernel
theorem d1_9 : decode prog_30_method_1_code 9 = .ok (.aload_n 0, 1) := by decide +kernel
theorem d1_10 : decode prog_30_method_1_code 10 = .ok (.aload_n 3, 1) := by decide +kernel
theorem d1_11 : decode prog_30_method_1_code 11 = .ok (.putfield 13, 3) := by decide +kernel
theorem d1_14 : decode prog_30_method_1_code 14 = .ok (.return_, 1) := by decide +kernel
theorem pn5 : plainName "com/example/update_by_version/updatebyversion/Marker$Version" = true := by first | (simp [plainName, overriddenIn]; done) | decide +kernel
theorem ef_viN (m : MethodId) (a : Addr) (x : Int64) : entryFrame m #[(.ref a), (.long x), .null] 4 = mkF m 0 #[.val (.ref a), .val (.long x), .second, .val .null] [] := by first | (simp [entryFrame, mkF, argsToLocals, Value.category]; done) | rfl
def Q_viN (Z : State) (a : Addr) (x : Int64) (h0 : Heap) (n0 : Nat) (vz : Option Value) (hz : Heap) (Lz : List Loc) : Prop := vz = none ∧ Fr n0 Lz ∧ Keep h0 hz [a] ∧ Exa Z hz a "com/example/update_by_version/updatebyversion/Marker$Version" ∧ Fld Z hz a "com/example/update_by_version/updatebyversion/Marker$Version" "version" "J" (.long x) ∧ Fld Z hz a "com/example/update_by_version/updatebyversion/Marker$Version" "range" "Lcom/example/update_by_version/updatebyversion/Marker$Range;" .null
set_option maxRecDepth 65536 in
set_option maxHeartbeats 40000000 in
theorem rm_viN (l : Launch) (Z : State) (a0 : Array Value) (hw : ∀ d ∈ tables_1, d.before a0 Z = true) (ws : List Jvm.Cond) (a : Addr) (x : Int64) (h0 : Heap) (n0 : Nat) (Z0 : n0 ≤ h0.size) (ga : n0 ≤ a) (Ea : Exa Z h0 a "com/example/update_by_version/updatebyversion/Marker$Version") (Fa_version : Fld Z h0 a "com/example/update_by_version/updatebyversion/Marker$Version" "version" "J" (.long (0 : Int64))) (Fa_range : Fld Z h0 a "com/example/update_by_version/updatebyversion/Marker$Version" "range" "Lcom/example/update_by_version/updatebyversion/Marker$Range;" .null) :
    MetFree l (⟨"com/example/update_by_version/updatebyversion/Marker$Version", "<init>", "(JLcom/example/update_by_version/updatebyversion/Marker$Range;)V"⟩ : MethodName) (head1 (Jvm.Cond.code (⟨"com/example/update_by_version/updatebyversion/Marker$Version", "<init>", "(JLcom/example/update_by_version/updatebyversion/Marker$Range;)V"⟩ : MethodName) prog_30_method_1_code 4 none :: ws) ({ frames := 2, cells := 0, slots := 0, locals := 24 } : Room)) (fun az Uz => az = #[(.ref a), (.long x), .null] ∧ Z.Warmed39 Uz.vm ∧ Uz.heap = h0) (fun _ _ _ _ _ => True) (fun _ Uz oz Ut => ∃ vz Lz, oz = .returned vz ∧ Q_viN Z a x h0 n0 vz Ut.heap Lz ∧ FrameEnd Uz oz Ut Lz (({ frames := 2, cells := 0, slots := 0, locals := 24 } : Room)).cells (({ frames := 2, cells := 0, slots := 0, locals := 24 } : Room)).slots) := by
  refine MetFree.of_bodySF (plainFor_of_name pn5) hisR ?_
  intro p e s m args below meth c s₁ Bd hml0 hP hK
  obtain ⟨rfl, hZ, hh⟩ := hP
  have hx := Bd.exec
  have hby := Bd.bytes
  have hml : c.maxLocals = 4 := hml0
  have hown : s.vm.findClass "com/example/update_by_version/updatebyversion/Marker$Version" = some m.cls := findClass_of_methodNamed Bd.named
  have hnm := (name_of_methodNamed Bd.named Bd.method).1
  have hlk : meth.locks = false := Bd.notSynchronized
  have X0 : Stand p l e ({ frames := 2, cells := 0, slots := 0, locals := 24 } : Room) s m #[(.ref a), (.long x), .null] below meth c s₁ [] 0 0 := Stand.of_body Bd
  have e0 : s₁.heap = h0 := by rw [← hh, Bd.state]; rfl
  have N0 := Fr.nil n0
  show EndsK p e below (OQ s (Q_viN Z a x h0 n0) (({ frames := 2, cells := 0, slots := 0, locals := 24 } : Room)).cells (({ frames := 2, cells := 0, slots := 0, locals := 24 } : Room)).slots) (s₁.setTop (entryFrame m #[(.ref a), (.long x), .null] 4))
  refine EndsK.start (ef_viN m a x) ?_
  have K0 : Keep h0 h0 [a] := Keep.refl _ _
  show EndsK p e below _ (s₁.setTop (mkF m 0 #[.val (.ref a), .val (.long x), .second, .val .null] []))
  refine EndsK.go (fun _ kz => XS.aloadN X0.here hx rfl (hb hby d1_0) rfl rfl kz) ?_
  show EndsK p e below _ (s₁.setTop (mkF m 1 #[.val (.ref a), .val (.long x), .second, .val .null] [(.ref a)]))
  obtain ⟨_, _, ⟨T1, L1, k1, n1⟩, -, X1, ⟨Lc1, hQ1, l1, y1, z1⟩, st1⟩ := X0.specialBack hx (y := (⟨"java/lang/Record", "<init>", "()V"⟩ : MethodName)) rfl hown (mvT hZ (hw _ (List.mem_of_getElem? (i := 6) rfl))) (mvT hZ (hw _ (List.mem_of_getElem? (i := 7) rfl))) (mvT hZ (hw _ (List.mem_of_getElem? (i := 10) rfl))) (by decide) (backOf (W := 0) (rm_rec l Z a0 hw [] a h0 n0 Z0) hZ (hw _ (List.mem_of_getElem? (i := 10) rfl)) (hw _ (List.mem_of_getElem? (i := 9) rfl)) (by decide) (by decide)) (g := (mkF m 1 #[.val (.ref a), .val (.long x), .second, .val .null] [(.ref a)])) rfl (by rw [hml]; rfl) (Steps.refl _) (a := a) (argsL := []) (rest := []) (lenOf pd0 rfl) rfl (by show 2 * 0 + _ ≤ _; exact Nat.le_of_eq rfl) (hb hby d1_1) (fun _ _ => ⟨rfl, e0, (by decide : 0 + 0 ≤ _), (by decide : 0 + 0 ≤ _)⟩)
  dsimp only [Pt.U, Pt.locs, Pt.cells, Pt.slots] at X1 l1 y1 z1 st1 hQ1
  subst l1 y1 z1
  obtain ⟨rfl, N1, e1⟩ := hQ1
  have M1 := Fr.app N0 N1
  refine EndsK.tr st1 ?_
  show EndsK p e below _ (T1.setTop (mkF m 4 #[.val (.ref a), .val (.long x), .second, .val .null] []))
  refine EndsK.go (fun _ kz => XS.aloadN X1.here hx rfl (hb hby d1_4) rfl rfl kz) ?_
  show EndsK p e below _ (T1.setTop (mkF m 5 #[.val (.ref a), .val (.long x), .second, .val .null] [(.ref a)]))
  refine EndsK.go (fun _ kz => XS.lloadN X1.here hx rfl (hb hby d1_5) rfl kz) ?_
  show EndsK p e below _ (T1.setTop (mkF m 6 #[.val (.ref a), .val (.long x), .second, .val .null] [(.long x), (.ref a)]))
  obtain ⟨T2, h2, X2, e2, W2, st2⟩ := putF X1 hx hZ hown (host := "") (Or.inl (hw _ (List.mem_of_getElem? (i := 14) rfl))) Via.refl e1 Fa_version Ea (Or.inr ⟨(hw _ (List.mem_of_getElem? (i := 15) rfl)), rfl, hnm⟩) (hw _ (List.mem_of_getElem? (i := 1) rfl)) (ty := .long) (by decide) rfl rfl (g := (mkF m 6 #[.val (.ref a), .val (.long x), .second, .val .null] [(.long x), (.ref a)])) rfl rfl (hb hby d1_6)
  refine EndsK.go st2 ?_
  have N2 := Fr.snoc X2 M1 ga
  have E2_a := Ea.wr W2
  have F2_version := Fa_version.same W2
  have F2_range_a := Fa_range.other W2 (Or.inr (slot_ne (Or.inr (hw _ (List.mem_of_getElem? (i := 17) rfl))) (Or.inr (hw _ (List.mem_of_getElem? (i := 15) rfl))) (by decide) (t := (.object "com/example/update_by_version/updatebyversion/Marker$Range")) (t' := .long) (by decide) (by decide)))
  have Z2 : n0 ≤ h2.size := Nat.le_trans Z0 (Nat.le_of_eq W2.size.symm)
  have K2 := K0.wr W2 (Or.inl (List.mem_of_getElem? (i := 0) rfl))
  show EndsK p e below _ (T2.setTop (mkF m 9 #[.val (.ref a), .val (.long x), .second, .val .null] []))
  refine EndsK.go (fun _ kz => XS.aloadN X2.here hx rfl (hb hby d1_9) rfl rfl kz) ?_
  show EndsK p e below _ (T2.setTop (mkF m 10 #[.val (.ref a), .val (.long x), .second, .val .null] [(.ref a)]))
  refine EndsK.go (fun _ kz => XS.aloadN X2.here hx rfl (hb hby d1_10) rfl rfl kz) ?_
  show EndsK p e below _ (T2.setTop (mkF m 11 #[.val (.ref a), .val (.long x), .second, .val .null] [.null, (.ref a)]))
  obtain ⟨T3, h3, X3, e3, W3, st3⟩ := putF X2 hx hZ hown (host := "") (Or.inl (hw _ (List.mem_of_getElem? (i := 16) rfl))) Via.refl e2 F2_range_a E2_a (Or.inr ⟨(hw _ (List.mem_of_getElem? (i := 17) rfl)), rfl, hnm⟩) (hw _ (List.mem_of_getElem? (i := 1) rfl)) (ty := (.object "com/example/update_by_version/updatebyversion/Marker$Range")) (by decide) rfl rfl (g := (mkF m 11 #[.val (.ref a), .val (.long x), .second, .val .null] [.null, (.ref a)])) rfl rfl (hb hby d1_11)
  refine EndsK.go st3 ?_
  have N3 := Fr.snoc X3 N2 ga
  have E3_a := E2_a.wr W3
  have F3_version_a := F2_version.other W3 (Or.inr (slot_ne (Or.inr (hw _ (List.mem_of_getElem? (i := 15) rfl))) (Or.inr (hw _ (List.mem_of_getElem? (i := 17) rfl))) (by decide) (t := .long) (t' := (.object "com/example/update_by_version/updatebyversion/Marker$Range")) (by decide) (by decide)))
  have F3_range := F2_range_a.same W3
  have Z3 : n0 ≤ h3.size := Nat.le_trans Z2 (Nat.le_of_eq W3.size.symm)
  have K3 := K2.wr W3 (Or.inl (List.mem_of_getElem? (i := 0) rfl))
  show EndsK p e below _ (T3.setTop (mkF m 14 #[.val (.ref a), .val (.long x), .second, .val .null] []))
  exact endV X3 hx Bd.returns (hb hby d1_14) hlk ⟨rfl, N3, by rw [e3]; exact K3, by rw [e3]; exact E3_a, by rw [e3]; exact F3_version_a, by rw [e3]; exact F3_range⟩ (by decide) (by decide)
theorem ef_viR (m : MethodId) (a : Addr) (x : Int64) (b : Addr) : entryFrame m #[(.ref a), (.long x), (.ref b)] 4 = mkF m 0 #[.val (.ref a), .val (.long x), .second, .val (.ref b)] [] := by first | (simp [entryFrame, mkF, argsToLocals, Value.category]; done) | rfl
def Q_viR (Z : State) (a : Addr) (x : Int64) (b : Addr) (h0 : Heap) (n0 : Nat) (vz : Option Value) (hz : Heap) (Lz : List Loc) : Prop := vz = none ∧ Fr n0 Lz ∧ Keep h0 hz [a] ∧ Exa Z hz a "com/example/update_by_version/updatebyversion/Marker$Version" ∧ Fld Z hz a "com/example/update_by_version/updatebyversion/Marker$Version" "version" "J" (.long x) ∧ Fld Z hz a "com/example/update_by_version/updatebyversion/Marker$Version" "range" "Lcom/example/update_by_version/updatebyversion/Marker$Range;" (.ref b)
set_option maxRecDepth 65536 in
set_option maxHeartbeats 40000000 in
theorem rm_viR (l : Launch) (Z : State) (a0 : Array Value) (hw : ∀ d ∈ tables_1, d.before a0 Z = true) (ws : List Jvm.Cond) (a : Addr) (x : Int64) (b : Addr) (h0 : Heap) (n0 : Nat) (Z0 : n0 ≤ h0.size) (ga : n0 ≤ a) (Ea : Exa Z h0 a "com/example/update_by_version/updatebyversion/Marker$Version") (Fa_version : Fld Z h0 a "com/example/update_by_version/updatebyversion/Marker$Version" "version" "J" (.long (0 : Int64))) (Fa_range : Fld Z h0 a "com/example/update_by_version/updatebyversion/Marker$Version" "range" "Lcom/example/update_by_version/updatebyversion/Marker$Range;" .null) :
    MetFree l (⟨"com/example/update_by_version/updatebyversion/Marker$Version", "<init>", "(JLcom/example/update_by_version/updatebyversion/Marker$Range;)V"⟩ : MethodName) (head1 (Jvm.Cond.code (⟨"com/example/update_by_version/updatebyversion/Marker$Version", "<init>", "(JLcom/example/update_by_version/updatebyversion/Marker$Range;)V"⟩ : MethodName) prog_30_method_1_code 4 none :: ws) ({ frames := 2, cells := 0, slots := 0, locals := 24 } : Room)) (fun az Uz => az = #[(.ref a), (.long x), (.ref b)] ∧ Z.Warmed39 Uz.vm ∧ Uz.heap = h0) (fun _ _ _ _ _ => True) (fun _ Uz oz Ut => ∃ vz Lz, oz = .returned vz ∧ Q_viR Z a x b h0 n0 vz Ut.heap Lz ∧ FrameEnd Uz oz Ut Lz (({ frames := 2, cells := 0, slots := 0, locals := 24 } : Room)).cells (({ frames := 2, cells := 0, slots := 0, locals := 24 } : Room)).slots) := by
  refine MetFree.of_bodySF (plainFor_of_name pn5) hisR ?_
  intro p e s m args below meth c s₁ Bd hml0 hP hK
  obtain ⟨rfl, hZ, hh⟩ := hP
  have hx := Bd.exec
  have hby := Bd.bytes
  have hml : c.maxLocals = 4 := hml0
  have hown : s.vm.findClass "com/example/update_by_version/updatebyversion/Marker$Version" = some m.cls := findClass_of_methodNamed Bd.named
  have hnm := (name_of_methodNamed Bd.named Bd.method).1
  have hlk : meth.locks = false := Bd.notSynchronized
  have X0 : Stand p l e ({ frames := 2, cells := 0, slots := 0, locals := 24 } : Room) s m #[(.ref a), (.long x), (.ref b)] below meth c s₁ [] 0 0 := Stand.of_body Bd
  have e0 : s₁.heap = h0 := by rw [← hh, Bd.state]; rfl
  have N0 := Fr.nil n0
  show EndsK p e below (OQ s (Q_viR Z a x b h0 n0) (({ frames := 2, cells := 0, slots := 0, locals := 24 } : Room)).cells (({ frames := 2, cells := 0, slots := 0, locals := 24 } : Room)).slots) (s₁.setTop (entryFrame m #[(.ref a), (.long x), (.ref b)] 4))
  refine EndsK.start (ef_viR m a x b) ?_
  have K0 : Keep h0 h0 [a] := Keep.refl _ _
  show EndsK p e below _ (s₁.setTop (mkF m 0 #[.val (.ref a), .val (.long x), .second, .val (.ref b)] []))
  refine EndsK.go (fun _ kz => XS.aloadN X0.here hx rfl (hb hby d1_0) rfl rfl kz) ?_
  show EndsK p e below _ (s₁.setTop (mkF m 1 #[.val (.ref a), .val (.long x), .second, .val (.ref b)] [(.ref a)]))
  obtain ⟨_, _, ⟨T1, L1, k1, n1⟩, -, X1, ⟨Lc1, hQ1, l1, y1, z1⟩, st1⟩ := X0.specialBack hx (y := (⟨"java/lang/Record", "<init>", "()V"⟩ : MethodName)) rfl hown (mvT hZ (hw _ (List.mem_of_getElem? (i := 6) rfl))) (mvT hZ (hw _ (List.mem_of_getElem? (i := 7) rfl))) (mvT hZ (hw _ (List.mem_of_getElem? (i := 10) rfl))) (by decide) (backOf (W := 0) (rm_rec l Z a0 hw [] a h0 n0 Z0) hZ (hw _ (List.mem_of_getElem? (i := 10) rfl)) (hw _ (List.mem_of_getElem? (i := 9) rfl)) (by decide) (by decide)) (g := (mkF m 1 #[.val (.ref a), .val (.long x), .second, .val (.ref b)] [(.ref a)])) rfl (by rw [hml]; rfl) (Steps.refl _) (a := a) (argsL := []) (rest := []) (lenOf pd0 rfl) rfl (by show 2 * 0 + _ ≤ _; exact Nat.le_of_eq rfl) (hb hby d1_1) (fun _ _ => ⟨rfl, e0, (by decide : 0 + 0 ≤ _), (by decide : 0 + 0 ≤ _)⟩)
  dsimp only [Pt.U, Pt.locs, Pt.cells, Pt.slots] at X1 l1 y1 z1 st1 hQ1
  subst l1 y1 z1
  obtain ⟨rfl, N1, e1⟩ := hQ1
  have M1 := Fr.app N0 N1
  refine EndsK.tr st1 ?_
  show EndsK p e below _ (T1.setTop (mkF m 4 #[.val (.ref a), .val (.long x), .second, .val (.ref b)] []))
  refine EndsK.go (fun _ kz => XS.aloadN X1.here hx rfl (hb hby d1_4) rfl rfl kz) ?_
  show EndsK p e below _ (T1.setTop (mkF m 5 #[.val (.ref a), .val (.long x), .second, .val (.ref b)] [(.ref a)]))
  refine EndsK.go (fun _ kz => XS.lloadN X1.here hx rfl (hb hby d1_5) rfl kz) ?_
  show EndsK p e below _ (T1.setTop (mkF m 6 #[.val (.ref a), .val (.long x), .second, .val (.ref b)] [(.long x), (.ref a)]))
  obtain ⟨T2, h2, X2, e2, W2, st2⟩ := putF X1 hx hZ hown (host := "") (Or.inl (hw _ (List.mem_of_getElem? (i := 14) rfl))) Via.refl e1 Fa_version Ea (Or.inr ⟨(hw _ (List.mem_of_getElem? (i := 15) rfl)), rfl, hnm⟩) (hw _ (List.mem_of_getElem? (i := 1) rfl)) (ty := .long) (by decide) rfl rfl (g := (mkF m 6 #[.val (.ref a), .val (.long x), .second, .val (.ref b)] [(.long x), (.ref a)])) rfl rfl (hb hby d1_6)
  refine EndsK.go st2 ?_
  have N2 := Fr.snoc X2 M1 ga
  have E2_a := Ea.wr W2
  have F2_version := Fa_version.same W2
  have F2_range_a := Fa_range.other W2 (Or.inr (slot_ne (Or.inr (hw _ (List.mem_of_getElem? (i := 17) rfl))) (Or.inr (hw _ (List.mem_of_getElem? (i := 15) rfl))) (by decide) (t := (.object "com/example/update_by_version/updatebyversion/Marker$Range")) (t' := .long) (by decide) (by decide)))
  have Z2 : n0 ≤ h2.size := Nat.le_trans Z0 (Nat.le_of_eq W2.size.symm)
  have K2 := K0.wr W2 (Or.inl (List.mem_of_getElem? (i := 0) rfl))
  show EndsK p e below _ (T2.setTop (mkF m 9 #[.val (.ref a), .val (.long x), .second, .val (.ref b)] []))
  refine EndsK.go (fun _ kz => XS.aloadN X2.here hx rfl (hb hby d1_9) rfl rfl kz) ?_
  show EndsK p e below _ (T2.setTop (mkF m 10 #[.val (.ref a), .val (.long x), .second, .val (.ref b)] [(.ref a)]))
  refine EndsK.go (fun _ kz => XS.aloadN X2.here hx rfl (hb hby d1_10) rfl rfl kz) ?_
  show EndsK p e below _ (T2.setTop (mkF m 11 #[.val (.ref a), .val (.long x), .second, .val (.ref b)] [(.ref b), (.ref a)]))
  obtain ⟨T3, h3, X3, e3, W3, st3⟩ := putF X2 hx hZ hown (host := "") (Or.inl (hw _ (List.mem_of_getElem? (i := 16) rfl))) Via.refl e2 F2_range_a E2_a (Or.inr ⟨(hw _ (List.mem_of_getElem? (i := 17) rfl)), rfl, hnm⟩) (hw _ (List.mem_of_getElem? (i := 1) rfl)) (ty := (.object "com/example/update_by_version/updatebyversion/Marker$Range")) (by decide) rfl rfl (g := (mkF m 11 #[.val (.ref a), .val (.long x), .second, .val (.ref b)] [(.ref b), (.ref a)])) rfl rfl (hb hby d1_11)
  refine EndsK.go st3 ?_
  have N3 := Fr.snoc X3 N2 ga
  have E3_a := E2_a.wr W3
  have F3_version_a := F2_version.other W3 (Or.inr (slot_ne (Or.inr (hw _ (List.mem_of_getElem? (i := 15) rfl))) (Or.inr (hw _ (List.mem_of_getElem? (i := 17) rfl))) (by decide) (t := .long) (t' := (.object "com/example/update_by_version/updatebyversion/Marker$Range")) (by decide) (by decide)))
  have F3_range := F2_range_a.same W3
  have Z3 : n0 ≤ h3.size := Nat.le_trans Z2 (Nat.le_of_eq W3.size.symm)
  have K3 := K2.wr W3 (Or.inl (List.mem_of_getElem? (i := 0) rfl))
  show EndsK p e below _ (T3.setTop (mkF m 14 #[.val (.ref a), .val (.long x), .second, .val (.ref b)] []))
  exact endV X3 hx Bd.returns (hb hby d1_14) hlk ⟨rfl, N3, by rw [e3]; exact K3, by rw [e3]; exact E3_a, by rw [e3]; exact F3_version_a, by rw [e3]; exact F3_range⟩ (by decide) (by decide)
theorem d7_0 : decode jdk_35_method_24_code 0 = .ok (.sipush 128, 3) := by decide +kernel
theorem d7_3 : decode jdk_35_method_24_code 3 = .ok (.istore_n 2, 1) := by decide +kernel
theorem d7_4 : decode jdk_35_method_24_code 4 = .ok (.lload_n 0, 1) := by decide +kernel
theorem d7_5 : decode jdk_35_method_24_code 5 = .ok (.ldc2_w 230, 3) := by decide +kernel
theorem d7_8 : decode jdk_35_method_24_code 8 = .ok (.lcmp, 1) := by decide +kernel
theorem d7_9 : decode jdk_35_method_24_code 9 = .ok (.ifCond .lt 22, 3) := by decide +kernel
theorem d7_12 : decode jdk_35_method_24_code 12 = .ok (.lload_n 0, 1) := by decide +kernel
theorem d7_13 : decode jdk_35_method_24_code 13 = .ok (.ldc2_w 232, 3) := by decide +kernel
theorem d7_16 : decode jdk_35_method_24_code 16 = .ok (.lcmp, 1) := by decide +kernel
theorem d7_17 : decode jdk_35_method_24_code 17 = .ok (.ifCond .gt 14, 3) := by decide +kernel
theorem d7_20 : decode jdk_35_method_24_code 20 = .ok (.getstatic 234, 3) := by decide +kernel
theorem d7_23 : decode jdk_35_method_24_code 23 = .ok (.lload_n 0, 1) := by decide +kernel
theorem d7_24 : decode jdk_35_method_24_code 24 = .ok (.l2i, 1) := by decide +kernel
theorem d7_25 : decode jdk_35_method_24_code 25 = .ok (.sipush 128, 3) := by decide +kernel
theorem d7_28 : decode jdk_35_method_24_code 28 = .ok (.iadd, 1) := by decide +kernel
theorem d7_29 : decode jdk_35_method_24_code 29 = .ok (.aaload, 1) := by decide +kernel
theorem d7_30 : decode jdk_35_method_24_code 30 = .ok (.areturn, 1) := by decide +kernel
theorem d7_31 : decode jdk_35_method_24_code 31 = .ok (.new 1, 3) := by decide +kernel
theorem d7_34 : decode jdk_35_method_24_code 34 = .ok (.dup, 1) := by decide +kernel
theorem d7_35 : decode jdk_35_method_24_code 35 = .ok (.lload_n 0, 1) := by decide +kernel
theorem d7_36 : decode jdk_35_method_24_code 36 = .ok (.invokespecial 240, 3) := by decide +kernel
theorem d7_39 : decode jdk_35_method_24_code 39 = .ok (.areturn, 1) := by decide +kernel
theorem ef_lv (m : MethodId) (x : Int64) (ca : Addr) (cl : Cell) : entryFrame m #[(.long x)] 3 = mkF m 0 #[.val (.long x), .second, .unset] [] := by first | (simp [entryFrame, mkF, argsToLocals, Value.category]; done) | rfl
def Q_lv (Z : State) (x : Int64) (ca : Addr) (cl : Cell) (h0 : Heap) (n0 : Nat) (vz : Option Value) (hz : Heap) (Lz : List Loc) : Prop := ∃ b, vz = some (.ref b) ∧ Fr n0 Lz ∧ Ext h0 hz ∧ Exa Z hz b "java/lang/Long"
theorem pd1 : parseMethodDescriptor "(J)V" = some ⟨[.long], none⟩ := by decide +kernel
set_option maxRecDepth 65536 in
set_option maxHeartbeats 40000000 in
theorem rm_lv (l : Launch) (Z : State) (a0 : Array Value) (hw : ∀ d ∈ tables_1, d.before a0 Z = true) (ws : List Jvm.Cond) (x : Int64) (ca : Addr) (cl : Cell) (h0 : Heap) (n0 : Nat) (Z0 : n0 ≤ h0.size) (SC : Sta Z h0 "java/lang/Long$LongCache" "cache" "[Ljava/lang/Long;" (.ref ca)) (AC : Arr Z h0 ca cl (.object "java/lang/Long")) (hsz : cl.slots.size = 256) (hC : ∀ j : Int32, ¬ (j < 0 ∨ cl.slots.size ≤ j.toNatClampNeg) → ∃ b, cl.slots[j.toNatClampNeg]? = some (.ref b) ∧ Exa Z h0 b "java/lang/Long") :
    MetFree l (⟨"java/lang/Long", "valueOf", "(J)Ljava/lang/Long;"⟩ : MethodName) (head1 (Jvm.Cond.code (⟨"java/lang/Long", "valueOf", "(J)Ljava/lang/Long;"⟩ : MethodName) jdk_35_method_24_code 3 (some (.object "java/lang/Long")) :: ws) ({ frames := 3, cells := 1, slots := 1, locals := 39 } : Room)) (fun az Uz => az = #[(.long x)] ∧ Z.Warmed39 Uz.vm ∧ Uz.heap = h0) (fun _ _ _ _ _ => True) (fun _ Uz oz Ut => ∃ vz Lz, oz = .returned vz ∧ Q_lv Z x ca cl h0 n0 vz Ut.heap Lz ∧ FrameEnd Uz oz Ut Lz (({ frames := 3, cells := 1, slots := 1, locals := 39 } : Room)).cells (({ frames := 3, cells := 1, slots := 1, locals := 39 } : Room)).slots) := by
  refine MetFree.of_bodySF (plainFor_of_name pn4) hisR ?_
  intro p e s m args below meth c s₁ Bd hml0 hP hK
  obtain ⟨rfl, hZ, hh⟩ := hP
  have hx := Bd.exec
  have hby := Bd.bytes
  have hml : c.maxLocals = 3 := hml0
  have hown : s.vm.findClass "java/lang/Long" = some m.cls := findClass_of_methodNamed Bd.named
  have hnm := (name_of_methodNamed Bd.named Bd.method).1
  have hlk : meth.locks = false := Bd.notSynchronized
  have X0 : Stand p l e ({ frames := 3, cells := 1, slots := 1, locals := 39 } : Room) s m #[(.long x)] below meth c s₁ [] 0 0 := Stand.of_body Bd
  have e0 : s₁.heap = h0 := by rw [← hh, Bd.state]; rfl
  have N0 := Fr.nil n0
  show EndsK p e below (OQ s (Q_lv Z x ca cl h0 n0) (({ frames := 3, cells := 1, slots := 1, locals := 39 } : Room)).cells (({ frames := 3, cells := 1, slots := 1, locals := 39 } : Room)).slots) (s₁.setTop (entryFrame m #[(.long x)] 3))
  refine EndsK.start (ef_lv m x ca cl) ?_
  have P0 := ext_refl h0
  show EndsK p e below _ (s₁.setTop (mkF m 0 #[.val (.long x), .second, .unset] []))
  refine EndsK.go (fun _ kz => XS.sipush X0.here hx rfl (hb hby d7_0) kz) ?_
  show EndsK p e below _ (s₁.setTop (mkF m 3 #[.val (.long x), .second, .unset] [(.int (128 : Int32))]))
  refine EndsK.go (fun _ kz => XS.istoreN X0.here hx rfl (hb hby d7_3) rfl (l' := #[.val (.long x), .second, .val (.int (128 : Int32))]) rfl kz) ?_
  show EndsK p e below _ (s₁.setTop (mkF m 4 #[.val (.long x), .second, .val (.int (128 : Int32))] []))
  refine EndsK.go (fun _ kz => XS.lloadN X0.here hx rfl (hb hby d7_4) rfl kz) ?_
  show EndsK p e below _ (s₁.setTop (mkF m 5 #[.val (.long x), .second, .val (.int (128 : Int32))] [(.long x)]))
  refine EndsK.go (fun _ kz => X0.ldc2J hx hown (mvT hZ (hw _ (List.mem_of_getElem? (i := 52) rfl))) rfl (hb hby d7_5) kz) ?_
  show EndsK p e below _ (s₁.setTop (mkF m 8 #[.val (.long x), .second, .val (.int (128 : Int32))] [(.long (-128 : Int64)), (.long x)]))
  refine EndsK.go (fun _ kz => XS.lcmp X0.here hx rfl (hb hby d7_8) rfl kz) ?_
  show EndsK p e below _ (s₁.setTop (mkF m 9 #[.val (.long x), .second, .val (.int (128 : Int32))] [(.int (lcmpW x (-128 : Int64)))]))
  by_cases H9_1 : (lcmpW x (-128 : Int64)) < (0 : Int32)
  · refine EndsK.go (fun _ kz => XS.ifYes X0.here hx rfl (pc0 := 9) (pc' := 31) rfl (hb hby d7_9) rfl ((if0 _ _).trans (tlt H9_1).1) (by decide) (by decide) kz) ?_
    show EndsK p e below _ (s₁.setTop (mkF m 31 #[.val (.long x), .second, .val (.int (128 : Int32))] []))
    obtain ⟨T2, h2, X2, e2, E2, A2, D2, -, st2⟩ := newO X0 hx hZ hown (hw _ (List.mem_of_getElem? (i := 54) rfl)) (hw _ (List.mem_of_getElem? (i := 55) rfl)) (hw _ (List.mem_of_getElem? (i := 50) rfl)) e0 (g := (mkF m 31 #[.val (.long x), .second, .val (.int (128 : Int32))] [])) rfl (hb hby d7_31) (by decide) (by decide)
    obtain ⟨a2, g2⟩ : ∃ z, z = h0.size := ⟨_, rfl⟩
    rw [← g2] at A2 D2 st2
    refine EndsK.go st2 ?_
    have A2_ca := AC.ext E2
    have F2_value : Fld Z h2 a2 "java/lang/Long" "value" "J" (.long (0 : Int64)) := D2 (Or.inr (hw _ (List.mem_of_getElem? (i := 68) rfl))) (ty := .long) (by decide)
    have Z2 : n0 ≤ h2.size := Nat.le_trans Z0 E2.1
    have G2 : n0 ≤ a2 := by rw [g2]; exact Z0
    have P2 := ext_trans P0 E2
    have sz_a2 : h0.size ≤ a2 := by rw [g2]; exact P0.1
    have ne_ca_a2 : ca ≠ a2 := Nat.ne_of_lt (by rw [g2]; exact AC.lt)
    show EndsK p e below _ (T2.setTop (mkF m 34 #[.val (.long x), .second, .val (.int (128 : Int32))] [(.ref a2)]))
    refine EndsK.go (fun _ kz => XS.dup X2.here hx rfl (hb hby d7_34) rfl rfl kz) ?_
    show EndsK p e below _ (T2.setTop (mkF m 35 #[.val (.long x), .second, .val (.int (128 : Int32))] [(.ref a2), (.ref a2)]))
    refine EndsK.go (fun _ kz => XS.lloadN X2.here hx rfl (hb hby d7_35) rfl kz) ?_
    show EndsK p e below _ (T2.setTop (mkF m 36 #[.val (.long x), .second, .val (.int (128 : Int32))] [(.long x), (.ref a2), (.ref a2)]))
    obtain ⟨_, _, ⟨T3, L3, k3, n3⟩, -, X3, ⟨Lc3, hQ3, l3, y3, z3⟩, st3⟩ := X2.specialBack hx (y := (⟨"java/lang/Long", "<init>", "(J)V"⟩ : MethodName)) rfl hown (mvT hZ (hw _ (List.mem_of_getElem? (i := 56) rfl))) (mvT hZ (hw _ (List.mem_of_getElem? (i := 57) rfl))) (mvT hZ (hw _ (List.mem_of_getElem? (i := 59) rfl))) (by decide) (backOf (W := 1) (rm_li l Z a0 hw [] a2 x h2 n0 Z2 G2 A2 F2_value) hZ (hw _ (List.mem_of_getElem? (i := 59) rfl)) (hw _ (List.mem_of_getElem? (i := 50) rfl)) (by decide) (by decide)) (g := (mkF m 36 #[.val (.long x), .second, .val (.int (128 : Int32))] [(.long x), (.ref a2), (.ref a2)])) rfl (by rw [hml]; rfl) (Steps.refl _) (a := a2) (argsL := [(.long x)]) (rest := [(.ref a2)]) (lenOf pd1 rfl) rfl (by show 2 * 0 + _ ≤ _; exact Nat.le_of_eq rfl) (hb hby d7_36) (fun _ _ => ⟨rfl, e2, (by decide : 0 + 1 + 0 ≤ _), (by decide : 0 + 1 + 0 ≤ _)⟩)
    dsimp only [Pt.U, Pt.locs, Pt.cells, Pt.slots] at X3 l3 y3 z3 st3 hQ3
    subst l3 y3 z3
    obtain ⟨rfl, N3, K3, E3, F3⟩ := hQ3
    have M3 := Fr.app N0 N3
    obtain ⟨h3, e3⟩ : ∃ z, T3.heap = z := ⟨_, rfl⟩
    rw [e3] at K3 E3 F3
    have P3 : Ext h0 h3 := ext_keep P2 K3 (allS (Nat.le_of_eq g2.symm) all0)
    refine EndsK.tr st3 ?_
    show EndsK p e below _ (T3.setTop (mkF m 39 #[.val (.long x), .second, .val (.int (128 : Int32))] [(.ref a2)]))
    exact endR X3 hx Bd.returns rfl rfl (hb hby d7_39) hlk ⟨a2, rfl, M3, by rw [e3]; exact P3, by rw [e3]; exact E3⟩ (by decide) (by decide)
  · refine EndsK.go (fun _ kz => XS.ifNo X0.here hx rfl (hb hby d7_9) rfl ((if0 _ _).trans (flt H9_1).1) kz) ?_
    show EndsK p e below _ (s₁.setTop (mkF m 12 #[.val (.long x), .second, .val (.int (128 : Int32))] []))
    refine EndsK.go (fun _ kz => XS.lloadN X0.here hx rfl (hb hby d7_12) rfl kz) ?_
    show EndsK p e below _ (s₁.setTop (mkF m 13 #[.val (.long x), .second, .val (.int (128 : Int32))] [(.long x)]))
    refine EndsK.go (fun _ kz => X0.ldc2J hx hown (mvT hZ (hw _ (List.mem_of_getElem? (i := 53) rfl))) rfl (hb hby d7_13) kz) ?_
    show EndsK p e below _ (s₁.setTop (mkF m 16 #[.val (.long x), .second, .val (.int (128 : Int32))] [(.long (127 : Int64)), (.long x)]))
    refine EndsK.go (fun _ kz => XS.lcmp X0.here hx rfl (hb hby d7_16) rfl kz) ?_
    show EndsK p e below _ (s₁.setTop (mkF m 17 #[.val (.long x), .second, .val (.int (128 : Int32))] [(.int (lcmpW x (127 : Int64)))]))
    by_cases H17_4 : (0 : Int32) < (lcmpW x (127 : Int64))
    · refine EndsK.go (fun _ kz => XS.ifYes X0.here hx rfl (pc0 := 17) (pc' := 31) rfl (hb hby d7_17) rfl ((if0 _ _).trans (tlt H17_4).2.2.1) (by decide) (by decide) kz) ?_
      show EndsK p e below _ (s₁.setTop (mkF m 31 #[.val (.long x), .second, .val (.int (128 : Int32))] []))
      obtain ⟨T5, h5, X5, e5, E5, A5, D5, -, st5⟩ := newO X0 hx hZ hown (hw _ (List.mem_of_getElem? (i := 54) rfl)) (hw _ (List.mem_of_getElem? (i := 55) rfl)) (hw _ (List.mem_of_getElem? (i := 50) rfl)) e0 (g := (mkF m 31 #[.val (.long x), .second, .val (.int (128 : Int32))] [])) rfl (hb hby d7_31) (by decide) (by decide)
      obtain ⟨a5, g5⟩ : ∃ z, z = h0.size := ⟨_, rfl⟩
      rw [← g5] at A5 D5 st5
      refine EndsK.go st5 ?_
      have A5_ca := AC.ext E5
      have F5_value : Fld Z h5 a5 "java/lang/Long" "value" "J" (.long (0 : Int64)) := D5 (Or.inr (hw _ (List.mem_of_getElem? (i := 68) rfl))) (ty := .long) (by decide)
      have Z5 : n0 ≤ h5.size := Nat.le_trans Z0 E5.1
      have G5 : n0 ≤ a5 := by rw [g5]; exact Z0
      have P5 := ext_trans P0 E5
      have sz_a5 : h0.size ≤ a5 := by rw [g5]; exact P0.1
      have ne_ca_a5 : ca ≠ a5 := Nat.ne_of_lt (by rw [g5]; exact AC.lt)
      show EndsK p e below _ (T5.setTop (mkF m 34 #[.val (.long x), .second, .val (.int (128 : Int32))] [(.ref a5)]))
      refine EndsK.go (fun _ kz => XS.dup X5.here hx rfl (hb hby d7_34) rfl rfl kz) ?_
      show EndsK p e below _ (T5.setTop (mkF m 35 #[.val (.long x), .second, .val (.int (128 : Int32))] [(.ref a5), (.ref a5)]))
      refine EndsK.go (fun _ kz => XS.lloadN X5.here hx rfl (hb hby d7_35) rfl kz) ?_
      show EndsK p e below _ (T5.setTop (mkF m 36 #[.val (.long x), .second, .val (.int (128 : Int32))] [(.long x), (.ref a5), (.ref a5)]))
      obtain ⟨_, _, ⟨T6, L6, k6, n6⟩, -, X6, ⟨Lc6, hQ6, l6, y6, z6⟩, st6⟩ := X5.specialBack hx (y := (⟨"java/lang/Long", "<init>", "(J)V"⟩ : MethodName)) rfl hown (mvT hZ (hw _ (List.mem_of_getElem? (i := 56) rfl))) (mvT hZ (hw _ (List.mem_of_getElem? (i := 57) rfl))) (mvT hZ (hw _ (List.mem_of_getElem? (i := 59) rfl))) (by decide) (backOf (W := 1) (rm_li l Z a0 hw [] a5 x h5 n0 Z5 G5 A5 F5_value) hZ (hw _ (List.mem_of_getElem? (i := 59) rfl)) (hw _ (List.mem_of_getElem? (i := 50) rfl)) (by decide) (by decide)) (g := (mkF m 36 #[.val (.long x), .second, .val (.int (128 : Int32))] [(.long x), (.ref a5), (.ref a5)])) rfl (by rw [hml]; rfl) (Steps.refl _) (a := a5) (argsL := [(.long x)]) (rest := [(.ref a5)]) (lenOf pd1 rfl) rfl (by show 2 * 0 + _ ≤ _; exact Nat.le_of_eq rfl) (hb hby d7_36) (fun _ _ => ⟨rfl, e5, (by decide : 0 + 1 + 0 ≤ _), (by decide : 0 + 1 + 0 ≤ _)⟩)
      dsimp only [Pt.U, Pt.locs, Pt.cells, Pt.slots] at X6 l6 y6 z6 st6 hQ6
      subst l6 y6 z6
      obtain ⟨rfl, N6, K6, E6, F6⟩ := hQ6
      have M6 := Fr.app N0 N6
      obtain ⟨h6, e6⟩ : ∃ z, T6.heap = z := ⟨_, rfl⟩
      rw [e6] at K6 E6 F6
      have P6 : Ext h0 h6 := ext_keep P5 K6 (allS (Nat.le_of_eq g5.symm) all0)
      refine EndsK.tr st6 ?_
      show EndsK p e below _ (T6.setTop (mkF m 39 #[.val (.long x), .second, .val (.int (128 : Int32))] [(.ref a5)]))
      exact endR X6 hx Bd.returns rfl rfl (hb hby d7_39) hlk ⟨a5, rfl, M6, by rw [e6]; exact P6, by rw [e6]; exact E6⟩ (by decide) (by decide)
    · refine EndsK.go (fun _ kz => XS.ifNo X0.here hx rfl (hb hby d7_17) rfl ((if0 _ _).trans (flt H17_4).2.2.1) kz) ?_
      show EndsK p e below _ (s₁.setTop (mkF m 20 #[.val (.long x), .second, .val (.int (128 : Int32))] []))
      obtain ⟨T7, X7, e7, st7⟩ := getS2 X0 hx hZ hown (host := "") (Or.inl (hw _ (List.mem_of_getElem? (i := 71) rfl))) Via.refl e0 (SC.ext P0) (g := (mkF m 20 #[.val (.long x), .second, .val (.int (128 : Int32))] [])) rfl (hb hby d7_20)
      refine EndsK.go st7 ?_
      show EndsK p e below _ (T7.setTop (mkF m 23 #[.val (.long x), .second, .val (.int (128 : Int32))] [(.ref ca)]))
      refine EndsK.go (fun _ kz => XS.lloadN X7.here hx rfl (hb hby d7_23) rfl kz) ?_
      show EndsK p e below _ (T7.setTop (mkF m 24 #[.val (.long x), .second, .val (.int (128 : Int32))] [(.long x), (.ref ca)]))
      refine EndsK.go (fun _ kz => XS.l2i X7.here hx rfl (hb hby d7_24) rfl kz) ?_
      show EndsK p e below _ (T7.setTop (mkF m 25 #[.val (.long x), .second, .val (.int (128 : Int32))] [(.int x.toInt32), (.ref ca)]))
      refine EndsK.go (fun _ kz => XS.sipush X7.here hx rfl (hb hby d7_25) kz) ?_
      show EndsK p e below _ (T7.setTop (mkF m 28 #[.val (.long x), .second, .val (.int (128 : Int32))] [(.int (128 : Int32)), (.int x.toInt32), (.ref ca)]))
      refine EndsK.go (fun _ kz => XS.iadd X7.here hx rfl (hb hby d7_28) rfl kz) ?_
      show EndsK p e below _ (T7.setTop (mkF m 29 #[.val (.long x), .second, .val (.int (128 : Int32))] [(.int (x.toInt32 + (128 : Int32))), (.ref ca)]))
      have hjz : ¬ ((x.toInt32 + (128 : Int32)) < 0 ∨ cl.slots.size ≤ (x.toInt32 + (128 : Int32)).toNatClampNeg) := by rw [hsz]; exact (Jvm.Free.LongBox.place_okL x (fun q => H9_1 ((lw_lt _ _).mpr q)) (fun q => H17_4 ((lw_gt _ _).mpr q))).1
      obtain ⟨bz, hbz⟩ := hC _ hjz
      show EndsK p e below _ (T7.setTop (mkF m 29 #[.val (.long x), .second, .val (.int (128 : Int32))] [(.int (x.toInt32 + (128 : Int32))), (.ref ca)]))
      refine EndsK.go (fun tz kz => X7.aaload hx (j := (x.toInt32 + (128 : Int32))) (v := (.ref bz)) (by rw [e7]; exact AC.1) (State.isArrayOf_alike hZ.alike AC.2.1) rfl AC.2.2 hjz hbz.1 (g := (mkF m 29 #[.val (.long x), .second, .val (.int (128 : Int32))] [(.int (x.toInt32 + (128 : Int32))), (.ref ca)])) rfl rfl (hb hby d7_29) tz kz) ?_
      show EndsK p e below _ (T7.setTop (mkF m 30 #[.val (.long x), .second, .val (.int (128 : Int32))] [(.ref bz)]))
      exact endR X7 hx Bd.returns rfl rfl (hb hby d7_30) hlk ⟨bz, rfl, N0, by rw [e7]; exact ext_refl _, by rw [e7]; exact hbz.2⟩ (by decide) (by decide)
theorem d4_0 : decode prog_30_method_6_code 0 = .ok (.aload_n 1, 1) := by decide +kernel
theorem d4_1 : decode prog_30_method_6_code 1 = .ok (.instanceof 8, 3) := by decide +kernel
theorem d4_4 : decode prog_30_method_6_code 4 = .ok (.ifCond .eq 24, 3) := by decide +kernel
theorem d4_7 : decode prog_30_method_6_code 7 = .ok (.aload_n 1, 1) := by decide +kernel
theorem d4_8 : decode prog_30_method_6_code 8 = .ok (.checkcast 8, 3) := by decide +kernel
theorem d4_11 : decode prog_30_method_6_code 11 = .ok (.astore_n 2, 1) := by decide +kernel
theorem d4_12 : decode prog_30_method_6_code 12 = .ok (.aload_n 0, 1) := by decide +kernel
theorem d4_13 : decode prog_30_method_6_code 13 = .ok (.getfield 7, 3) := by decide +kernel
theorem d4_16 : decode prog_30_method_6_code 16 = .ok (.aload_n 2, 1) := by decide +kernel
theorem d4_17 : decode prog_30_method_6_code 17 = .ok (.getfield 7, 3) := by decide +kernel
theorem d4_20 : decode prog_30_method_6_code 20 = .ok (.lcmp, 1) := by decide +kernel
theorem d4_21 : decode prog_30_method_6_code 21 = .ok (.ifCond .ne 7, 3) := by decide +kernel
theorem d4_24 : decode prog_30_method_6_code 24 = .ok (.iconst 1, 1) := by decide +kernel
theorem d4_25 : decode prog_30_method_6_code 25 = .ok (.goto 4, 3) := by decide +kernel
theorem d4_28 : decode prog_30_method_6_code 28 = .ok (.iconst 0, 1) := by decide +kernel
theorem d4_29 : decode prog_30_method_6_code 29 = .ok (.ireturn, 1) := by decide +kernel
theorem ef_eqN (m : MethodId) (a : Addr) (x : Int64) : entryFrame m #[(.ref a), .null] 3 = mkF m 0 #[.val (.ref a), .val .null, .unset] [] := by first | (simp [entryFrame, mkF, argsToLocals, Value.category]; done) | rfl
def Q_eqN (Z : State) (a : Addr) (x : Int64) (h0 : Heap) (n0 : Nat) (vz : Option Value) (hz : Heap) (Lz : List Loc) : Prop := vz = some (.int 0) ∧ Fr n0 Lz ∧ hz = h0
set_option maxRecDepth 65536 in
set_option maxHeartbeats 40000000 in
theorem rm_eqN (l : Launch) (Z : State) (a0 : Array Value) (hw : ∀ d ∈ tables_1, d.before a0 Z = true) (ws : List Jvm.Cond) (a : Addr) (x : Int64) (h0 : Heap) (n0 : Nat) (Z0 : n0 ≤ h0.size) (Fa : Fld Z h0 a "com/example/update_by_version/updatebyversion/Marker$Version" "version" "J" (.long x)) (Ea : Exa Z h0 a "com/example/update_by_version/updatebyversion/Marker$Version") :
    MetFree l (⟨"com/example/update_by_version/updatebyversion/Marker$Version", "equals", "(Ljava/lang/Object;)Z"⟩ : MethodName) (head1 (Jvm.Cond.code (⟨"com/example/update_by_version/updatebyversion/Marker$Version", "equals", "(Ljava/lang/Object;)Z"⟩ : MethodName) prog_30_method_6_code 3 (some .boolean) :: ws) ({ frames := 0, cells := 0, slots := 0, locals := 0 } : Room)) (fun az Uz => az = #[(.ref a), .null] ∧ Z.Warmed39 Uz.vm ∧ Uz.heap = h0) (fun _ _ _ _ _ => True) (fun _ Uz oz Ut => ∃ vz Lz, oz = .returned vz ∧ Q_eqN Z a x h0 n0 vz Ut.heap Lz ∧ FrameEnd Uz oz Ut Lz (({ frames := 0, cells := 0, slots := 0, locals := 0 } : Room)).cells (({ frames := 0, cells := 0, slots := 0, locals := 0 } : Room)).slots) := by
  refine MetFree.of_bodySF (plainFor_of_name pn5) hisR ?_
  intro p e s m args below meth c s₁ Bd hml0 hP hK
  obtain ⟨rfl, hZ, hh⟩ := hP
  have hx := Bd.exec
  have hby := Bd.bytes
  have hml : c.maxLocals = 3 := hml0
  have hown : s.vm.findClass "com/example/update_by_version/updatebyversion/Marker$Version" = some m.cls := findClass_of_methodNamed Bd.named
  have hnm := (name_of_methodNamed Bd.named Bd.method).1
  have hlk : meth.locks = false := Bd.notSynchronized
  have X0 : Stand p l e ({ frames := 0, cells := 0, slots := 0, locals := 0 } : Room) s m #[(.ref a), .null] below meth c s₁ [] 0 0 := Stand.of_body Bd
  have e0 : s₁.heap = h0 := by rw [← hh, Bd.state]; rfl
  have N0 := Fr.nil n0
  show EndsK p e below (OQ s (Q_eqN Z a x h0 n0) (({ frames := 0, cells := 0, slots := 0, locals := 0 } : Room)).cells (({ frames := 0, cells := 0, slots := 0, locals := 0 } : Room)).slots) (s₁.setTop (entryFrame m #[(.ref a), .null] 3))
  refine EndsK.start (ef_eqN m a x) ?_
  show EndsK p e below _ (s₁.setTop (mkF m 0 #[.val (.ref a), .val .null, .unset] []))
  refine EndsK.go (fun _ kz => XS.aloadN X0.here hx rfl (hb hby d4_0) rfl rfl kz) ?_
  show EndsK p e below _ (s₁.setTop (mkF m 1 #[.val (.ref a), .val .null, .unset] [.null]))
  refine EndsK.go (X0.instanceofNull hx (g := (mkF m 1 #[.val (.ref a), .val .null, .unset] [.null])) rfl rfl (hb hby d4_1)) ?_
  show EndsK p e below _ (s₁.setTop (mkF m 4 #[.val (.ref a), .val .null, .unset] [(.int (0 : Int32))]))
  refine EndsK.go (fun _ kz => XS.ifYes X0.here hx rfl (pc0 := 4) (pc' := 28) rfl (hb hby d4_4) rfl ((if0 _ _).trans (teq (rfl : (0 : Int32) = (0 : Int32))).1) (by decide) (by decide) kz) ?_
  show EndsK p e below _ (s₁.setTop (mkF m 28 #[.val (.ref a), .val .null, .unset] []))
  refine EndsK.go (fun _ kz => XS.iconst X0.here hx rfl (hb hby d4_28) kz) ?_
  show EndsK p e below _ (s₁.setTop (mkF m 29 #[.val (.ref a), .val .null, .unset] [(.int (0 : Int32))]))
  exact endN X0 hx (t := .boolean) Bd.returns (by simp) (hb hby d4_29) hlk ⟨rfl, N0, e0⟩ (by decide) (by decide)
theorem ef_eqO (m : MethodId) (a : Addr) (x : Int64) (b : Addr) (C : String) : entryFrame m #[(.ref a), (.ref b)] 3 = mkF m 0 #[.val (.ref a), .val (.ref b), .unset] [] := by first | (simp [entryFrame, mkF, argsToLocals, Value.category]; done) | rfl
def Q_eqO (Z : State) (a : Addr) (x : Int64) (b : Addr) (C : String) (h0 : Heap) (n0 : Nat) (vz : Option Value) (hz : Heap) (Lz : List Loc) : Prop := vz = some (.int 0) ∧ Fr n0 Lz ∧ hz = h0
set_option maxRecDepth 65536 in
set_option maxHeartbeats 40000000 in
theorem rm_eqO (l : Launch) (Z : State) (a0 : Array Value) (hw : ∀ d ∈ tables_1, d.before a0 Z = true) (ws : List Jvm.Cond) (a : Addr) (x : Int64) (b : Addr) (C : String) (h0 : Heap) (n0 : Nat) (Z0 : n0 ≤ h0.size) (Fa : Fld Z h0 a "com/example/update_by_version/updatebyversion/Marker$Version" "version" "J" (.long x)) (Ea : Exa Z h0 a "com/example/update_by_version/updatebyversion/Marker$Version") (Eb : Exa Z h0 b C) (no : ∃ c t, Z.vm.findClass C = some c ∧ Z.vm.findClass "com/example/update_by_version/updatebyversion/Marker$Version" = some t ∧ Z.vm.assignable c t = false) :
    MetFree l (⟨"com/example/update_by_version/updatebyversion/Marker$Version", "equals", "(Ljava/lang/Object;)Z"⟩ : MethodName) (head1 (Jvm.Cond.code (⟨"com/example/update_by_version/updatebyversion/Marker$Version", "equals", "(Ljava/lang/Object;)Z"⟩ : MethodName) prog_30_method_6_code 3 (some .boolean) :: ws) ({ frames := 0, cells := 0, slots := 0, locals := 0 } : Room)) (fun az Uz => az = #[(.ref a), (.ref b)] ∧ Z.Warmed39 Uz.vm ∧ Uz.heap = h0) (fun _ _ _ _ _ => True) (fun _ Uz oz Ut => ∃ vz Lz, oz = .returned vz ∧ Q_eqO Z a x b C h0 n0 vz Ut.heap Lz ∧ FrameEnd Uz oz Ut Lz (({ frames := 0, cells := 0, slots := 0, locals := 0 } : Room)).cells (({ frames := 0, cells := 0, slots := 0, locals := 0 } : Room)).slots) := by
  refine MetFree.of_bodySF (plainFor_of_name pn5) hisR ?_
  intro p e s m args below meth c s₁ Bd hml0 hP hK
  obtain ⟨rfl, hZ, hh⟩ := hP
  have hx := Bd.exec
  have hby := Bd.bytes
  have hml : c.maxLocals = 3 := hml0
  have hown : s.vm.findClass "com/example/update_by_version/updatebyversion/Marker$Version" = some m.cls := findClass_of_methodNamed Bd.named
  have hnm := (name_of_methodNamed Bd.named Bd.method).1
  have hlk : meth.locks = false := Bd.notSynchronized
  have X0 : Stand p l e ({ frames := 0, cells := 0, slots := 0, locals := 0 } : Room) s m #[(.ref a), (.ref b)] below meth c s₁ [] 0 0 := Stand.of_body Bd
  have e0 : s₁.heap = h0 := by rw [← hh, Bd.state]; rfl
  have N0 := Fr.nil n0
  show EndsK p e below (OQ s (Q_eqO Z a x b C h0 n0) (({ frames := 0, cells := 0, slots := 0, locals := 0 } : Room)).cells (({ frames := 0, cells := 0, slots := 0, locals := 0 } : Room)).slots) (s₁.setTop (entryFrame m #[(.ref a), (.ref b)] 3))
  refine EndsK.start (ef_eqO m a x b C) ?_
  show EndsK p e below _ (s₁.setTop (mkF m 0 #[.val (.ref a), .val (.ref b), .unset] []))
  refine EndsK.go (fun _ kz => XS.aloadN X0.here hx rfl (hb hby d4_0) rfl rfl kz) ?_
  show EndsK p e below _ (s₁.setTop (mkF m 1 #[.val (.ref a), .val (.ref b), .unset] [(.ref b)]))
  obtain ⟨T1, X1, e1, st1⟩ := instNo X0 hx hZ hown (hw _ (List.mem_of_getElem? (i := 23) rfl)) e0 Eb no (g := (mkF m 1 #[.val (.ref a), .val (.ref b), .unset] [(.ref b)])) rfl rfl (hb hby d4_1)
  refine EndsK.go st1 ?_
  show EndsK p e below _ (T1.setTop (mkF m 4 #[.val (.ref a), .val (.ref b), .unset] [(.int (0 : Int32))]))
  refine EndsK.go (fun _ kz => XS.ifYes X1.here hx rfl (pc0 := 4) (pc' := 28) rfl (hb hby d4_4) rfl ((if0 _ _).trans (teq (rfl : (0 : Int32) = (0 : Int32))).1) (by decide) (by decide) kz) ?_
  show EndsK p e below _ (T1.setTop (mkF m 28 #[.val (.ref a), .val (.ref b), .unset] []))
  refine EndsK.go (fun _ kz => XS.iconst X1.here hx rfl (hb hby d4_28) kz) ?_
  show EndsK p e below _ (T1.setTop (mkF m 29 #[.val (.ref a), .val (.ref b), .unset] [(.int (0 : Int32))]))
  exact endN X1 hx (t := .boolean) Bd.returns (by simp) (hb hby d4_29) hlk ⟨rfl, N0, e1⟩ (by decide) (by decide)
theorem ef_eqV (m : MethodId) (a : Addr) (x : Int64) (b : Addr) (y : Int64) : entryFrame m #[(.ref a), (.ref b)] 3 = mkF m 0 #[.val (.ref a), .val (.ref b), .unset] [] := by first | (simp [entryFrame, mkF, argsToLocals, Value.category]; done) | rfl
def Q_eqV (Z : State) (a : Addr) (x : Int64) (b : Addr) (y : Int64) (h0 : Heap) (n0 : Nat) (vz : Option Value) (hz : Heap) (Lz : List Loc) : Prop := vz = some (.int (if x = y then 1 else 0)) ∧ Fr n0 Lz ∧ hz = h0
set_option maxRecDepth 65536 in
set_option maxHeartbeats 40000000 in
theorem rm_eqV (l : Launch) (Z : State) (a0 : Array Value) (hw : ∀ d ∈ tables_1, d.before a0 Z = true) (ws : List Jvm.Cond) (a : Addr) (x : Int64) (b : Addr) (y : Int64) (h0 : Heap) (n0 : Nat) (Z0 : n0 ≤ h0.size) (Fa : Fld Z h0 a "com/example/update_by_version/updatebyversion/Marker$Version" "version" "J" (.long x)) (Ea : Exa Z h0 a "com/example/update_by_version/updatebyversion/Marker$Version") (Eb : Exa Z h0 b "com/example/update_by_version/updatebyversion/Marker$Version") (Fb : Fld Z h0 b "com/example/update_by_version/updatebyversion/Marker$Version" "version" "J" (.long y)) :
    MetFree l (⟨"com/example/update_by_version/updatebyversion/Marker$Version", "equals", "(Ljava/lang/Object;)Z"⟩ : MethodName) (head1 (Jvm.Cond.code (⟨"com/example/update_by_version/updatebyversion/Marker$Version", "equals", "(Ljava/lang/Object;)Z"⟩ : MethodName) prog_30_method_6_code 3 (some .boolean) :: ws) ({ frames := 0, cells := 0, slots := 0, locals := 0 } : Room)) (fun az Uz => az = #[(.ref a), (.ref b)] ∧ Z.Warmed39 Uz.vm ∧ Uz.heap = h0) (fun _ _ _ _ _ => True) (fun _ Uz oz Ut => ∃ vz Lz, oz = .returned vz ∧ Q_eqV Z a x b y h0 n0 vz Ut.heap Lz ∧ FrameEnd Uz oz Ut Lz (({ frames := 0, cells := 0, slots := 0, locals := 0 } : Room)).cells (({ frames := 0, cells := 0, slots := 0, locals := 0 } : Room)).slots) := by
  refine MetFree.of_bodySF (plainFor_of_name pn5) hisR ?_
  intro p e s m args below meth c s₁ Bd hml0 hP hK
  obtain ⟨rfl, hZ, hh⟩ := hP
  have hx := Bd.exec
  have hby := Bd.bytes
  have hml : c.maxLocals = 3 := hml0
  have hown : s.vm.findClass "com/example/update_by_version/updatebyversion/Marker$Version" = some m.cls := findClass_of_methodNamed Bd.named
  have hnm := (name_of_methodNamed Bd.named Bd.method).1
  have hlk : meth.locks = false := Bd.notSynchronized
  have X0 : Stand p l e ({ frames := 0, cells := 0, slots := 0, locals := 0 } : Room) s m #[(.ref a), (.ref b)] below meth c s₁ [] 0 0 := Stand.of_body Bd
  have e0 : s₁.heap = h0 := by rw [← hh, Bd.state]; rfl
  have N0 := Fr.nil n0
  show EndsK p e below (OQ s (Q_eqV Z a x b y h0 n0) (({ frames := 0, cells := 0, slots := 0, locals := 0 } : Room)).cells (({ frames := 0, cells := 0, slots := 0, locals := 0 } : Room)).slots) (s₁.setTop (entryFrame m #[(.ref a), (.ref b)] 3))
  refine EndsK.start (ef_eqV m a x b y) ?_
  show EndsK p e below _ (s₁.setTop (mkF m 0 #[.val (.ref a), .val (.ref b), .unset] []))
  refine EndsK.go (fun _ kz => XS.aloadN X0.here hx rfl (hb hby d4_0) rfl rfl kz) ?_
  show EndsK p e below _ (s₁.setTop (mkF m 1 #[.val (.ref a), .val (.ref b), .unset] [(.ref b)]))
  obtain ⟨T1, X1, e1, st1⟩ := instY X0 hx hZ hown (hw _ (List.mem_of_getElem? (i := 23) rfl)) e0 (Ins.self Eb) (g := (mkF m 1 #[.val (.ref a), .val (.ref b), .unset] [(.ref b)])) rfl rfl (hb hby d4_1)
  refine EndsK.go st1 ?_
  show EndsK p e below _ (T1.setTop (mkF m 4 #[.val (.ref a), .val (.ref b), .unset] [(.int (1 : Int32))]))
  refine EndsK.go (fun _ kz => XS.ifNo X1.here hx rfl (hb hby d4_4) rfl ((if0 _ _).trans (feq (by decide : ¬ ((1 : Int32) = (0 : Int32)))).1) kz) ?_
  show EndsK p e below _ (T1.setTop (mkF m 7 #[.val (.ref a), .val (.ref b), .unset] []))
  refine EndsK.go (fun _ kz => XS.aloadN X1.here hx rfl (hb hby d4_7) rfl rfl kz) ?_
  show EndsK p e below _ (T1.setTop (mkF m 8 #[.val (.ref a), .val (.ref b), .unset] [(.ref b)]))
  obtain ⟨T2, X2, e2, st2⟩ := castY X1 hx hZ hown (hw _ (List.mem_of_getElem? (i := 23) rfl)) e1 (Ins.self Eb) (g := (mkF m 8 #[.val (.ref a), .val (.ref b), .unset] [(.ref b)])) rfl rfl (hb hby d4_8)
  refine EndsK.go st2 ?_
  show EndsK p e below _ (T2.setTop (mkF m 11 #[.val (.ref a), .val (.ref b), .unset] [(.ref b)]))
  refine EndsK.go (fun _ kz => XS.astoreN X2.here hx rfl (hb hby d4_11) rfl rfl (l' := #[.val (.ref a), .val (.ref b), .val (.ref b)]) rfl kz) ?_
  show EndsK p e below _ (T2.setTop (mkF m 12 #[.val (.ref a), .val (.ref b), .val (.ref b)] []))
  refine EndsK.go (fun _ kz => XS.aloadN X2.here hx rfl (hb hby d4_12) rfl rfl kz) ?_
  show EndsK p e below _ (T2.setTop (mkF m 13 #[.val (.ref a), .val (.ref b), .val (.ref b)] [(.ref a)]))
  obtain ⟨T3, X3, e3, st3⟩ := getF X2 hx hZ hown (host := "") (Or.inl (hw _ (List.mem_of_getElem? (i := 14) rfl))) Via.refl e2 Fa (g := (mkF m 13 #[.val (.ref a), .val (.ref b), .val (.ref b)] [(.ref a)])) rfl rfl (hb hby d4_13)
  refine EndsK.go st3 ?_
  show EndsK p e below _ (T3.setTop (mkF m 16 #[.val (.ref a), .val (.ref b), .val (.ref b)] [(.long x)]))
  refine EndsK.go (fun _ kz => XS.aloadN X3.here hx rfl (hb hby d4_16) rfl rfl kz) ?_
  show EndsK p e below _ (T3.setTop (mkF m 17 #[.val (.ref a), .val (.ref b), .val (.ref b)] [(.ref b), (.long x)]))
  obtain ⟨T4, X4, e4, st4⟩ := getF X3 hx hZ hown (host := "") (Or.inl (hw _ (List.mem_of_getElem? (i := 14) rfl))) Via.refl e3 Fb (g := (mkF m 17 #[.val (.ref a), .val (.ref b), .val (.ref b)] [(.ref b), (.long x)])) rfl rfl (hb hby d4_17)
  refine EndsK.go st4 ?_
  show EndsK p e below _ (T4.setTop (mkF m 20 #[.val (.ref a), .val (.ref b), .val (.ref b)] [(.long y), (.long x)]))
  refine EndsK.go (fun _ kz => XS.lcmp X4.here hx rfl (hb hby d4_20) rfl kz) ?_
  show EndsK p e below _ (T4.setTop (mkF m 21 #[.val (.ref a), .val (.ref b), .val (.ref b)] [(.int (lcmpW x y))]))
  by_cases H21_5 : (lcmpW x y) = (0 : Int32)
  · refine EndsK.go (fun _ kz => XS.ifNo X4.here hx rfl (hb hby d4_21) rfl ((if0 _ _).trans (teq H21_5).2) kz) ?_
    show EndsK p e below _ (T4.setTop (mkF m 24 #[.val (.ref a), .val (.ref b), .val (.ref b)] []))
    refine EndsK.go (fun _ kz => XS.iconst X4.here hx rfl (hb hby d4_24) kz) ?_
    show EndsK p e below _ (T4.setTop (mkF m 25 #[.val (.ref a), .val (.ref b), .val (.ref b)] [(.int (1 : Int32))]))
    refine EndsK.go (fun _ kz => XS.goto X4.here hx rfl (pc0 := 25) (pc' := 29) rfl (hb hby d4_25) (by decide) (by decide) kz) ?_
    show EndsK p e below _ (T4.setTop (mkF m 29 #[.val (.ref a), .val (.ref b), .val (.ref b)] [(.int (1 : Int32))]))
    exact endN X4 hx (t := .boolean) Bd.returns (by simp) (hb hby d4_29) hlk ⟨(congrArg (fun z => some (Value.int z)) (by rw [if_pos ((lw_eq _ _).mp H21_5)] : (if x = y then (1 : Int32) else 0) = (1 : Int32))).symm, N0, e4⟩ (by decide) (by decide)
  · refine EndsK.go (fun _ kz => XS.ifYes X4.here hx rfl (pc0 := 21) (pc' := 28) rfl (hb hby d4_21) rfl ((if0 _ _).trans (feq H21_5).2) (by decide) (by decide) kz) ?_
    show EndsK p e below _ (T4.setTop (mkF m 28 #[.val (.ref a), .val (.ref b), .val (.ref b)] []))
    refine EndsK.go (fun _ kz => XS.iconst X4.here hx rfl (hb hby d4_28) kz) ?_
    show EndsK p e below _ (T4.setTop (mkF m 29 #[.val (.ref a), .val (.ref b), .val (.ref b)] [(.int (0 : Int32))]))
    exact endN X4 hx (t := .boolean) Bd.returns (by simp) (hb hby d4_29) hlk ⟨(congrArg (fun z => some (Value.int z)) (by rw [if_neg (fun q => H21_5 ((lw_eq _ _).mpr q))] : (if x = y then (1 : Int32) else 0) = (0 : Int32))).symm, N0, e4⟩ (by decide) (by decide)
theorem pn6 : plainName "com/example/update_by_version/updatebyversion/VersionEqualsPinLaw" = true := by first | (simp [plainName, overriddenIn]; done) | decide +kernel
theorem ef_law (m : MethodId) (i0 : Int64) (i1 : Int64) (i2 : Int32) (i3 : Int64) (i4 : Int64) (ca : Addr) (cl : Cell) : entryFrame m #[(.long i0), (.long i1), (.int i2), (.long i3), (.long i4)] maxLocals = mkF m 0 #[.val (.long i0), .second, .val (.long i1), .second, .val (.int i2), .val (.long i3), .second, .val (.long i4), .second, .unset, .unset, .unset, .unset, .unset, .unset, .unset, .unset, .unset, .unset] [] := by first | (simp [entryFrame, mkF, argsToLocals, Value.category, maxLocals]; done) | rfl
def Q_law (Z : State) (i0 : Int64) (i1 : Int64) (i2 : Int32) (i3 : Int64) (i4 : Int64) (ca : Addr) (cl : Cell) (h0 : Heap) (n0 : Nat) (vz : Option Value) (hz : Heap) (Lz : List Loc) : Prop := vz = some (.int 1) ∧ Fr n0 Lz
theorem pd2 : parseMethodDescriptor "(Ljava/lang/Object;)Z" = some ⟨[(.object "java/lang/Object")], some .boolean⟩ := by decide +kernel
theorem pd3 : parseMethodDescriptor "(J)Ljava/lang/Long;" = some ⟨[.long], some (.object "java/lang/Long")⟩ := by decide +kernel
theorem pd4 : parseMethodDescriptor "(Ljava/time/LocalDateTime;)V" = some ⟨[(.object "java/time/LocalDateTime")], none⟩ := by decide +kernel
theorem pd5 : parseMethodDescriptor "(JLcom/example/update_by_version/updatebyversion/Marker$Range;)V" = some ⟨[.long, (.object "com/example/update_by_version/updatebyversion/Marker$Range")], none⟩ := by decide +kernel
theorem pd6 : parseMethodDescriptor "(JJ)V" = some ⟨[.long, .long], none⟩ := by decide +kernel
set_option maxRecDepth 65536 in
set_option maxHeartbeats 40000000 in
theorem rm_law (l : Launch) (Z : State) (a0 : Array Value) (hw : ∀ d ∈ tables_1, d.before a0 Z = true) (ws : List Jvm.Cond) (i0 : Int64) (i1 : Int64) (i2 : Int32) (i3 : Int64) (i4 : Int64) (ca : Addr) (cl : Cell) (h0 : Heap) (n0 : Nat) (Z0 : n0 ≤ h0.size) (hn0 : n0 = h0.size) (SC : Sta Z h0 "java/lang/Long$LongCache" "cache" "[Ljava/lang/Long;" (.ref ca)) (AC : Arr Z h0 ca cl (.object "java/lang/Long")) (hsz : cl.slots.size = 256) (hC : ∀ j : Int32, ¬ (j < 0 ∨ cl.slots.size ≤ j.toNatClampNeg) → ∃ b, cl.slots[j.toNatClampNeg]? = some (.ref b) ∧ Exa Z h0 b "java/lang/Long") (noL : ∃ c t, Z.vm.findClass "java/lang/Long" = some c ∧ Z.vm.findClass "com/example/update_by_version/updatebyversion/Marker$Version" = some t ∧ Z.vm.assignable c t = false) (noT : ∃ c t, Z.vm.findClass "com/example/update_by_version/updatebyversion/Marker$Timestamp" = some c ∧ Z.vm.findClass "com/example/update_by_version/updatebyversion/Marker$Version" = some t ∧ Z.vm.assignable c t = false) :
    MetFree l x (head1 (Jvm.Cond.code x code maxLocals ret :: ws) room_1) (fun az Uz => az = #[(.long i0), (.long i1), (.int i2), (.long i3), (.long i4)] ∧ Z.Warmed39 Uz.vm ∧ Uz.heap = h0) (fun _ _ _ _ _ => True) (fun _ Uz oz Ut => ∃ vz Lz, oz = .returned vz ∧ Q_law Z i0 i1 i2 i3 i4 ca cl h0 n0 vz Ut.heap Lz ∧ FrameEnd Uz oz Ut Lz (room_1).cells (room_1).slots) := by
  refine MetFree.of_bodySF (plainFor_of_name pn6) hisR ?_
  intro p e s m args below meth c s₁ Bd hml0 hP hK
  obtain ⟨rfl, hZ, hh⟩ := hP
  have hx := Bd.exec
  have hby := Bd.bytes
  have hml : c.maxLocals = 19 := hml0
  have hown : s.vm.findClass "com/example/update_by_version/updatebyversion/VersionEqualsPinLaw" = some m.cls := findClass_of_methodNamed Bd.named
  have hnm := (name_of_methodNamed Bd.named Bd.method).1
  have hlk : meth.locks = false := Bd.notSynchronized
  have X0 : Stand p l e room_1 s m #[(.long i0), (.long i1), (.int i2), (.long i3), (.long i4)] below meth c s₁ [] 0 0 := Stand.of_body Bd
  have e0 : s₁.heap = h0 := by rw [← hh, Bd.state]; rfl
  have N0 := Fr.nil n0
  show EndsK p e below (OQ s (Q_law Z i0 i1 i2 i3 i4 ca cl h0 n0) (room_1).cells (room_1).slots) (s₁.setTop (entryFrame m #[(.long i0), (.long i1), (.int i2), (.long i3), (.long i4)] maxLocals))
  refine EndsK.start (ef_law m i0 i1 i2 i3 i4 ca cl) ?_
  have J107 : ∀ (T : State) (h : Heap), Stand p l e room_1 s m #[.long i0, .long i1, .int i2, .long i3, .long i4] below meth c T [] 6 24 → T.heap = h → Ext h0 h → ∀ (v9 : Int32) (bv : Int64) (ra rb : Value) (ax ay : Addr) (kk : Int32), ra.isRef = true → rb.isRef = true → Exa Z h ax "com/example/update_by_version/updatebyversion/Marker$Version" → Exa Z h ay "com/example/update_by_version/updatebyversion/Marker$Version" → Fld Z h ax "com/example/update_by_version/updatebyversion/Marker$Version" "version" "J" (.long i0) → Fld Z h ay "com/example/update_by_version/updatebyversion/Marker$Version" "version" "J" (.long bv) → EndsK p e below (OQ s (Q_law Z i0 i1 i2 i3 i4 ca cl h0 n0) room_1.cells room_1.slots) (T.setTop (mkF m 107 #[.val (.long i0), .second, .val (.long i1), .second, .val (.int i2), .val (.long i3), .second, .val (.long i4), .second, .val (.int v9), .val (.long bv), .second, .val ra, .val rb, .val (.ref ax), .val (.ref ay), .val (.int kk), .unset, .unset] [])) := by
    intro T h XJ eJ PJ v9 bv ra rb ax ay kk hra hrb Ex Ey Fx Fy
    have ZJ : n0 ≤ h.size := Nat.le_trans Z0 PJ.1
    show EndsK p e below _ (T.setTop (mkF m 107 #[.val (.long i0), .second, .val (.long i1), .second, .val (.int i2), .val (.long i3), .second, .val (.long i4), .second, .val (.int v9), .val (.long bv), .second, .val ra, .val rb, .val (.ref ax), .val (.ref ay), .val (.int kk), .unset, .unset] []))
    refine EndsK.go (fun _ kz => XS.iload XJ.here hx rfl (hb hby at_107) rfl kz) ?_
    show EndsK p e below _ (T.setTop (mkF m 109 #[.val (.long i0), .second, .val (.long i1), .second, .val (.int i2), .val (.long i3), .second, .val (.long i4), .second, .val (.int v9), .val (.long bv), .second, .val ra, .val rb, .val (.ref ax), .val (.ref ay), .val (.int kk), .unset, .unset] [(.int kk)]))
    by_cases H109_1 : kk = (0 : Int32)
    · refine EndsK.go (fun _ kz => XS.ifNo XJ.here hx rfl (hb hby at_109) rfl ((if0 _ _).trans (teq H109_1).2) kz) ?_
      show EndsK p e below _ (T.setTop (mkF m 112 #[.val (.long i0), .second, .val (.long i1), .second, .val (.int i2), .val (.long i3), .second, .val (.long i4), .second, .val (.int v9), .val (.long bv), .second, .val ra, .val rb, .val (.ref ax), .val (.ref ay), .val (.int kk), .unset, .unset] []))
      refine EndsK.go (fun _ kz => XS.aload XJ.here hx rfl (hb hby at_112) rfl rfl kz) ?_
      show EndsK p e below _ (T.setTop (mkF m 114 #[.val (.long i0), .second, .val (.long i1), .second, .val (.int i2), .val (.long i3), .second, .val (.long i4), .second, .val (.int v9), .val (.long bv), .second, .val ra, .val rb, .val (.ref ax), .val (.ref ay), .val (.int kk), .unset, .unset] [(.ref ay)]))
      refine EndsK.go (fun _ kz => XS.astore XJ.here hx rfl (hb hby at_114) rfl rfl (l' := #[.val (.long i0), .second, .val (.long i1), .second, .val (.int i2), .val (.long i3), .second, .val (.long i4), .second, .val (.int v9), .val (.long bv), .second, .val ra, .val rb, .val (.ref ax), .val (.ref ay), .val (.int kk), .val (.ref ay), .unset]) rfl kz) ?_
      show EndsK p e below _ (T.setTop (mkF m 116 #[.val (.long i0), .second, .val (.long i1), .second, .val (.int i2), .val (.long i3), .second, .val (.long i4), .second, .val (.int v9), .val (.long bv), .second, .val ra, .val rb, .val (.ref ax), .val (.ref ay), .val (.int kk), .val (.ref ay), .unset] []))
      refine EndsK.go (fun _ kz => XS.goto XJ.here hx rfl (pc0 := 116) (pc' := 156) rfl (hb hby at_116) (by decide) (by decide) kz) ?_
      show EndsK p e below _ (T.setTop (mkF m 156 #[.val (.long i0), .second, .val (.long i1), .second, .val (.int i2), .val (.long i3), .second, .val (.long i4), .second, .val (.int v9), .val (.long bv), .second, .val ra, .val rb, .val (.ref ax), .val (.ref ay), .val (.int kk), .val (.ref ay), .unset] []))
      refine EndsK.go (fun _ kz => XS.iload XJ.here hx rfl (hb hby at_156) rfl kz) ?_
      show EndsK p e below _ (T.setTop (mkF m 158 #[.val (.long i0), .second, .val (.long i1), .second, .val (.int i2), .val (.long i3), .second, .val (.long i4), .second, .val (.int v9), .val (.long bv), .second, .val ra, .val rb, .val (.ref ax), .val (.ref ay), .val (.int kk), .val (.ref ay), .unset] [(.int kk)]))
      refine EndsK.go (fun _ kz => XS.ifNo XJ.here hx rfl (hb hby at_158) rfl ((if0 _ _).trans (teq H109_1).2) kz) ?_
      show EndsK p e below _ (T.setTop (mkF m 161 #[.val (.long i0), .second, .val (.long i1), .second, .val (.int i2), .val (.long i3), .second, .val (.long i4), .second, .val (.int v9), .val (.long bv), .second, .val ra, .val rb, .val (.ref ax), .val (.ref ay), .val (.int kk), .val (.ref ay), .unset] []))
      refine EndsK.go (fun _ kz => XS.lloadN XJ.here hx rfl (hb hby at_161) rfl kz) ?_
      show EndsK p e below _ (T.setTop (mkF m 162 #[.val (.long i0), .second, .val (.long i1), .second, .val (.int i2), .val (.long i3), .second, .val (.long i4), .second, .val (.int v9), .val (.long bv), .second, .val ra, .val rb, .val (.ref ax), .val (.ref ay), .val (.int kk), .val (.ref ay), .unset] [(.long i0)]))
      refine EndsK.go (fun _ kz => XS.lload XJ.here hx rfl (hb hby at_162) rfl kz) ?_
      show EndsK p e below _ (T.setTop (mkF m 164 #[.val (.long i0), .second, .val (.long i1), .second, .val (.int i2), .val (.long i3), .second, .val (.long i4), .second, .val (.int v9), .val (.long bv), .second, .val ra, .val rb, .val (.ref ax), .val (.ref ay), .val (.int kk), .val (.ref ay), .unset] [(.long bv), (.long i0)]))
      refine EndsK.go (fun _ kz => XS.lcmp XJ.here hx rfl (hb hby at_164) rfl kz) ?_
      show EndsK p e below _ (T.setTop (mkF m 165 #[.val (.long i0), .second, .val (.long i1), .second, .val (.int i2), .val (.long i3), .second, .val (.long i4), .second, .val (.int v9), .val (.long bv), .second, .val ra, .val rb, .val (.ref ax), .val (.ref ay), .val (.int kk), .val (.ref ay), .unset] [(.int (lcmpW i0 bv))]))
      by_cases H165_2 : (lcmpW i0 bv) = (0 : Int32)
      · refine EndsK.go (fun _ kz => XS.ifNo XJ.here hx rfl (hb hby at_165) rfl ((if0 _ _).trans (teq H165_2).2) kz) ?_
        show EndsK p e below _ (T.setTop (mkF m 168 #[.val (.long i0), .second, .val (.long i1), .second, .val (.int i2), .val (.long i3), .second, .val (.long i4), .second, .val (.int v9), .val (.long bv), .second, .val ra, .val rb, .val (.ref ax), .val (.ref ay), .val (.int kk), .val (.ref ay), .unset] []))
        refine EndsK.go (fun _ kz => XS.iconst XJ.here hx rfl (hb hby at_168) kz) ?_
        show EndsK p e below _ (T.setTop (mkF m 169 #[.val (.long i0), .second, .val (.long i1), .second, .val (.int i2), .val (.long i3), .second, .val (.long i4), .second, .val (.int v9), .val (.long bv), .second, .val ra, .val rb, .val (.ref ax), .val (.ref ay), .val (.int kk), .val (.ref ay), .unset] [(.int (1 : Int32))]))
        refine EndsK.go (fun _ kz => XS.goto XJ.here hx rfl (pc0 := 169) (pc' := 173) rfl (hb hby at_169) (by decide) (by decide) kz) ?_
        show EndsK p e below _ (T.setTop (mkF m 173 #[.val (.long i0), .second, .val (.long i1), .second, .val (.int i2), .val (.long i3), .second, .val (.long i4), .second, .val (.int v9), .val (.long bv), .second, .val ra, .val rb, .val (.ref ax), .val (.ref ay), .val (.int kk), .val (.ref ay), .unset] [(.int (1 : Int32))]))
        refine EndsK.go (fun _ kz => XS.istore XJ.here hx rfl (hb hby at_173) rfl (l' := #[.val (.long i0), .second, .val (.long i1), .second, .val (.int i2), .val (.long i3), .second, .val (.long i4), .second, .val (.int v9), .val (.long bv), .second, .val ra, .val rb, .val (.ref ax), .val (.ref ay), .val (.int kk), .val (.ref ay), .val (.int (1 : Int32))]) rfl kz) ?_
        show EndsK p e below _ (T.setTop (mkF m 175 #[.val (.long i0), .second, .val (.long i1), .second, .val (.int i2), .val (.long i3), .second, .val (.long i4), .second, .val (.int v9), .val (.long bv), .second, .val ra, .val rb, .val (.ref ax), .val (.ref ay), .val (.int kk), .val (.ref ay), .val (.int (1 : Int32))] []))
        refine EndsK.go (fun _ kz => XS.aload XJ.here hx rfl (hb hby at_175) rfl rfl kz) ?_
        show EndsK p e below _ (T.setTop (mkF m 177 #[.val (.long i0), .second, .val (.long i1), .second, .val (.int i2), .val (.long i3), .second, .val (.long i4), .second, .val (.int v9), .val (.long bv), .second, .val ra, .val rb, .val (.ref ax), .val (.ref ay), .val (.int kk), .val (.ref ay), .val (.int (1 : Int32))] [(.ref ax)]))
        refine EndsK.go (fun _ kz => XS.aload XJ.here hx rfl (hb hby at_177) rfl rfl kz) ?_
        show EndsK p e below _ (T.setTop (mkF m 179 #[.val (.long i0), .second, .val (.long i1), .second, .val (.int i2), .val (.long i3), .second, .val (.long i4), .second, .val (.int v9), .val (.long bv), .second, .val ra, .val rb, .val (.ref ax), .val (.ref ay), .val (.int kk), .val (.ref ay), .val (.int (1 : Int32))] [(.ref ay), (.ref ax)]))
        obtain ⟨cq3, kq3, qa3, qb3, qc3⟩ := isOf hZ eJ Ex
        obtain ⟨_, _, ⟨T3, L3, k3, n3⟩, -, X3, ⟨Lc3, hQ3, l3, y3, z3⟩, st3⟩ := XJ.virtualBack hx (y := (⟨"com/example/update_by_version/updatebyversion/Marker$Version", "equals", "(Ljava/lang/Object;)Z"⟩ : MethodName)) (z := (⟨"com/example/update_by_version/updatebyversion/Marker$Version", "equals", "(Ljava/lang/Object;)Z"⟩ : MethodName)) hown (mvT hZ (hw _ (List.mem_of_getElem? (i := 18) rfl))) (mvT hZ (hw _ (List.mem_of_getElem? (i := 19) rfl))) (notFace_of_selects (args := #[]) (mvT hZ (hw _ (List.mem_of_getElem? (i := 21) rfl)))) (mvT hZ (hw _ (List.mem_of_getElem? (i := 21) rfl))) (mvT hZ (hw _ (List.mem_of_getElem? (i := 20) rfl))) (by decide) (backOf (W := 0) (rm_eqV l Z a0 hw [] ax i0 ay bv h n0 ZJ Fx Ex Ey Fy) hZ (hw _ (List.mem_of_getElem? (i := 22) rfl)) (hw _ (List.mem_of_getElem? (i := 2) rfl)) (by decide) (by decide)) qa3 qc3 (g := (mkF m 179 #[.val (.long i0), .second, .val (.long i1), .second, .val (.int i2), .val (.long i3), .second, .val (.long i4), .second, .val (.int v9), .val (.long bv), .second, .val ra, .val rb, .val (.ref ax), .val (.ref ay), .val (.int kk), .val (.ref ay), .val (.int (1 : Int32))] [(.ref ay), (.ref ax)])) rfl (by rw [hml]; rfl) (Steps.refl _) (argsL := [(.ref ay)]) (rest := []) (lenOf pd2 rfl) rfl (by show 2 * 0 + _ ≤ _; exact Nat.le_of_eq rfl) (hb hby at_179) (fun _ _ => ⟨rfl, eJ, (by decide : 6 + 0 ≤ _), (by decide : 24 + 0 ≤ _)⟩)
        dsimp only [Pt.U, Pt.locs, Pt.cells, Pt.slots] at X3 l3 y3 z3 st3 hQ3
        subst l3 y3 z3
        obtain ⟨rfl, N3, e3⟩ := hQ3
        have M3 := Fr.app N0 N3
        refine EndsK.tr st3 ?_
        show EndsK p e below _ (T3.setTop (mkF m 182 #[.val (.long i0), .second, .val (.long i1), .second, .val (.int i2), .val (.long i3), .second, .val (.long i4), .second, .val (.int v9), .val (.long bv), .second, .val ra, .val rb, .val (.ref ax), .val (.ref ay), .val (.int kk), .val (.ref ay), .val (.int (1 : Int32))] [(.int (if i0 = bv then (1 : Int32) else 0))]))
        refine EndsK.go (fun _ kz => XS.iload X3.here hx rfl (hb hby at_182) rfl kz) ?_
        show EndsK p e below _ (T3.setTop (mkF m 184 #[.val (.long i0), .second, .val (.long i1), .second, .val (.int i2), .val (.long i3), .second, .val (.long i4), .second, .val (.int v9), .val (.long bv), .second, .val ra, .val rb, .val (.ref ax), .val (.ref ay), .val (.int kk), .val (.ref ay), .val (.int (1 : Int32))] [(.int (1 : Int32)), (.int (if i0 = bv then (1 : Int32) else 0))]))
        refine EndsK.go (fun _ kz => XS.icmpYes X3.here hx rfl (pc0 := 184) (pc' := 189) rfl (hb hby at_184) rfl (teq (if_pos ((lw_eq _ _).mp H165_2) : (if i0 = bv then (1 : Int32) else 0) = (1 : Int32))).1 (by decide) (by decide) kz) ?_
        show EndsK p e below _ (T3.setTop (mkF m 189 #[.val (.long i0), .second, .val (.long i1), .second, .val (.int i2), .val (.long i3), .second, .val (.long i4), .second, .val (.int v9), .val (.long bv), .second, .val ra, .val rb, .val (.ref ax), .val (.ref ay), .val (.int kk), .val (.ref ay), .val (.int (1 : Int32))] []))
        refine EndsK.go (fun _ kz => XS.aload X3.here hx rfl (hb hby at_189) rfl rfl kz) ?_
        show EndsK p e below _ (T3.setTop (mkF m 191 #[.val (.long i0), .second, .val (.long i1), .second, .val (.int i2), .val (.long i3), .second, .val (.long i4), .second, .val (.int v9), .val (.long bv), .second, .val ra, .val rb, .val (.ref ax), .val (.ref ay), .val (.int kk), .val (.ref ay), .val (.int (1 : Int32))] [(.ref ax)]))
        refine EndsK.go (fun _ kz => XS.aload X3.here hx rfl (hb hby at_191) rfl rfl kz) ?_
        show EndsK p e below _ (T3.setTop (mkF m 193 #[.val (.long i0), .second, .val (.long i1), .second, .val (.int i2), .val (.long i3), .second, .val (.long i4), .second, .val (.int v9), .val (.long bv), .second, .val ra, .val rb, .val (.ref ax), .val (.ref ay), .val (.int kk), .val (.ref ay), .val (.int (1 : Int32))] [(.ref ax), (.ref ax)]))
        obtain ⟨cq4, kq4, qa4, qb4, qc4⟩ := isOf hZ e3 Ex
        obtain ⟨_, _, ⟨T4, L4, k4, n4⟩, -, X4, ⟨Lc4, hQ4, l4, y4, z4⟩, st4⟩ := X3.virtualBack hx (y := (⟨"com/example/update_by_version/updatebyversion/Marker$Version", "equals", "(Ljava/lang/Object;)Z"⟩ : MethodName)) (z := (⟨"com/example/update_by_version/updatebyversion/Marker$Version", "equals", "(Ljava/lang/Object;)Z"⟩ : MethodName)) hown (mvT hZ (hw _ (List.mem_of_getElem? (i := 18) rfl))) (mvT hZ (hw _ (List.mem_of_getElem? (i := 19) rfl))) (notFace_of_selects (args := #[]) (mvT hZ (hw _ (List.mem_of_getElem? (i := 21) rfl)))) (mvT hZ (hw _ (List.mem_of_getElem? (i := 21) rfl))) (mvT hZ (hw _ (List.mem_of_getElem? (i := 20) rfl))) (by decide) (backOf (W := 0) (rm_eqV l Z a0 hw [] ax i0 ax i0 h n0 ZJ Fx Ex Ex Fx) hZ (hw _ (List.mem_of_getElem? (i := 22) rfl)) (hw _ (List.mem_of_getElem? (i := 2) rfl)) (by decide) (by decide)) qa4 qc4 (g := (mkF m 193 #[.val (.long i0), .second, .val (.long i1), .second, .val (.int i2), .val (.long i3), .second, .val (.long i4), .second, .val (.int v9), .val (.long bv), .second, .val ra, .val rb, .val (.ref ax), .val (.ref ay), .val (.int kk), .val (.ref ay), .val (.int (1 : Int32))] [(.ref ax), (.ref ax)])) rfl (by rw [hml]; rfl) (Steps.refl _) (argsL := [(.ref ax)]) (rest := []) (lenOf pd2 rfl) rfl (by show 2 * 0 + _ ≤ _; exact Nat.le_of_eq rfl) (hb hby at_193) (fun _ _ => ⟨rfl, e3, (by decide : 6 + 0 + 0 ≤ _), (by decide : 24 + 0 + 0 ≤ _)⟩)
        dsimp only [Pt.U, Pt.locs, Pt.cells, Pt.slots] at X4 l4 y4 z4 st4 hQ4
        subst l4 y4 z4
        obtain ⟨rfl, N4, e4⟩ := hQ4
        have M4 := Fr.app M3 N4
        refine EndsK.tr st4 ?_
        show EndsK p e below _ (T4.setTop (mkF m 196 #[.val (.long i0), .second, .val (.long i1), .second, .val (.int i2), .val (.long i3), .second, .val (.long i4), .second, .val (.int v9), .val (.long bv), .second, .val ra, .val rb, .val (.ref ax), .val (.ref ay), .val (.int kk), .val (.ref ay), .val (.int (1 : Int32))] [(.int (if i0 = i0 then (1 : Int32) else 0))]))
        refine EndsK.go (fun _ kz => XS.ifYes X4.here hx rfl (pc0 := 196) (pc' := 201) rfl (hb hby at_196) rfl ((if0 _ _).trans (feq (by rw [if_pos rfl]; decide : ¬ ((if i0 = i0 then (1 : Int32) else 0) = (0 : Int32)))).2) (by decide) (by decide) kz) ?_
        show EndsK p e below _ (T4.setTop (mkF m 201 #[.val (.long i0), .second, .val (.long i1), .second, .val (.int i2), .val (.long i3), .second, .val (.long i4), .second, .val (.int v9), .val (.long bv), .second, .val ra, .val rb, .val (.ref ax), .val (.ref ay), .val (.int kk), .val (.ref ay), .val (.int (1 : Int32))] []))
        refine EndsK.go (fun _ kz => XS.iload X4.here hx rfl (hb hby at_201) rfl kz) ?_
        show EndsK p e below _ (T4.setTop (mkF m 203 #[.val (.long i0), .second, .val (.long i1), .second, .val (.int i2), .val (.long i3), .second, .val (.long i4), .second, .val (.int v9), .val (.long bv), .second, .val ra, .val rb, .val (.ref ax), .val (.ref ay), .val (.int kk), .val (.ref ay), .val (.int (1 : Int32))] [(.int kk)]))
        refine EndsK.go (fun _ kz => XS.ifNo X4.here hx rfl (hb hby at_203) rfl ((if0 _ _).trans (teq H109_1).2) kz) ?_
        show EndsK p e below _ (T4.setTop (mkF m 206 #[.val (.long i0), .second, .val (.long i1), .second, .val (.int i2), .val (.long i3), .second, .val (.long i4), .second, .val (.int v9), .val (.long bv), .second, .val ra, .val rb, .val (.ref ax), .val (.ref ay), .val (.int kk), .val (.ref ay), .val (.int (1 : Int32))] []))
        refine EndsK.go (fun _ kz => XS.aload X4.here hx rfl (hb hby at_206) rfl rfl kz) ?_
        show EndsK p e below _ (T4.setTop (mkF m 208 #[.val (.long i0), .second, .val (.long i1), .second, .val (.int i2), .val (.long i3), .second, .val (.long i4), .second, .val (.int v9), .val (.long bv), .second, .val ra, .val rb, .val (.ref ax), .val (.ref ay), .val (.int kk), .val (.ref ay), .val (.int (1 : Int32))] [(.ref ay)]))
        refine EndsK.go (fun _ kz => XS.aload X4.here hx rfl (hb hby at_208) rfl rfl kz) ?_
        show EndsK p e below _ (T4.setTop (mkF m 210 #[.val (.long i0), .second, .val (.long i1), .second, .val (.int i2), .val (.long i3), .second, .val (.long i4), .second, .val (.int v9), .val (.long bv), .second, .val ra, .val rb, .val (.ref ax), .val (.ref ay), .val (.int kk), .val (.ref ay), .val (.int (1 : Int32))] [(.ref ax), (.ref ay)]))
        obtain ⟨cq5, kq5, qa5, qb5, qc5⟩ := isOf hZ e4 Ey
        obtain ⟨_, _, ⟨T5, L5, k5, n5⟩, -, X5, ⟨Lc5, hQ5, l5, y5, z5⟩, st5⟩ := X4.virtualBack hx (y := (⟨"com/example/update_by_version/updatebyversion/Marker$Version", "equals", "(Ljava/lang/Object;)Z"⟩ : MethodName)) (z := (⟨"com/example/update_by_version/updatebyversion/Marker$Version", "equals", "(Ljava/lang/Object;)Z"⟩ : MethodName)) hown (mvT hZ (hw _ (List.mem_of_getElem? (i := 18) rfl))) (mvT hZ (hw _ (List.mem_of_getElem? (i := 19) rfl))) (notFace_of_selects (args := #[]) (mvT hZ (hw _ (List.mem_of_getElem? (i := 21) rfl)))) (mvT hZ (hw _ (List.mem_of_getElem? (i := 21) rfl))) (mvT hZ (hw _ (List.mem_of_getElem? (i := 20) rfl))) (by decide) (backOf (W := 0) (rm_eqV l Z a0 hw [] ay bv ax i0 h n0 ZJ Fy Ey Ex Fx) hZ (hw _ (List.mem_of_getElem? (i := 22) rfl)) (hw _ (List.mem_of_getElem? (i := 2) rfl)) (by decide) (by decide)) qa5 qc5 (g := (mkF m 210 #[.val (.long i0), .second, .val (.long i1), .second, .val (.int i2), .val (.long i3), .second, .val (.long i4), .second, .val (.int v9), .val (.long bv), .second, .val ra, .val rb, .val (.ref ax), .val (.ref ay), .val (.int kk), .val (.ref ay), .val (.int (1 : Int32))] [(.ref ax), (.ref ay)])) rfl (by rw [hml]; rfl) (Steps.refl _) (argsL := [(.ref ax)]) (rest := []) (lenOf pd2 rfl) rfl (by show 2 * 0 + _ ≤ _; exact Nat.le_of_eq rfl) (hb hby at_210) (fun _ _ => ⟨rfl, e4, (by decide : 6 + 0 + 0 + 0 ≤ _), (by decide : 24 + 0 + 0 + 0 ≤ _)⟩)
        dsimp only [Pt.U, Pt.locs, Pt.cells, Pt.slots] at X5 l5 y5 z5 st5 hQ5
        subst l5 y5 z5
        obtain ⟨rfl, N5, e5⟩ := hQ5
        have M5 := Fr.app M4 N5
        refine EndsK.tr st5 ?_
        show EndsK p e below _ (T5.setTop (mkF m 213 #[.val (.long i0), .second, .val (.long i1), .second, .val (.int i2), .val (.long i3), .second, .val (.long i4), .second, .val (.int v9), .val (.long bv), .second, .val ra, .val rb, .val (.ref ax), .val (.ref ay), .val (.int kk), .val (.ref ay), .val (.int (1 : Int32))] [(.int (if bv = i0 then (1 : Int32) else 0))]))
        refine EndsK.go (fun _ kz => XS.iload X5.here hx rfl (hb hby at_213) rfl kz) ?_
        show EndsK p e below _ (T5.setTop (mkF m 215 #[.val (.long i0), .second, .val (.long i1), .second, .val (.int i2), .val (.long i3), .second, .val (.long i4), .second, .val (.int v9), .val (.long bv), .second, .val ra, .val rb, .val (.ref ax), .val (.ref ay), .val (.int kk), .val (.ref ay), .val (.int (1 : Int32))] [(.int (1 : Int32)), (.int (if bv = i0 then (1 : Int32) else 0))]))
        refine EndsK.go (fun _ kz => XS.icmpYes X5.here hx rfl (pc0 := 215) (pc' := 220) rfl (hb hby at_215) rfl (teq (if_pos ((lw_eq _ _).mp H165_2).symm : (if bv = i0 then (1 : Int32) else 0) = (1 : Int32))).1 (by decide) (by decide) kz) ?_
        show EndsK p e below _ (T5.setTop (mkF m 220 #[.val (.long i0), .second, .val (.long i1), .second, .val (.int i2), .val (.long i3), .second, .val (.long i4), .second, .val (.int v9), .val (.long bv), .second, .val ra, .val rb, .val (.ref ax), .val (.ref ay), .val (.int kk), .val (.ref ay), .val (.int (1 : Int32))] []))
        refine EndsK.go (fun _ kz => XS.iconst X5.here hx rfl (hb hby at_220) kz) ?_
        show EndsK p e below _ (T5.setTop (mkF m 221 #[.val (.long i0), .second, .val (.long i1), .second, .val (.int i2), .val (.long i3), .second, .val (.long i4), .second, .val (.int v9), .val (.long bv), .second, .val ra, .val rb, .val (.ref ax), .val (.ref ay), .val (.int kk), .val (.ref ay), .val (.int (1 : Int32))] [(.int (1 : Int32))]))
        exact endN X5 hx (t := .boolean) Bd.returns (by simp) (hb hby at_221) hlk ⟨rfl, M5⟩ (by decide) (by decide)
      · refine EndsK.go (fun _ kz => XS.ifYes XJ.here hx rfl (pc0 := 165) (pc' := 172) rfl (hb hby at_165) rfl ((if0 _ _).trans (feq H165_2).2) (by decide) (by decide) kz) ?_
        show EndsK p e below _ (T.setTop (mkF m 172 #[.val (.long i0), .second, .val (.long i1), .second, .val (.int i2), .val (.long i3), .second, .val (.long i4), .second, .val (.int v9), .val (.long bv), .second, .val ra, .val rb, .val (.ref ax), .val (.ref ay), .val (.int kk), .val (.ref ay), .unset] []))
        refine EndsK.go (fun _ kz => XS.iconst XJ.here hx rfl (hb hby at_172) kz) ?_
        show EndsK p e below _ (T.setTop (mkF m 173 #[.val (.long i0), .second, .val (.long i1), .second, .val (.int i2), .val (.long i3), .second, .val (.long i4), .second, .val (.int v9), .val (.long bv), .second, .val ra, .val rb, .val (.ref ax), .val (.ref ay), .val (.int kk), .val (.ref ay), .unset] [(.int (0 : Int32))]))
        refine EndsK.go (fun _ kz => XS.istore XJ.here hx rfl (hb hby at_173) rfl (l' := #[.val (.long i0), .second, .val (.long i1), .second, .val (.int i2), .val (.long i3), .second, .val (.long i4), .second, .val (.int v9), .val (.long bv), .second, .val ra, .val rb, .val (.ref ax), .val (.ref ay), .val (.int kk), .val (.ref ay), .val (.int (0 : Int32))]) rfl kz) ?_
        show EndsK p e below _ (T.setTop (mkF m 175 #[.val (.long i0), .second, .val (.long i1), .second, .val (.int i2), .val (.long i3), .second, .val (.long i4), .second, .val (.int v9), .val (.long bv), .second, .val ra, .val rb, .val (.ref ax), .val (.ref ay), .val (.int kk), .val (.ref ay), .val (.int (0 : Int32))] []))
        refine EndsK.go (fun _ kz => XS.aload XJ.here hx rfl (hb hby at_175) rfl rfl kz) ?_
        show EndsK p e below _ (T.setTop (mkF m 177 #[.val (.long i0), .second, .val (.long i1), .second, .val (.int i2), .val (.long i3), .second, .val (.long i4), .second, .val (.int v9), .val (.long bv), .second, .val ra, .val rb, .val (.ref ax), .val (.ref ay), .val (.int kk), .val (.ref ay), .val (.int (0 : Int32))] [(.ref ax)]))
        refine EndsK.go (fun _ kz => XS.aload XJ.here hx rfl (hb hby at_177) rfl rfl kz) ?_
        show EndsK p e below _ (T.setTop (mkF m 179 #[.val (.long i0), .second, .val (.long i1), .second, .val (.int i2), .val (.long i3), .second, .val (.long i4), .second, .val (.int v9), .val (.long bv), .second, .val ra, .val rb, .val (.ref ax), .val (.ref ay), .val (.int kk), .val (.ref ay), .val (.int (0 : Int32))] [(.ref ay), (.ref ax)]))
        obtain ⟨cq6, kq6, qa6, qb6, qc6⟩ := isOf hZ eJ Ex
        obtain ⟨_, _, ⟨T6, L6, k6, n6⟩, -, X6, ⟨Lc6, hQ6, l6, y6, z6⟩, st6⟩ := XJ.virtualBack hx (y := (⟨"com/example/update_by_version/updatebyversion/Marker$Version", "equals", "(Ljava/lang/Object;)Z"⟩ : MethodName)) (z := (⟨"com/example/update_by_version/updatebyversion/Marker$Version", "equals", "(Ljava/lang/Object;)Z"⟩ : MethodName)) hown (mvT hZ (hw _ (List.mem_of_getElem? (i := 18) rfl))) (mvT hZ (hw _ (List.mem_of_getElem? (i := 19) rfl))) (notFace_of_selects (args := #[]) (mvT hZ (hw _ (List.mem_of_getElem? (i := 21) rfl)))) (mvT hZ (hw _ (List.mem_of_getElem? (i := 21) rfl))) (mvT hZ (hw _ (List.mem_of_getElem? (i := 20) rfl))) (by decide) (backOf (W := 0) (rm_eqV l Z a0 hw [] ax i0 ay bv h n0 ZJ Fx Ex Ey Fy) hZ (hw _ (List.mem_of_getElem? (i := 22) rfl)) (hw _ (List.mem_of_getElem? (i := 2) rfl)) (by decide) (by decide)) qa6 qc6 (g := (mkF m 179 #[.val (.long i0), .second, .val (.long i1), .second, .val (.int i2), .val (.long i3), .second, .val (.long i4), .second, .val (.int v9), .val (.long bv), .second, .val ra, .val rb, .val (.ref ax), .val (.ref ay), .val (.int kk), .val (.ref ay), .val (.int (0 : Int32))] [(.ref ay), (.ref ax)])) rfl (by rw [hml]; rfl) (Steps.refl _) (argsL := [(.ref ay)]) (rest := []) (lenOf pd2 rfl) rfl (by show 2 * 0 + _ ≤ _; exact Nat.le_of_eq rfl) (hb hby at_179) (fun _ _ => ⟨rfl, eJ, (by decide : 6 + 0 ≤ _), (by decide : 24 + 0 ≤ _)⟩)
        dsimp only [Pt.U, Pt.locs, Pt.cells, Pt.slots] at X6 l6 y6 z6 st6 hQ6
        subst l6 y6 z6
        obtain ⟨rfl, N6, e6⟩ := hQ6
        have M6 := Fr.app N0 N6
        refine EndsK.tr st6 ?_
        show EndsK p e below _ (T6.setTop (mkF m 182 #[.val (.long i0), .second, .val (.long i1), .second, .val (.int i2), .val (.long i3), .second, .val (.long i4), .second, .val (.int v9), .val (.long bv), .second, .val ra, .val rb, .val (.ref ax), .val (.ref ay), .val (.int kk), .val (.ref ay), .val (.int (0 : Int32))] [(.int (if i0 = bv then (1 : Int32) else 0))]))
        refine EndsK.go (fun _ kz => XS.iload X6.here hx rfl (hb hby at_182) rfl kz) ?_
        show EndsK p e below _ (T6.setTop (mkF m 184 #[.val (.long i0), .second, .val (.long i1), .second, .val (.int i2), .val (.long i3), .second, .val (.long i4), .second, .val (.int v9), .val (.long bv), .second, .val ra, .val rb, .val (.ref ax), .val (.ref ay), .val (.int kk), .val (.ref ay), .val (.int (0 : Int32))] [(.int (0 : Int32)), (.int (if i0 = bv then (1 : Int32) else 0))]))
        refine EndsK.go (fun _ kz => XS.icmpYes X6.here hx rfl (pc0 := 184) (pc' := 189) rfl (hb hby at_184) rfl (teq (if_neg (fun q => H165_2 ((lw_eq _ _).mpr q)) : (if i0 = bv then (1 : Int32) else 0) = (0 : Int32))).1 (by decide) (by decide) kz) ?_
        show EndsK p e below _ (T6.setTop (mkF m 189 #[.val (.long i0), .second, .val (.long i1), .second, .val (.int i2), .val (.long i3), .second, .val (.long i4), .second, .val (.int v9), .val (.long bv), .second, .val ra, .val rb, .val (.ref ax), .val (.ref ay), .val (.int kk), .val (.ref ay), .val (.int (0 : Int32))] []))
        refine EndsK.go (fun _ kz => XS.aload X6.here hx rfl (hb hby at_189) rfl rfl kz) ?_
        show EndsK p e below _ (T6.setTop (mkF m 191 #[.val (.long i0), .second, .val (.long i1), .second, .val (.int i2), .val (.long i3), .second, .val (.long i4), .second, .val (.int v9), .val (.long bv), .second, .val ra, .val rb, .val (.ref ax), .val (.ref ay), .val (.int kk), .val (.ref ay), .val (.int (0 : Int32))] [(.ref ax)]))
        refine EndsK.go (fun _ kz => XS.aload X6.here hx rfl (hb hby at_191) rfl rfl kz) ?_
        show EndsK p e below _ (T6.setTop (mkF m 193 #[.val (.long i0), .second, .val (.long i1), .second, .val (.int i2), .val (.long i3), .second, .val (.long i4), .second, .val (.int v9), .val (.long bv), .second, .val ra, .val rb, .val (.ref ax), .val (.ref ay), .val (.int kk), .val (.ref ay), .val (.int (0 : Int32))] [(.ref ax), (.ref ax)]))
        obtain ⟨cq7, kq7, qa7, qb7, qc7⟩ := isOf hZ e6 Ex
        obtain ⟨_, _, ⟨T7, L7, k7, n7⟩, -, X7, ⟨Lc7, hQ7, l7, y7, z7⟩, st7⟩ := X6.virtualBack hx (y := (⟨"com/example/update_by_version/updatebyversion/Marker$Version", "equals", "(Ljava/lang/Object;)Z"⟩ : MethodName)) (z := (⟨"com/example/update_by_version/updatebyversion/Marker$Version", "equals", "(Ljava/lang/Object;)Z"⟩ : MethodName)) hown (mvT hZ (hw _ (List.mem_of_getElem? (i := 18) rfl))) (mvT hZ (hw _ (List.mem_of_getElem? (i := 19) rfl))) (notFace_of_selects (args := #[]) (mvT hZ (hw _ (List.mem_of_getElem? (i := 21) rfl)))) (mvT hZ (hw _ (List.mem_of_getElem? (i := 21) rfl))) (mvT hZ (hw _ (List.mem_of_getElem? (i := 20) rfl))) (by decide) (backOf (W := 0) (rm_eqV l Z a0 hw [] ax i0 ax i0 h n0 ZJ Fx Ex Ex Fx) hZ (hw _ (List.mem_of_getElem? (i := 22) rfl)) (hw _ (List.mem_of_getElem? (i := 2) rfl)) (by decide) (by decide)) qa7 qc7 (g := (mkF m 193 #[.val (.long i0), .second, .val (.long i1), .second, .val (.int i2), .val (.long i3), .second, .val (.long i4), .second, .val (.int v9), .val (.long bv), .second, .val ra, .val rb, .val (.ref ax), .val (.ref ay), .val (.int kk), .val (.ref ay), .val (.int (0 : Int32))] [(.ref ax), (.ref ax)])) rfl (by rw [hml]; rfl) (Steps.refl _) (argsL := [(.ref ax)]) (rest := []) (lenOf pd2 rfl) rfl (by show 2 * 0 + _ ≤ _; exact Nat.le_of_eq rfl) (hb hby at_193) (fun _ _ => ⟨rfl, e6, (by decide : 6 + 0 + 0 ≤ _), (by decide : 24 + 0 + 0 ≤ _)⟩)
        dsimp only [Pt.U, Pt.locs, Pt.cells, Pt.slots] at X7 l7 y7 z7 st7 hQ7
        subst l7 y7 z7
        obtain ⟨rfl, N7, e7⟩ := hQ7
        have M7 := Fr.app M6 N7
        refine EndsK.tr st7 ?_
        show EndsK p e below _ (T7.setTop (mkF m 196 #[.val (.long i0), .second, .val (.long i1), .second, .val (.int i2), .val (.long i3), .second, .val (.long i4), .second, .val (.int v9), .val (.long bv), .second, .val ra, .val rb, .val (.ref ax), .val (.ref ay), .val (.int kk), .val (.ref ay), .val (.int (0 : Int32))] [(.int (if i0 = i0 then (1 : Int32) else 0))]))
        refine EndsK.go (fun _ kz => XS.ifYes X7.here hx rfl (pc0 := 196) (pc' := 201) rfl (hb hby at_196) rfl ((if0 _ _).trans (feq (by rw [if_pos rfl]; decide : ¬ ((if i0 = i0 then (1 : Int32) else 0) = (0 : Int32)))).2) (by decide) (by decide) kz) ?_
        show EndsK p e below _ (T7.setTop (mkF m 201 #[.val (.long i0), .second, .val (.long i1), .second, .val (.int i2), .val (.long i3), .second, .val (.long i4), .second, .val (.int v9), .val (.long bv), .second, .val ra, .val rb, .val (.ref ax), .val (.ref ay), .val (.int kk), .val (.ref ay), .val (.int (0 : Int32))] []))
        refine EndsK.go (fun _ kz => XS.iload X7.here hx rfl (hb hby at_201) rfl kz) ?_
        show EndsK p e below _ (T7.setTop (mkF m 203 #[.val (.long i0), .second, .val (.long i1), .second, .val (.int i2), .val (.long i3), .second, .val (.long i4), .second, .val (.int v9), .val (.long bv), .second, .val ra, .val rb, .val (.ref ax), .val (.ref ay), .val (.int kk), .val (.ref ay), .val (.int (0 : Int32))] [(.int kk)]))
        refine EndsK.go (fun _ kz => XS.ifNo X7.here hx rfl (hb hby at_203) rfl ((if0 _ _).trans (teq H109_1).2) kz) ?_
        show EndsK p e below _ (T7.setTop (mkF m 206 #[.val (.long i0), .second, .val (.long i1), .second, .val (.int i2), .val (.long i3), .second, .val (.long i4), .second, .val (.int v9), .val (.long bv), .second, .val ra, .val rb, .val (.ref ax), .val (.ref ay), .val (.int kk), .val (.ref ay), .val (.int (0 : Int32))] []))
        refine EndsK.go (fun _ kz => XS.aload X7.here hx rfl (hb hby at_206) rfl rfl kz) ?_
        show EndsK p e below _ (T7.setTop (mkF m 208 #[.val (.long i0), .second, .val (.long i1), .second, .val (.int i2), .val (.long i3), .second, .val (.long i4), .second, .val (.int v9), .val (.long bv), .second, .val ra, .val rb, .val (.ref ax), .val (.ref ay), .val (.int kk), .val (.ref ay), .val (.int (0 : Int32))] [(.ref ay)]))
        refine EndsK.go (fun _ kz => XS.aload X7.here hx rfl (hb hby at_208) rfl rfl kz) ?_
        show EndsK p e below _ (T7.setTop (mkF m 210 #[.val (.long i0), .second, .val (.long i1), .second, .val (.int i2), .val (.long i3), .second, .val (.long i4), .second, .val (.int v9), .val (.long bv), .second, .val ra, .val rb, .val (.ref ax), .val (.ref ay), .val (.int kk), .val (.ref ay), .val (.int (0 : Int32))] [(.ref ax), (.ref ay)]))
        obtain ⟨cq8, kq8, qa8, qb8, qc8⟩ := isOf hZ e7 Ey
        obtain ⟨_, _, ⟨T8, L8, k8, n8⟩, -, X8, ⟨Lc8, hQ8, l8, y8, z8⟩, st8⟩ := X7.virtualBack hx (y := (⟨"com/example/update_by_version/updatebyversion/Marker$Version", "equals", "(Ljava/lang/Object;)Z"⟩ : MethodName)) (z := (⟨"com/example/update_by_version/updatebyversion/Marker$Version", "equals", "(Ljava/lang/Object;)Z"⟩ : MethodName)) hown (mvT hZ (hw _ (List.mem_of_getElem? (i := 18) rfl))) (mvT hZ (hw _ (List.mem_of_getElem? (i := 19) rfl))) (notFace_of_selects (args := #[]) (mvT hZ (hw _ (List.mem_of_getElem? (i := 21) rfl)))) (mvT hZ (hw _ (List.mem_of_getElem? (i := 21) rfl))) (mvT hZ (hw _ (List.mem_of_getElem? (i := 20) rfl))) (by decide) (backOf (W := 0) (rm_eqV l Z a0 hw [] ay bv ax i0 h n0 ZJ Fy Ey Ex Fx) hZ (hw _ (List.mem_of_getElem? (i := 22) rfl)) (hw _ (List.mem_of_getElem? (i := 2) rfl)) (by decide) (by decide)) qa8 qc8 (g := (mkF m 210 #[.val (.long i0), .second, .val (.long i1), .second, .val (.int i2), .val (.long i3), .second, .val (.long i4), .second, .val (.int v9), .val (.long bv), .second, .val ra, .val rb, .val (.ref ax), .val (.ref ay), .val (.int kk), .val (.ref ay), .val (.int (0 : Int32))] [(.ref ax), (.ref ay)])) rfl (by rw [hml]; rfl) (Steps.refl _) (argsL := [(.ref ax)]) (rest := []) (lenOf pd2 rfl) rfl (by show 2 * 0 + _ ≤ _; exact Nat.le_of_eq rfl) (hb hby at_210) (fun _ _ => ⟨rfl, e7, (by decide : 6 + 0 + 0 + 0 ≤ _), (by decide : 24 + 0 + 0 + 0 ≤ _)⟩)
        dsimp only [Pt.U, Pt.locs, Pt.cells, Pt.slots] at X8 l8 y8 z8 st8 hQ8
        subst l8 y8 z8
        obtain ⟨rfl, N8, e8⟩ := hQ8
        have M8 := Fr.app M7 N8
        refine EndsK.tr st8 ?_
        show EndsK p e below _ (T8.setTop (mkF m 213 #[.val (.long i0), .second, .val (.long i1), .second, .val (.int i2), .val (.long i3), .second, .val (.long i4), .second, .val (.int v9), .val (.long bv), .second, .val ra, .val rb, .val (.ref ax), .val (.ref ay), .val (.int kk), .val (.ref ay), .val (.int (0 : Int32))] [(.int (if bv = i0 then (1 : Int32) else 0))]))
        refine EndsK.go (fun _ kz => XS.iload X8.here hx rfl (hb hby at_213) rfl kz) ?_
        show EndsK p e below _ (T8.setTop (mkF m 215 #[.val (.long i0), .second, .val (.long i1), .second, .val (.int i2), .val (.long i3), .second, .val (.long i4), .second, .val (.int v9), .val (.long bv), .second, .val ra, .val rb, .val (.ref ax), .val (.ref ay), .val (.int kk), .val (.ref ay), .val (.int (0 : Int32))] [(.int (0 : Int32)), (.int (if bv = i0 then (1 : Int32) else 0))]))
        refine EndsK.go (fun _ kz => XS.icmpYes X8.here hx rfl (pc0 := 215) (pc' := 220) rfl (hb hby at_215) rfl (teq (if_neg (fun q => H165_2 ((lw_eq _ _).mpr q.symm)) : (if bv = i0 then (1 : Int32) else 0) = (0 : Int32))).1 (by decide) (by decide) kz) ?_
        show EndsK p e below _ (T8.setTop (mkF m 220 #[.val (.long i0), .second, .val (.long i1), .second, .val (.int i2), .val (.long i3), .second, .val (.long i4), .second, .val (.int v9), .val (.long bv), .second, .val ra, .val rb, .val (.ref ax), .val (.ref ay), .val (.int kk), .val (.ref ay), .val (.int (0 : Int32))] []))
        refine EndsK.go (fun _ kz => XS.iconst X8.here hx rfl (hb hby at_220) kz) ?_
        show EndsK p e below _ (T8.setTop (mkF m 221 #[.val (.long i0), .second, .val (.long i1), .second, .val (.int i2), .val (.long i3), .second, .val (.long i4), .second, .val (.int v9), .val (.long bv), .second, .val ra, .val rb, .val (.ref ax), .val (.ref ay), .val (.int kk), .val (.ref ay), .val (.int (0 : Int32))] [(.int (1 : Int32))]))
        exact endN X8 hx (t := .boolean) Bd.returns (by simp) (hb hby at_221) hlk ⟨rfl, M8⟩ (by decide) (by decide)
    · refine EndsK.go (fun _ kz => XS.ifYes XJ.here hx rfl (pc0 := 109) (pc' := 119) rfl (hb hby at_109) rfl ((if0 _ _).trans (feq H109_1).2) (by decide) (by decide) kz) ?_
      show EndsK p e below _ (T.setTop (mkF m 119 #[.val (.long i0), .second, .val (.long i1), .second, .val (.int i2), .val (.long i3), .second, .val (.long i4), .second, .val (.int v9), .val (.long bv), .second, .val ra, .val rb, .val (.ref ax), .val (.ref ay), .val (.int kk), .unset, .unset] []))
      refine EndsK.go (fun _ kz => XS.iload XJ.here hx rfl (hb hby at_119) rfl kz) ?_
      show EndsK p e below _ (T.setTop (mkF m 121 #[.val (.long i0), .second, .val (.long i1), .second, .val (.int i2), .val (.long i3), .second, .val (.long i4), .second, .val (.int v9), .val (.long bv), .second, .val ra, .val rb, .val (.ref ax), .val (.ref ay), .val (.int kk), .unset, .unset] [(.int kk)]))
      refine EndsK.go (fun _ kz => XS.iconst XJ.here hx rfl (hb hby at_121) kz) ?_
      show EndsK p e below _ (T.setTop (mkF m 122 #[.val (.long i0), .second, .val (.long i1), .second, .val (.int i2), .val (.long i3), .second, .val (.long i4), .second, .val (.int v9), .val (.long bv), .second, .val ra, .val rb, .val (.ref ax), .val (.ref ay), .val (.int kk), .unset, .unset] [(.int (1 : Int32)), (.int kk)]))
      by_cases H122_9 : kk = (1 : Int32)
      · refine EndsK.go (fun _ kz => XS.icmpNo XJ.here hx rfl (hb hby at_122) rfl (teq H122_9).2 kz) ?_
        show EndsK p e below _ (T.setTop (mkF m 125 #[.val (.long i0), .second, .val (.long i1), .second, .val (.int i2), .val (.long i3), .second, .val (.long i4), .second, .val (.int v9), .val (.long bv), .second, .val ra, .val rb, .val (.ref ax), .val (.ref ay), .val (.int kk), .unset, .unset] []))
        refine EndsK.go (fun _ kz => XS.aconstNull XJ.here hx rfl (hb hby at_125) kz) ?_
        show EndsK p e below _ (T.setTop (mkF m 126 #[.val (.long i0), .second, .val (.long i1), .second, .val (.int i2), .val (.long i3), .second, .val (.long i4), .second, .val (.int v9), .val (.long bv), .second, .val ra, .val rb, .val (.ref ax), .val (.ref ay), .val (.int kk), .unset, .unset] [.null]))
        refine EndsK.go (fun _ kz => XS.astore XJ.here hx rfl (hb hby at_126) rfl rfl (l' := #[.val (.long i0), .second, .val (.long i1), .second, .val (.int i2), .val (.long i3), .second, .val (.long i4), .second, .val (.int v9), .val (.long bv), .second, .val ra, .val rb, .val (.ref ax), .val (.ref ay), .val (.int kk), .val .null, .unset]) rfl kz) ?_
        show EndsK p e below _ (T.setTop (mkF m 128 #[.val (.long i0), .second, .val (.long i1), .second, .val (.int i2), .val (.long i3), .second, .val (.long i4), .second, .val (.int v9), .val (.long bv), .second, .val ra, .val rb, .val (.ref ax), .val (.ref ay), .val (.int kk), .val .null, .unset] []))
        refine EndsK.go (fun _ kz => XS.goto XJ.here hx rfl (pc0 := 128) (pc' := 156) rfl (hb hby at_128) (by decide) (by decide) kz) ?_
        show EndsK p e below _ (T.setTop (mkF m 156 #[.val (.long i0), .second, .val (.long i1), .second, .val (.int i2), .val (.long i3), .second, .val (.long i4), .second, .val (.int v9), .val (.long bv), .second, .val ra, .val rb, .val (.ref ax), .val (.ref ay), .val (.int kk), .val .null, .unset] []))
        refine EndsK.go (fun _ kz => XS.iload XJ.here hx rfl (hb hby at_156) rfl kz) ?_
        show EndsK p e below _ (T.setTop (mkF m 158 #[.val (.long i0), .second, .val (.long i1), .second, .val (.int i2), .val (.long i3), .second, .val (.long i4), .second, .val (.int v9), .val (.long bv), .second, .val ra, .val rb, .val (.ref ax), .val (.ref ay), .val (.int kk), .val .null, .unset] [(.int kk)]))
        refine EndsK.go (fun _ kz => XS.ifYes XJ.here hx rfl (pc0 := 158) (pc' := 172) rfl (hb hby at_158) rfl ((if0 _ _).trans (feq H109_1).2) (by decide) (by decide) kz) ?_
        show EndsK p e below _ (T.setTop (mkF m 172 #[.val (.long i0), .second, .val (.long i1), .second, .val (.int i2), .val (.long i3), .second, .val (.long i4), .second, .val (.int v9), .val (.long bv), .second, .val ra, .val rb, .val (.ref ax), .val (.ref ay), .val (.int kk), .val .null, .unset] []))
        refine EndsK.go (fun _ kz => XS.iconst XJ.here hx rfl (hb hby at_172) kz) ?_
        show EndsK p e below _ (T.setTop (mkF m 173 #[.val (.long i0), .second, .val (.long i1), .second, .val (.int i2), .val (.long i3), .second, .val (.long i4), .second, .val (.int v9), .val (.long bv), .second, .val ra, .val rb, .val (.ref ax), .val (.ref ay), .val (.int kk), .val .null, .unset] [(.int (0 : Int32))]))
        refine EndsK.go (fun _ kz => XS.istore XJ.here hx rfl (hb hby at_173) rfl (l' := #[.val (.long i0), .second, .val (.long i1), .second, .val (.int i2), .val (.long i3), .second, .val (.long i4), .second, .val (.int v9), .val (.long bv), .second, .val ra, .val rb, .val (.ref ax), .val (.ref ay), .val (.int kk), .val .null, .val (.int (0 : Int32))]) rfl kz) ?_
        show EndsK p e below _ (T.setTop (mkF m 175 #[.val (.long i0), .second, .val (.long i1), .second, .val (.int i2), .val (.long i3), .second, .val (.long i4), .second, .val (.int v9), .val (.long bv), .second, .val ra, .val rb, .val (.ref ax), .val (.ref ay), .val (.int kk), .val .null, .val (.int (0 : Int32))] []))
        refine EndsK.go (fun _ kz => XS.aload XJ.here hx rfl (hb hby at_175) rfl rfl kz) ?_
        show EndsK p e below _ (T.setTop (mkF m 177 #[.val (.long i0), .second, .val (.long i1), .second, .val (.int i2), .val (.long i3), .second, .val (.long i4), .second, .val (.int v9), .val (.long bv), .second, .val ra, .val rb, .val (.ref ax), .val (.ref ay), .val (.int kk), .val .null, .val (.int (0 : Int32))] [(.ref ax)]))
        refine EndsK.go (fun _ kz => XS.aload XJ.here hx rfl (hb hby at_177) rfl rfl kz) ?_
        show EndsK p e below _ (T.setTop (mkF m 179 #[.val (.long i0), .second, .val (.long i1), .second, .val (.int i2), .val (.long i3), .second, .val (.long i4), .second, .val (.int v9), .val (.long bv), .second, .val ra, .val rb, .val (.ref ax), .val (.ref ay), .val (.int kk), .val .null, .val (.int (0 : Int32))] [.null, (.ref ax)]))
        obtain ⟨cq10, kq10, qa10, qb10, qc10⟩ := isOf hZ eJ Ex
        obtain ⟨_, _, ⟨T10, L10, k10, n10⟩, -, X10, ⟨Lc10, hQ10, l10, y10, z10⟩, st10⟩ := XJ.virtualBack hx (y := (⟨"com/example/update_by_version/updatebyversion/Marker$Version", "equals", "(Ljava/lang/Object;)Z"⟩ : MethodName)) (z := (⟨"com/example/update_by_version/updatebyversion/Marker$Version", "equals", "(Ljava/lang/Object;)Z"⟩ : MethodName)) hown (mvT hZ (hw _ (List.mem_of_getElem? (i := 18) rfl))) (mvT hZ (hw _ (List.mem_of_getElem? (i := 19) rfl))) (notFace_of_selects (args := #[]) (mvT hZ (hw _ (List.mem_of_getElem? (i := 21) rfl)))) (mvT hZ (hw _ (List.mem_of_getElem? (i := 21) rfl))) (mvT hZ (hw _ (List.mem_of_getElem? (i := 20) rfl))) (by decide) (backOf (W := 0) (rm_eqN l Z a0 hw [] ax i0 h n0 ZJ Fx Ex) hZ (hw _ (List.mem_of_getElem? (i := 22) rfl)) (hw _ (List.mem_of_getElem? (i := 2) rfl)) (by decide) (by decide)) qa10 qc10 (g := (mkF m 179 #[.val (.long i0), .second, .val (.long i1), .second, .val (.int i2), .val (.long i3), .second, .val (.long i4), .second, .val (.int v9), .val (.long bv), .second, .val ra, .val rb, .val (.ref ax), .val (.ref ay), .val (.int kk), .val .null, .val (.int (0 : Int32))] [.null, (.ref ax)])) rfl (by rw [hml]; rfl) (Steps.refl _) (argsL := [.null]) (rest := []) (lenOf pd2 rfl) rfl (by show 2 * 0 + _ ≤ _; exact Nat.le_of_eq rfl) (hb hby at_179) (fun _ _ => ⟨rfl, eJ, (by decide : 6 + 0 ≤ _), (by decide : 24 + 0 ≤ _)⟩)
        dsimp only [Pt.U, Pt.locs, Pt.cells, Pt.slots] at X10 l10 y10 z10 st10 hQ10
        subst l10 y10 z10
        obtain ⟨rfl, N10, e10⟩ := hQ10
        have M10 := Fr.app N0 N10
        refine EndsK.tr st10 ?_
        show EndsK p e below _ (T10.setTop (mkF m 182 #[.val (.long i0), .second, .val (.long i1), .second, .val (.int i2), .val (.long i3), .second, .val (.long i4), .second, .val (.int v9), .val (.long bv), .second, .val ra, .val rb, .val (.ref ax), .val (.ref ay), .val (.int kk), .val .null, .val (.int (0 : Int32))] [(.int (0 : Int32))]))
        refine EndsK.go (fun _ kz => XS.iload X10.here hx rfl (hb hby at_182) rfl kz) ?_
        show EndsK p e below _ (T10.setTop (mkF m 184 #[.val (.long i0), .second, .val (.long i1), .second, .val (.int i2), .val (.long i3), .second, .val (.long i4), .second, .val (.int v9), .val (.long bv), .second, .val ra, .val rb, .val (.ref ax), .val (.ref ay), .val (.int kk), .val .null, .val (.int (0 : Int32))] [(.int (0 : Int32)), (.int (0 : Int32))]))
        refine EndsK.go (fun _ kz => XS.icmpYes X10.here hx rfl (pc0 := 184) (pc' := 189) rfl (hb hby at_184) rfl (teq (rfl : (0 : Int32) = (0 : Int32))).1 (by decide) (by decide) kz) ?_
        show EndsK p e below _ (T10.setTop (mkF m 189 #[.val (.long i0), .second, .val (.long i1), .second, .val (.int i2), .val (.long i3), .second, .val (.long i4), .second, .val (.int v9), .val (.long bv), .second, .val ra, .val rb, .val (.ref ax), .val (.ref ay), .val (.int kk), .val .null, .val (.int (0 : Int32))] []))
        refine EndsK.go (fun _ kz => XS.aload X10.here hx rfl (hb hby at_189) rfl rfl kz) ?_
        show EndsK p e below _ (T10.setTop (mkF m 191 #[.val (.long i0), .second, .val (.long i1), .second, .val (.int i2), .val (.long i3), .second, .val (.long i4), .second, .val (.int v9), .val (.long bv), .second, .val ra, .val rb, .val (.ref ax), .val (.ref ay), .val (.int kk), .val .null, .val (.int (0 : Int32))] [(.ref ax)]))
        refine EndsK.go (fun _ kz => XS.aload X10.here hx rfl (hb hby at_191) rfl rfl kz) ?_
        show EndsK p e below _ (T10.setTop (mkF m 193 #[.val (.long i0), .second, .val (.long i1), .second, .val (.int i2), .val (.long i3), .second, .val (.long i4), .second, .val (.int v9), .val (.long bv), .second, .val ra, .val rb, .val (.ref ax), .val (.ref ay), .val (.int kk), .val .null, .val (.int (0 : Int32))] [(.ref ax), (.ref ax)]))
        obtain ⟨cq11, kq11, qa11, qb11, qc11⟩ := isOf hZ e10 Ex
        obtain ⟨_, _, ⟨T11, L11, k11, n11⟩, -, X11, ⟨Lc11, hQ11, l11, y11, z11⟩, st11⟩ := X10.virtualBack hx (y := (⟨"com/example/update_by_version/updatebyversion/Marker$Version", "equals", "(Ljava/lang/Object;)Z"⟩ : MethodName)) (z := (⟨"com/example/update_by_version/updatebyversion/Marker$Version", "equals", "(Ljava/lang/Object;)Z"⟩ : MethodName)) hown (mvT hZ (hw _ (List.mem_of_getElem? (i := 18) rfl))) (mvT hZ (hw _ (List.mem_of_getElem? (i := 19) rfl))) (notFace_of_selects (args := #[]) (mvT hZ (hw _ (List.mem_of_getElem? (i := 21) rfl)))) (mvT hZ (hw _ (List.mem_of_getElem? (i := 21) rfl))) (mvT hZ (hw _ (List.mem_of_getElem? (i := 20) rfl))) (by decide) (backOf (W := 0) (rm_eqV l Z a0 hw [] ax i0 ax i0 h n0 ZJ Fx Ex Ex Fx) hZ (hw _ (List.mem_of_getElem? (i := 22) rfl)) (hw _ (List.mem_of_getElem? (i := 2) rfl)) (by decide) (by decide)) qa11 qc11 (g := (mkF m 193 #[.val (.long i0), .second, .val (.long i1), .second, .val (.int i2), .val (.long i3), .second, .val (.long i4), .second, .val (.int v9), .val (.long bv), .second, .val ra, .val rb, .val (.ref ax), .val (.ref ay), .val (.int kk), .val .null, .val (.int (0 : Int32))] [(.ref ax), (.ref ax)])) rfl (by rw [hml]; rfl) (Steps.refl _) (argsL := [(.ref ax)]) (rest := []) (lenOf pd2 rfl) rfl (by show 2 * 0 + _ ≤ _; exact Nat.le_of_eq rfl) (hb hby at_193) (fun _ _ => ⟨rfl, e10, (by decide : 6 + 0 + 0 ≤ _), (by decide : 24 + 0 + 0 ≤ _)⟩)
        dsimp only [Pt.U, Pt.locs, Pt.cells, Pt.slots] at X11 l11 y11 z11 st11 hQ11
        subst l11 y11 z11
        obtain ⟨rfl, N11, e11⟩ := hQ11
        have M11 := Fr.app M10 N11
        refine EndsK.tr st11 ?_
        show EndsK p e below _ (T11.setTop (mkF m 196 #[.val (.long i0), .second, .val (.long i1), .second, .val (.int i2), .val (.long i3), .second, .val (.long i4), .second, .val (.int v9), .val (.long bv), .second, .val ra, .val rb, .val (.ref ax), .val (.ref ay), .val (.int kk), .val .null, .val (.int (0 : Int32))] [(.int (if i0 = i0 then (1 : Int32) else 0))]))
        refine EndsK.go (fun _ kz => XS.ifYes X11.here hx rfl (pc0 := 196) (pc' := 201) rfl (hb hby at_196) rfl ((if0 _ _).trans (feq (by rw [if_pos rfl]; decide : ¬ ((if i0 = i0 then (1 : Int32) else 0) = (0 : Int32)))).2) (by decide) (by decide) kz) ?_
        show EndsK p e below _ (T11.setTop (mkF m 201 #[.val (.long i0), .second, .val (.long i1), .second, .val (.int i2), .val (.long i3), .second, .val (.long i4), .second, .val (.int v9), .val (.long bv), .second, .val ra, .val rb, .val (.ref ax), .val (.ref ay), .val (.int kk), .val .null, .val (.int (0 : Int32))] []))
        refine EndsK.go (fun _ kz => XS.iload X11.here hx rfl (hb hby at_201) rfl kz) ?_
        show EndsK p e below _ (T11.setTop (mkF m 203 #[.val (.long i0), .second, .val (.long i1), .second, .val (.int i2), .val (.long i3), .second, .val (.long i4), .second, .val (.int v9), .val (.long bv), .second, .val ra, .val rb, .val (.ref ax), .val (.ref ay), .val (.int kk), .val .null, .val (.int (0 : Int32))] [(.int kk)]))
        refine EndsK.go (fun _ kz => XS.ifYes X11.here hx rfl (pc0 := 203) (pc' := 220) rfl (hb hby at_203) rfl ((if0 _ _).trans (feq H109_1).2) (by decide) (by decide) kz) ?_
        show EndsK p e below _ (T11.setTop (mkF m 220 #[.val (.long i0), .second, .val (.long i1), .second, .val (.int i2), .val (.long i3), .second, .val (.long i4), .second, .val (.int v9), .val (.long bv), .second, .val ra, .val rb, .val (.ref ax), .val (.ref ay), .val (.int kk), .val .null, .val (.int (0 : Int32))] []))
        refine EndsK.go (fun _ kz => XS.iconst X11.here hx rfl (hb hby at_220) kz) ?_
        show EndsK p e below _ (T11.setTop (mkF m 221 #[.val (.long i0), .second, .val (.long i1), .second, .val (.int i2), .val (.long i3), .second, .val (.long i4), .second, .val (.int v9), .val (.long bv), .second, .val ra, .val rb, .val (.ref ax), .val (.ref ay), .val (.int kk), .val .null, .val (.int (0 : Int32))] [(.int (1 : Int32))]))
        exact endN X11 hx (t := .boolean) Bd.returns (by simp) (hb hby at_221) hlk ⟨rfl, M11⟩ (by decide) (by decide)
      · refine EndsK.go (fun _ kz => XS.icmpYes XJ.here hx rfl (pc0 := 122) (pc' := 131) rfl (hb hby at_122) rfl (feq H122_9).2 (by decide) (by decide) kz) ?_
        show EndsK p e below _ (T.setTop (mkF m 131 #[.val (.long i0), .second, .val (.long i1), .second, .val (.int i2), .val (.long i3), .second, .val (.long i4), .second, .val (.int v9), .val (.long bv), .second, .val ra, .val rb, .val (.ref ax), .val (.ref ay), .val (.int kk), .unset, .unset] []))
        refine EndsK.go (fun _ kz => XS.iload XJ.here hx rfl (hb hby at_131) rfl kz) ?_
        show EndsK p e below _ (T.setTop (mkF m 133 #[.val (.long i0), .second, .val (.long i1), .second, .val (.int i2), .val (.long i3), .second, .val (.long i4), .second, .val (.int v9), .val (.long bv), .second, .val ra, .val rb, .val (.ref ax), .val (.ref ay), .val (.int kk), .unset, .unset] [(.int kk)]))
        refine EndsK.go (fun _ kz => XS.iconst XJ.here hx rfl (hb hby at_133) kz) ?_
        show EndsK p e below _ (T.setTop (mkF m 134 #[.val (.long i0), .second, .val (.long i1), .second, .val (.int i2), .val (.long i3), .second, .val (.long i4), .second, .val (.int v9), .val (.long bv), .second, .val ra, .val rb, .val (.ref ax), .val (.ref ay), .val (.int kk), .unset, .unset] [(.int (2 : Int32)), (.int kk)]))
        by_cases H134_12 : kk = (2 : Int32)
        · refine EndsK.go (fun _ kz => XS.icmpNo XJ.here hx rfl (hb hby at_134) rfl (teq H134_12).2 kz) ?_
          show EndsK p e below _ (T.setTop (mkF m 137 #[.val (.long i0), .second, .val (.long i1), .second, .val (.int i2), .val (.long i3), .second, .val (.long i4), .second, .val (.int v9), .val (.long bv), .second, .val ra, .val rb, .val (.ref ax), .val (.ref ay), .val (.int kk), .unset, .unset] []))
          refine EndsK.go (fun _ kz => XS.lloadN XJ.here hx rfl (hb hby at_137) rfl kz) ?_
          show EndsK p e below _ (T.setTop (mkF m 138 #[.val (.long i0), .second, .val (.long i1), .second, .val (.int i2), .val (.long i3), .second, .val (.long i4), .second, .val (.int v9), .val (.long bv), .second, .val ra, .val rb, .val (.ref ax), .val (.ref ay), .val (.int kk), .unset, .unset] [(.long i0)]))
          obtain ⟨_, _, ⟨T13, L13, k13, n13⟩, -, X13, ⟨Lc13, hQ13, l13, y13, z13⟩, st13⟩ := Jvm.LawKit.callS XJ hx (y := (⟨"java/lang/Long", "valueOf", "(J)Ljava/lang/Long;"⟩ : MethodName)) hown (mvT hZ (hw _ (List.mem_of_getElem? (i := 48) rfl))) (mvT hZ (hw _ (List.mem_of_getElem? (i := 49) rfl))) (mvT hZ (hw _ (List.mem_of_getElem? (i := 50) rfl))) (mvT hZ (hw _ (List.mem_of_getElem? (i := 51) rfl))) (by decide) (backOf (W := 0) (rm_lv l Z a0 hw [] i0 ca cl h n0 ZJ (SC.ext PJ) (AC.ext PJ) hsz (fun j hj => by obtain ⟨b, q1, q2⟩ := hC j hj; exact ⟨b, q1, q2.ext PJ⟩)) hZ (hw _ (List.mem_of_getElem? (i := 51) rfl)) (hw _ (List.mem_of_getElem? (i := 50) rfl)) (by decide) (by decide)) (g := (mkF m 138 #[.val (.long i0), .second, .val (.long i1), .second, .val (.int i2), .val (.long i3), .second, .val (.long i4), .second, .val (.int v9), .val (.long bv), .second, .val ra, .val rb, .val (.ref ax), .val (.ref ay), .val (.int kk), .unset, .unset] [(.long i0)])) rfl (by rw [hml]; rfl) (argsL := [(.long i0)]) (rest := []) (lenOf pd3 rfl) rfl (by show 2 * 0 + _ ≤ _; exact Nat.le_of_eq rfl) (hb hby at_138) (fun _ _ => ⟨rfl, eJ, (by decide : 6 + 1 ≤ _), (by decide : 24 + 1 ≤ _)⟩)
          dsimp only [Pt.U, Pt.locs, Pt.cells, Pt.slots] at X13 l13 y13 z13 st13 hQ13
          subst l13 y13 z13
          obtain ⟨al, rfl, N13, E13, A13⟩ := hQ13
          have M13 := Fr.app N0 N13
          obtain ⟨h13, e13⟩ : ∃ z, T13.heap = z := ⟨_, rfl⟩
          rw [e13] at E13 A13
          have Y13 : Stand p l e room_1 s m #[.long i0, .long i1, .int i2, .long i3, .long i4] below meth c T13 [] 7 32 := (X13.dropFresh (J := _) (fun x hx => by rw [hh, ← hn0]; exact N13 x hx)).mono (by decide) (by decide)
          have P13 := ext_trans PJ E13
          have Z13 : n0 ≤ h13.size := Nat.le_trans Z0 P13.1
          have E13_ax := Ex.ext E13
          have E13_ay := Ey.ext E13
          have F13_version_ax := Fx.ext E13
          have F13_version_ay := Fy.ext E13
          refine EndsK.go st13 ?_
          show EndsK p e below _ (T13.setTop (mkF m 141 #[.val (.long i0), .second, .val (.long i1), .second, .val (.int i2), .val (.long i3), .second, .val (.long i4), .second, .val (.int v9), .val (.long bv), .second, .val ra, .val rb, .val (.ref ax), .val (.ref ay), .val (.int kk), .unset, .unset] [(.ref al)]))
          refine EndsK.go (fun _ kz => XS.astore Y13.here hx rfl (hb hby at_141) rfl rfl (l' := #[.val (.long i0), .second, .val (.long i1), .second, .val (.int i2), .val (.long i3), .second, .val (.long i4), .second, .val (.int v9), .val (.long bv), .second, .val ra, .val rb, .val (.ref ax), .val (.ref ay), .val (.int kk), .val (.ref al), .unset]) rfl kz) ?_
          show EndsK p e below _ (T13.setTop (mkF m 143 #[.val (.long i0), .second, .val (.long i1), .second, .val (.int i2), .val (.long i3), .second, .val (.long i4), .second, .val (.int v9), .val (.long bv), .second, .val ra, .val rb, .val (.ref ax), .val (.ref ay), .val (.int kk), .val (.ref al), .unset] []))
          refine EndsK.go (fun _ kz => XS.goto Y13.here hx rfl (pc0 := 143) (pc' := 156) rfl (hb hby at_143) (by decide) (by decide) kz) ?_
          show EndsK p e below _ (T13.setTop (mkF m 156 #[.val (.long i0), .second, .val (.long i1), .second, .val (.int i2), .val (.long i3), .second, .val (.long i4), .second, .val (.int v9), .val (.long bv), .second, .val ra, .val rb, .val (.ref ax), .val (.ref ay), .val (.int kk), .val (.ref al), .unset] []))
          refine EndsK.go (fun _ kz => XS.iload Y13.here hx rfl (hb hby at_156) rfl kz) ?_
          show EndsK p e below _ (T13.setTop (mkF m 158 #[.val (.long i0), .second, .val (.long i1), .second, .val (.int i2), .val (.long i3), .second, .val (.long i4), .second, .val (.int v9), .val (.long bv), .second, .val ra, .val rb, .val (.ref ax), .val (.ref ay), .val (.int kk), .val (.ref al), .unset] [(.int kk)]))
          refine EndsK.go (fun _ kz => XS.ifYes Y13.here hx rfl (pc0 := 158) (pc' := 172) rfl (hb hby at_158) rfl ((if0 _ _).trans (feq H109_1).2) (by decide) (by decide) kz) ?_
          show EndsK p e below _ (T13.setTop (mkF m 172 #[.val (.long i0), .second, .val (.long i1), .second, .val (.int i2), .val (.long i3), .second, .val (.long i4), .second, .val (.int v9), .val (.long bv), .second, .val ra, .val rb, .val (.ref ax), .val (.ref ay), .val (.int kk), .val (.ref al), .unset] []))
          refine EndsK.go (fun _ kz => XS.iconst Y13.here hx rfl (hb hby at_172) kz) ?_
          show EndsK p e below _ (T13.setTop (mkF m 173 #[.val (.long i0), .second, .val (.long i1), .second, .val (.int i2), .val (.long i3), .second, .val (.long i4), .second, .val (.int v9), .val (.long bv), .second, .val ra, .val rb, .val (.ref ax), .val (.ref ay), .val (.int kk), .val (.ref al), .unset] [(.int (0 : Int32))]))
          refine EndsK.go (fun _ kz => XS.istore Y13.here hx rfl (hb hby at_173) rfl (l' := #[.val (.long i0), .second, .val (.long i1), .second, .val (.int i2), .val (.long i3), .second, .val (.long i4), .second, .val (.int v9), .val (.long bv), .second, .val ra, .val rb, .val (.ref ax), .val (.ref ay), .val (.int kk), .val (.ref al), .val (.int (0 : Int32))]) rfl kz) ?_
          show EndsK p e below _ (T13.setTop (mkF m 175 #[.val (.long i0), .second, .val (.long i1), .second, .val (.int i2), .val (.long i3), .second, .val (.long i4), .second, .val (.int v9), .val (.long bv), .second, .val ra, .val rb, .val (.ref ax), .val (.ref ay), .val (.int kk), .val (.ref al), .val (.int (0 : Int32))] []))
          refine EndsK.go (fun _ kz => XS.aload Y13.here hx rfl (hb hby at_175) rfl rfl kz) ?_
          show EndsK p e below _ (T13.setTop (mkF m 177 #[.val (.long i0), .second, .val (.long i1), .second, .val (.int i2), .val (.long i3), .second, .val (.long i4), .second, .val (.int v9), .val (.long bv), .second, .val ra, .val rb, .val (.ref ax), .val (.ref ay), .val (.int kk), .val (.ref al), .val (.int (0 : Int32))] [(.ref ax)]))
          refine EndsK.go (fun _ kz => XS.aload Y13.here hx rfl (hb hby at_177) rfl rfl kz) ?_
          show EndsK p e below _ (T13.setTop (mkF m 179 #[.val (.long i0), .second, .val (.long i1), .second, .val (.int i2), .val (.long i3), .second, .val (.long i4), .second, .val (.int v9), .val (.long bv), .second, .val ra, .val rb, .val (.ref ax), .val (.ref ay), .val (.int kk), .val (.ref al), .val (.int (0 : Int32))] [(.ref al), (.ref ax)]))
          obtain ⟨cq14, kq14, qa14, qb14, qc14⟩ := isOf hZ e13 E13_ax
          obtain ⟨_, _, ⟨T14, L14, k14, n14⟩, -, X14, ⟨Lc14, hQ14, l14, y14, z14⟩, st14⟩ := Y13.virtualBack hx (y := (⟨"com/example/update_by_version/updatebyversion/Marker$Version", "equals", "(Ljava/lang/Object;)Z"⟩ : MethodName)) (z := (⟨"com/example/update_by_version/updatebyversion/Marker$Version", "equals", "(Ljava/lang/Object;)Z"⟩ : MethodName)) hown (mvT hZ (hw _ (List.mem_of_getElem? (i := 18) rfl))) (mvT hZ (hw _ (List.mem_of_getElem? (i := 19) rfl))) (notFace_of_selects (args := #[]) (mvT hZ (hw _ (List.mem_of_getElem? (i := 21) rfl)))) (mvT hZ (hw _ (List.mem_of_getElem? (i := 21) rfl))) (mvT hZ (hw _ (List.mem_of_getElem? (i := 20) rfl))) (by decide) (backOf (W := 0) (rm_eqO l Z a0 hw [] ax i0 al "java/lang/Long" h13 n0 Z13 F13_version_ax E13_ax A13 noL) hZ (hw _ (List.mem_of_getElem? (i := 22) rfl)) (hw _ (List.mem_of_getElem? (i := 2) rfl)) (by decide) (by decide)) qa14 qc14 (g := (mkF m 179 #[.val (.long i0), .second, .val (.long i1), .second, .val (.int i2), .val (.long i3), .second, .val (.long i4), .second, .val (.int v9), .val (.long bv), .second, .val ra, .val rb, .val (.ref ax), .val (.ref ay), .val (.int kk), .val (.ref al), .val (.int (0 : Int32))] [(.ref al), (.ref ax)])) rfl (by rw [hml]; rfl) (Steps.refl _) (argsL := [(.ref al)]) (rest := []) (lenOf pd2 rfl) rfl (by show 2 * 0 + _ ≤ _; exact Nat.le_of_eq rfl) (hb hby at_179) (fun _ _ => ⟨rfl, e13, (by decide : 7 + 0 ≤ _), (by decide : 32 + 0 ≤ _)⟩)
          dsimp only [Pt.U, Pt.locs, Pt.cells, Pt.slots] at X14 l14 y14 z14 st14 hQ14
          subst l14 y14 z14
          obtain ⟨rfl, N14, e14⟩ := hQ14
          have M14 := Fr.app N0 N14
          refine EndsK.tr st14 ?_
          show EndsK p e below _ (T14.setTop (mkF m 182 #[.val (.long i0), .second, .val (.long i1), .second, .val (.int i2), .val (.long i3), .second, .val (.long i4), .second, .val (.int v9), .val (.long bv), .second, .val ra, .val rb, .val (.ref ax), .val (.ref ay), .val (.int kk), .val (.ref al), .val (.int (0 : Int32))] [(.int (0 : Int32))]))
          refine EndsK.go (fun _ kz => XS.iload X14.here hx rfl (hb hby at_182) rfl kz) ?_
          show EndsK p e below _ (T14.setTop (mkF m 184 #[.val (.long i0), .second, .val (.long i1), .second, .val (.int i2), .val (.long i3), .second, .val (.long i4), .second, .val (.int v9), .val (.long bv), .second, .val ra, .val rb, .val (.ref ax), .val (.ref ay), .val (.int kk), .val (.ref al), .val (.int (0 : Int32))] [(.int (0 : Int32)), (.int (0 : Int32))]))
          refine EndsK.go (fun _ kz => XS.icmpYes X14.here hx rfl (pc0 := 184) (pc' := 189) rfl (hb hby at_184) rfl (teq (rfl : (0 : Int32) = (0 : Int32))).1 (by decide) (by decide) kz) ?_
          show EndsK p e below _ (T14.setTop (mkF m 189 #[.val (.long i0), .second, .val (.long i1), .second, .val (.int i2), .val (.long i3), .second, .val (.long i4), .second, .val (.int v9), .val (.long bv), .second, .val ra, .val rb, .val (.ref ax), .val (.ref ay), .val (.int kk), .val (.ref al), .val (.int (0 : Int32))] []))
          refine EndsK.go (fun _ kz => XS.aload X14.here hx rfl (hb hby at_189) rfl rfl kz) ?_
          show EndsK p e below _ (T14.setTop (mkF m 191 #[.val (.long i0), .second, .val (.long i1), .second, .val (.int i2), .val (.long i3), .second, .val (.long i4), .second, .val (.int v9), .val (.long bv), .second, .val ra, .val rb, .val (.ref ax), .val (.ref ay), .val (.int kk), .val (.ref al), .val (.int (0 : Int32))] [(.ref ax)]))
          refine EndsK.go (fun _ kz => XS.aload X14.here hx rfl (hb hby at_191) rfl rfl kz) ?_
          show EndsK p e below _ (T14.setTop (mkF m 193 #[.val (.long i0), .second, .val (.long i1), .second, .val (.int i2), .val (.long i3), .second, .val (.long i4), .second, .val (.int v9), .val (.long bv), .second, .val ra, .val rb, .val (.ref ax), .val (.ref ay), .val (.int kk), .val (.ref al), .val (.int (0 : Int32))] [(.ref ax), (.ref ax)]))
          obtain ⟨cq15, kq15, qa15, qb15, qc15⟩ := isOf hZ e14 E13_ax
          obtain ⟨_, _, ⟨T15, L15, k15, n15⟩, -, X15, ⟨Lc15, hQ15, l15, y15, z15⟩, st15⟩ := X14.virtualBack hx (y := (⟨"com/example/update_by_version/updatebyversion/Marker$Version", "equals", "(Ljava/lang/Object;)Z"⟩ : MethodName)) (z := (⟨"com/example/update_by_version/updatebyversion/Marker$Version", "equals", "(Ljava/lang/Object;)Z"⟩ : MethodName)) hown (mvT hZ (hw _ (List.mem_of_getElem? (i := 18) rfl))) (mvT hZ (hw _ (List.mem_of_getElem? (i := 19) rfl))) (notFace_of_selects (args := #[]) (mvT hZ (hw _ (List.mem_of_getElem? (i := 21) rfl)))) (mvT hZ (hw _ (List.mem_of_getElem? (i := 21) rfl))) (mvT hZ (hw _ (List.mem_of_getElem? (i := 20) rfl))) (by decide) (backOf (W := 0) (rm_eqV l Z a0 hw [] ax i0 ax i0 h13 n0 Z13 F13_version_ax E13_ax E13_ax F13_version_ax) hZ (hw _ (List.mem_of_getElem? (i := 22) rfl)) (hw _ (List.mem_of_getElem? (i := 2) rfl)) (by decide) (by decide)) qa15 qc15 (g := (mkF m 193 #[.val (.long i0), .second, .val (.long i1), .second, .val (.int i2), .val (.long i3), .second, .val (.long i4), .second, .val (.int v9), .val (.long bv), .second, .val ra, .val rb, .val (.ref ax), .val (.ref ay), .val (.int kk), .val (.ref al), .val (.int (0 : Int32))] [(.ref ax), (.ref ax)])) rfl (by rw [hml]; rfl) (Steps.refl _) (argsL := [(.ref ax)]) (rest := []) (lenOf pd2 rfl) rfl (by show 2 * 0 + _ ≤ _; exact Nat.le_of_eq rfl) (hb hby at_193) (fun _ _ => ⟨rfl, e14, (by decide : 7 + 0 + 0 ≤ _), (by decide : 32 + 0 + 0 ≤ _)⟩)
          dsimp only [Pt.U, Pt.locs, Pt.cells, Pt.slots] at X15 l15 y15 z15 st15 hQ15
          subst l15 y15 z15
          obtain ⟨rfl, N15, e15⟩ := hQ15
          have M15 := Fr.app M14 N15
          refine EndsK.tr st15 ?_
          show EndsK p e below _ (T15.setTop (mkF m 196 #[.val (.long i0), .second, .val (.long i1), .second, .val (.int i2), .val (.long i3), .second, .val (.long i4), .second, .val (.int v9), .val (.long bv), .second, .val ra, .val rb, .val (.ref ax), .val (.ref ay), .val (.int kk), .val (.ref al), .val (.int (0 : Int32))] [(.int (if i0 = i0 then (1 : Int32) else 0))]))
          refine EndsK.go (fun _ kz => XS.ifYes X15.here hx rfl (pc0 := 196) (pc' := 201) rfl (hb hby at_196) rfl ((if0 _ _).trans (feq (by rw [if_pos rfl]; decide : ¬ ((if i0 = i0 then (1 : Int32) else 0) = (0 : Int32)))).2) (by decide) (by decide) kz) ?_
          show EndsK p e below _ (T15.setTop (mkF m 201 #[.val (.long i0), .second, .val (.long i1), .second, .val (.int i2), .val (.long i3), .second, .val (.long i4), .second, .val (.int v9), .val (.long bv), .second, .val ra, .val rb, .val (.ref ax), .val (.ref ay), .val (.int kk), .val (.ref al), .val (.int (0 : Int32))] []))
          refine EndsK.go (fun _ kz => XS.iload X15.here hx rfl (hb hby at_201) rfl kz) ?_
          show EndsK p e below _ (T15.setTop (mkF m 203 #[.val (.long i0), .second, .val (.long i1), .second, .val (.int i2), .val (.long i3), .second, .val (.long i4), .second, .val (.int v9), .val (.long bv), .second, .val ra, .val rb, .val (.ref ax), .val (.ref ay), .val (.int kk), .val (.ref al), .val (.int (0 : Int32))] [(.int kk)]))
          refine EndsK.go (fun _ kz => XS.ifYes X15.here hx rfl (pc0 := 203) (pc' := 220) rfl (hb hby at_203) rfl ((if0 _ _).trans (feq H109_1).2) (by decide) (by decide) kz) ?_
          show EndsK p e below _ (T15.setTop (mkF m 220 #[.val (.long i0), .second, .val (.long i1), .second, .val (.int i2), .val (.long i3), .second, .val (.long i4), .second, .val (.int v9), .val (.long bv), .second, .val ra, .val rb, .val (.ref ax), .val (.ref ay), .val (.int kk), .val (.ref al), .val (.int (0 : Int32))] []))
          refine EndsK.go (fun _ kz => XS.iconst X15.here hx rfl (hb hby at_220) kz) ?_
          show EndsK p e below _ (T15.setTop (mkF m 221 #[.val (.long i0), .second, .val (.long i1), .second, .val (.int i2), .val (.long i3), .second, .val (.long i4), .second, .val (.int v9), .val (.long bv), .second, .val ra, .val rb, .val (.ref ax), .val (.ref ay), .val (.int kk), .val (.ref al), .val (.int (0 : Int32))] [(.int (1 : Int32))]))
          exact endN X15 hx (t := .boolean) Bd.returns (by simp) (hb hby at_221) hlk ⟨rfl, M15⟩ (by decide) (by decide)
        · refine EndsK.go (fun _ kz => XS.icmpYes XJ.here hx rfl (pc0 := 134) (pc' := 146) rfl (hb hby at_134) rfl (feq H134_12).2 (by decide) (by decide) kz) ?_
          show EndsK p e below _ (T.setTop (mkF m 146 #[.val (.long i0), .second, .val (.long i1), .second, .val (.int i2), .val (.long i3), .second, .val (.long i4), .second, .val (.int v9), .val (.long bv), .second, .val ra, .val rb, .val (.ref ax), .val (.ref ay), .val (.int kk), .unset, .unset] []))
          obtain ⟨T16, h16, X16, e16, E16, A16, D16, -, st16⟩ := newO XJ hx hZ hown (hw _ (List.mem_of_getElem? (i := 36) rfl)) (hw _ (List.mem_of_getElem? (i := 37) rfl)) (hw _ (List.mem_of_getElem? (i := 38) rfl)) eJ (g := (mkF m 146 #[.val (.long i0), .second, .val (.long i1), .second, .val (.int i2), .val (.long i3), .second, .val (.long i4), .second, .val (.int v9), .val (.long bv), .second, .val ra, .val rb, .val (.ref ax), .val (.ref ay), .val (.int kk), .unset, .unset] [])) rfl (hb hby at_146) (by decide) (by decide)
          obtain ⟨atm, g16⟩ : ∃ z, z = h.size := ⟨_, rfl⟩
          rw [← g16] at A16 D16 st16
          refine EndsK.go st16 ?_
          have E16_ax := Ex.ext E16
          have E16_ay := Ey.ext E16
          have F16_version_ax := Fx.ext E16
          have F16_version_ay := Fy.ext E16
          have F16_timestamp : Fld Z h16 atm "com/example/update_by_version/updatebyversion/Marker$Timestamp" "timestamp" "Ljava/time/LocalDateTime;" .null := D16 (Or.inr (hw _ (List.mem_of_getElem? (i := 44) rfl))) (ty := (.object "java/time/LocalDateTime")) (by decide)
          have Z16 : n0 ≤ h16.size := Nat.le_trans ZJ E16.1
          have G16 : n0 ≤ atm := by rw [g16]; exact ZJ
          have P16 := ext_trans PJ E16
          have sz_atm : h0.size ≤ atm := by rw [g16]; exact PJ.1
          have ne_ax_atm : ax ≠ atm := Nat.ne_of_lt (by rw [g16]; exact Ex.lt)
          have ne_ay_atm : ay ≠ atm := Nat.ne_of_lt (by rw [g16]; exact Ey.lt)
          show EndsK p e below _ (T16.setTop (mkF m 149 #[.val (.long i0), .second, .val (.long i1), .second, .val (.int i2), .val (.long i3), .second, .val (.long i4), .second, .val (.int v9), .val (.long bv), .second, .val ra, .val rb, .val (.ref ax), .val (.ref ay), .val (.int kk), .unset, .unset] [(.ref atm)]))
          refine EndsK.go (fun _ kz => XS.dup X16.here hx rfl (hb hby at_149) rfl rfl kz) ?_
          show EndsK p e below _ (T16.setTop (mkF m 150 #[.val (.long i0), .second, .val (.long i1), .second, .val (.int i2), .val (.long i3), .second, .val (.long i4), .second, .val (.int v9), .val (.long bv), .second, .val ra, .val rb, .val (.ref ax), .val (.ref ay), .val (.int kk), .unset, .unset] [(.ref atm), (.ref atm)]))
          refine EndsK.go (fun _ kz => XS.aconstNull X16.here hx rfl (hb hby at_150) kz) ?_
          show EndsK p e below _ (T16.setTop (mkF m 151 #[.val (.long i0), .second, .val (.long i1), .second, .val (.int i2), .val (.long i3), .second, .val (.long i4), .second, .val (.int v9), .val (.long bv), .second, .val ra, .val rb, .val (.ref ax), .val (.ref ay), .val (.int kk), .unset, .unset] [.null, (.ref atm), (.ref atm)]))
          obtain ⟨_, _, ⟨T17, L17, k17, n17⟩, -, X17, ⟨Lc17, hQ17, l17, y17, z17⟩, st17⟩ := X16.specialBack hx (y := (⟨"com/example/update_by_version/updatebyversion/Marker$Timestamp", "<init>", "(Ljava/time/LocalDateTime;)V"⟩ : MethodName)) rfl hown (mvT hZ (hw _ (List.mem_of_getElem? (i := 39) rfl))) (mvT hZ (hw _ (List.mem_of_getElem? (i := 40) rfl))) (mvT hZ (hw _ (List.mem_of_getElem? (i := 41) rfl))) (by decide) (backOf (W := 1) (rm_ti l Z a0 hw [] atm  h16 n0 Z16 G16 A16 F16_timestamp) hZ (hw _ (List.mem_of_getElem? (i := 41) rfl)) (hw _ (List.mem_of_getElem? (i := 38) rfl)) (by decide) (by decide)) (g := (mkF m 151 #[.val (.long i0), .second, .val (.long i1), .second, .val (.int i2), .val (.long i3), .second, .val (.long i4), .second, .val (.int v9), .val (.long bv), .second, .val ra, .val rb, .val (.ref ax), .val (.ref ay), .val (.int kk), .unset, .unset] [.null, (.ref atm), (.ref atm)])) rfl (by rw [hml]; rfl) (Steps.refl _) (a := atm) (argsL := [.null]) (rest := [(.ref atm)]) (lenOf pd4 rfl) rfl (by show 2 * 0 + _ ≤ _; exact Nat.le_of_eq rfl) (hb hby at_151) (fun _ _ => ⟨rfl, e16, (by decide : 6 + 1 + 0 ≤ _), (by decide : 24 + 1 + 0 ≤ _)⟩)
          dsimp only [Pt.U, Pt.locs, Pt.cells, Pt.slots] at X17 l17 y17 z17 st17 hQ17
          subst l17 y17 z17
          obtain ⟨rfl, N17, K17, E17, F17_timestamp⟩ := hQ17
          have M17 := Fr.app N0 N17
          obtain ⟨h17, e17⟩ : ∃ z, T17.heap = z := ⟨_, rfl⟩
          rw [e17] at K17 E17 F17_timestamp
          have Y17 : Stand p l e room_1 s m #[.long i0, .long i1, .int i2, .long i3, .long i4] below meth c T17 [] 7 32 := (X17.dropFresh (J := _) (fun x hx => by rw [hh, ← hn0]; exact N17 x hx)).mono (by decide) (by decide)
          have P17 : Ext h0 h17 := ext_keep P16 K17 (allS (by rw [← hn0]; exact G16) all0)
          have Z17 : n0 ≤ h17.size := Nat.le_trans Z0 P17.1
          have E17_ax := E16_ax.keep K17
          have E17_ay := E16_ay.keep K17
          have F17_ax_version := F16_version_ax.keep K17 (ninS (Nat.ne_of_lt (by rw [g16]; exact Fx.lt)) nin0)
          have F17_ay_version := F16_version_ay.keep K17 (ninS (Nat.ne_of_lt (by rw [g16]; exact Fy.lt)) nin0)
          refine EndsK.tr st17 ?_
          show EndsK p e below _ (T17.setTop (mkF m 154 #[.val (.long i0), .second, .val (.long i1), .second, .val (.int i2), .val (.long i3), .second, .val (.long i4), .second, .val (.int v9), .val (.long bv), .second, .val ra, .val rb, .val (.ref ax), .val (.ref ay), .val (.int kk), .unset, .unset] [(.ref atm)]))
          refine EndsK.go (fun _ kz => XS.astore Y17.here hx rfl (hb hby at_154) rfl rfl (l' := #[.val (.long i0), .second, .val (.long i1), .second, .val (.int i2), .val (.long i3), .second, .val (.long i4), .second, .val (.int v9), .val (.long bv), .second, .val ra, .val rb, .val (.ref ax), .val (.ref ay), .val (.int kk), .val (.ref atm), .unset]) rfl kz) ?_
          show EndsK p e below _ (T17.setTop (mkF m 156 #[.val (.long i0), .second, .val (.long i1), .second, .val (.int i2), .val (.long i3), .second, .val (.long i4), .second, .val (.int v9), .val (.long bv), .second, .val ra, .val rb, .val (.ref ax), .val (.ref ay), .val (.int kk), .val (.ref atm), .unset] []))
          refine EndsK.go (fun _ kz => XS.iload Y17.here hx rfl (hb hby at_156) rfl kz) ?_
          show EndsK p e below _ (T17.setTop (mkF m 158 #[.val (.long i0), .second, .val (.long i1), .second, .val (.int i2), .val (.long i3), .second, .val (.long i4), .second, .val (.int v9), .val (.long bv), .second, .val ra, .val rb, .val (.ref ax), .val (.ref ay), .val (.int kk), .val (.ref atm), .unset] [(.int kk)]))
          refine EndsK.go (fun _ kz => XS.ifYes Y17.here hx rfl (pc0 := 158) (pc' := 172) rfl (hb hby at_158) rfl ((if0 _ _).trans (feq H109_1).2) (by decide) (by decide) kz) ?_
          show EndsK p e below _ (T17.setTop (mkF m 172 #[.val (.long i0), .second, .val (.long i1), .second, .val (.int i2), .val (.long i3), .second, .val (.long i4), .second, .val (.int v9), .val (.long bv), .second, .val ra, .val rb, .val (.ref ax), .val (.ref ay), .val (.int kk), .val (.ref atm), .unset] []))
          refine EndsK.go (fun _ kz => XS.iconst Y17.here hx rfl (hb hby at_172) kz) ?_
          show EndsK p e below _ (T17.setTop (mkF m 173 #[.val (.long i0), .second, .val (.long i1), .second, .val (.int i2), .val (.long i3), .second, .val (.long i4), .second, .val (.int v9), .val (.long bv), .second, .val ra, .val rb, .val (.ref ax), .val (.ref ay), .val (.int kk), .val (.ref atm), .unset] [(.int (0 : Int32))]))
          refine EndsK.go (fun _ kz => XS.istore Y17.here hx rfl (hb hby at_173) rfl (l' := #[.val (.long i0), .second, .val (.long i1), .second, .val (.int i2), .val (.long i3), .second, .val (.long i4), .second, .val (.int v9), .val (.long bv), .second, .val ra, .val rb, .val (.ref ax), .val (.ref ay), .val (.int kk), .val (.ref atm), .val (.int (0 : Int32))]) rfl kz) ?_
          show EndsK p e below _ (T17.setTop (mkF m 175 #[.val (.long i0), .second, .val (.long i1), .second, .val (.int i2), .val (.long i3), .second, .val (.long i4), .second, .val (.int v9), .val (.long bv), .second, .val ra, .val rb, .val (.ref ax), .val (.ref ay), .val (.int kk), .val (.ref atm), .val (.int (0 : Int32))] []))
          refine EndsK.go (fun _ kz => XS.aload Y17.here hx rfl (hb hby at_175) rfl rfl kz) ?_
          show EndsK p e below _ (T17.setTop (mkF m 177 #[.val (.long i0), .second, .val (.long i1), .second, .val (.int i2), .val (.long i3), .second, .val (.long i4), .second, .val (.int v9), .val (.long bv), .second, .val ra, .val rb, .val (.ref ax), .val (.ref ay), .val (.int kk), .val (.ref atm), .val (.int (0 : Int32))] [(.ref ax)]))
          refine EndsK.go (fun _ kz => XS.aload Y17.here hx rfl (hb hby at_177) rfl rfl kz) ?_
          show EndsK p e below _ (T17.setTop (mkF m 179 #[.val (.long i0), .second, .val (.long i1), .second, .val (.int i2), .val (.long i3), .second, .val (.long i4), .second, .val (.int v9), .val (.long bv), .second, .val ra, .val rb, .val (.ref ax), .val (.ref ay), .val (.int kk), .val (.ref atm), .val (.int (0 : Int32))] [(.ref atm), (.ref ax)]))
          obtain ⟨cq18, kq18, qa18, qb18, qc18⟩ := isOf hZ e17 E17_ax
          obtain ⟨_, _, ⟨T18, L18, k18, n18⟩, -, X18, ⟨Lc18, hQ18, l18, y18, z18⟩, st18⟩ := Y17.virtualBack hx (y := (⟨"com/example/update_by_version/updatebyversion/Marker$Version", "equals", "(Ljava/lang/Object;)Z"⟩ : MethodName)) (z := (⟨"com/example/update_by_version/updatebyversion/Marker$Version", "equals", "(Ljava/lang/Object;)Z"⟩ : MethodName)) hown (mvT hZ (hw _ (List.mem_of_getElem? (i := 18) rfl))) (mvT hZ (hw _ (List.mem_of_getElem? (i := 19) rfl))) (notFace_of_selects (args := #[]) (mvT hZ (hw _ (List.mem_of_getElem? (i := 21) rfl)))) (mvT hZ (hw _ (List.mem_of_getElem? (i := 21) rfl))) (mvT hZ (hw _ (List.mem_of_getElem? (i := 20) rfl))) (by decide) (backOf (W := 0) (rm_eqO l Z a0 hw [] ax i0 atm "com/example/update_by_version/updatebyversion/Marker$Timestamp" h17 n0 Z17 F17_ax_version E17_ax E17 noT) hZ (hw _ (List.mem_of_getElem? (i := 22) rfl)) (hw _ (List.mem_of_getElem? (i := 2) rfl)) (by decide) (by decide)) qa18 qc18 (g := (mkF m 179 #[.val (.long i0), .second, .val (.long i1), .second, .val (.int i2), .val (.long i3), .second, .val (.long i4), .second, .val (.int v9), .val (.long bv), .second, .val ra, .val rb, .val (.ref ax), .val (.ref ay), .val (.int kk), .val (.ref atm), .val (.int (0 : Int32))] [(.ref atm), (.ref ax)])) rfl (by rw [hml]; rfl) (Steps.refl _) (argsL := [(.ref atm)]) (rest := []) (lenOf pd2 rfl) rfl (by show 2 * 0 + _ ≤ _; exact Nat.le_of_eq rfl) (hb hby at_179) (fun _ _ => ⟨rfl, e17, (by decide : 7 + 0 ≤ _), (by decide : 32 + 0 ≤ _)⟩)
          dsimp only [Pt.U, Pt.locs, Pt.cells, Pt.slots] at X18 l18 y18 z18 st18 hQ18
          subst l18 y18 z18
          obtain ⟨rfl, N18, e18⟩ := hQ18
          have M18 := Fr.app N0 N18
          refine EndsK.tr st18 ?_
          show EndsK p e below _ (T18.setTop (mkF m 182 #[.val (.long i0), .second, .val (.long i1), .second, .val (.int i2), .val (.long i3), .second, .val (.long i4), .second, .val (.int v9), .val (.long bv), .second, .val ra, .val rb, .val (.ref ax), .val (.ref ay), .val (.int kk), .val (.ref atm), .val (.int (0 : Int32))] [(.int (0 : Int32))]))
          refine EndsK.go (fun _ kz => XS.iload X18.here hx rfl (hb hby at_182) rfl kz) ?_
          show EndsK p e below _ (T18.setTop (mkF m 184 #[.val (.long i0), .second, .val (.long i1), .second, .val (.int i2), .val (.long i3), .second, .val (.long i4), .second, .val (.int v9), .val (.long bv), .second, .val ra, .val rb, .val (.ref ax), .val (.ref ay), .val (.int kk), .val (.ref atm), .val (.int (0 : Int32))] [(.int (0 : Int32)), (.int (0 : Int32))]))
          refine EndsK.go (fun _ kz => XS.icmpYes X18.here hx rfl (pc0 := 184) (pc' := 189) rfl (hb hby at_184) rfl (teq (rfl : (0 : Int32) = (0 : Int32))).1 (by decide) (by decide) kz) ?_
          show EndsK p e below _ (T18.setTop (mkF m 189 #[.val (.long i0), .second, .val (.long i1), .second, .val (.int i2), .val (.long i3), .second, .val (.long i4), .second, .val (.int v9), .val (.long bv), .second, .val ra, .val rb, .val (.ref ax), .val (.ref ay), .val (.int kk), .val (.ref atm), .val (.int (0 : Int32))] []))
          refine EndsK.go (fun _ kz => XS.aload X18.here hx rfl (hb hby at_189) rfl rfl kz) ?_
          show EndsK p e below _ (T18.setTop (mkF m 191 #[.val (.long i0), .second, .val (.long i1), .second, .val (.int i2), .val (.long i3), .second, .val (.long i4), .second, .val (.int v9), .val (.long bv), .second, .val ra, .val rb, .val (.ref ax), .val (.ref ay), .val (.int kk), .val (.ref atm), .val (.int (0 : Int32))] [(.ref ax)]))
          refine EndsK.go (fun _ kz => XS.aload X18.here hx rfl (hb hby at_191) rfl rfl kz) ?_
          show EndsK p e below _ (T18.setTop (mkF m 193 #[.val (.long i0), .second, .val (.long i1), .second, .val (.int i2), .val (.long i3), .second, .val (.long i4), .second, .val (.int v9), .val (.long bv), .second, .val ra, .val rb, .val (.ref ax), .val (.ref ay), .val (.int kk), .val (.ref atm), .val (.int (0 : Int32))] [(.ref ax), (.ref ax)]))
          obtain ⟨cq19, kq19, qa19, qb19, qc19⟩ := isOf hZ e18 E17_ax
          obtain ⟨_, _, ⟨T19, L19, k19, n19⟩, -, X19, ⟨Lc19, hQ19, l19, y19, z19⟩, st19⟩ := X18.virtualBack hx (y := (⟨"com/example/update_by_version/updatebyversion/Marker$Version", "equals", "(Ljava/lang/Object;)Z"⟩ : MethodName)) (z := (⟨"com/example/update_by_version/updatebyversion/Marker$Version", "equals", "(Ljava/lang/Object;)Z"⟩ : MethodName)) hown (mvT hZ (hw _ (List.mem_of_getElem? (i := 18) rfl))) (mvT hZ (hw _ (List.mem_of_getElem? (i := 19) rfl))) (notFace_of_selects (args := #[]) (mvT hZ (hw _ (List.mem_of_getElem? (i := 21) rfl)))) (mvT hZ (hw _ (List.mem_of_getElem? (i := 21) rfl))) (mvT hZ (hw _ (List.mem_of_getElem? (i := 20) rfl))) (by decide) (backOf (W := 0) (rm_eqV l Z a0 hw [] ax i0 ax i0 h17 n0 Z17 F17_ax_version E17_ax E17_ax F17_ax_version) hZ (hw _ (List.mem_of_getElem? (i := 22) rfl)) (hw _ (List.mem_of_getElem? (i := 2) rfl)) (by decide) (by decide)) qa19 qc19 (g := (mkF m 193 #[.val (.long i0), .second, .val (.long i1), .second, .val (.int i2), .val (.long i3), .second, .val (.long i4), .second, .val (.int v9), .val (.long bv), .second, .val ra, .val rb, .val (.ref ax), .val (.ref ay), .val (.int kk), .val (.ref atm), .val (.int (0 : Int32))] [(.ref ax), (.ref ax)])) rfl (by rw [hml]; rfl) (Steps.refl _) (argsL := [(.ref ax)]) (rest := []) (lenOf pd2 rfl) rfl (by show 2 * 0 + _ ≤ _; exact Nat.le_of_eq rfl) (hb hby at_193) (fun _ _ => ⟨rfl, e18, (by decide : 7 + 0 + 0 ≤ _), (by decide : 32 + 0 + 0 ≤ _)⟩)
          dsimp only [Pt.U, Pt.locs, Pt.cells, Pt.slots] at X19 l19 y19 z19 st19 hQ19
          subst l19 y19 z19
          obtain ⟨rfl, N19, e19⟩ := hQ19
          have M19 := Fr.app M18 N19
          refine EndsK.tr st19 ?_
          show EndsK p e below _ (T19.setTop (mkF m 196 #[.val (.long i0), .second, .val (.long i1), .second, .val (.int i2), .val (.long i3), .second, .val (.long i4), .second, .val (.int v9), .val (.long bv), .second, .val ra, .val rb, .val (.ref ax), .val (.ref ay), .val (.int kk), .val (.ref atm), .val (.int (0 : Int32))] [(.int (if i0 = i0 then (1 : Int32) else 0))]))
          refine EndsK.go (fun _ kz => XS.ifYes X19.here hx rfl (pc0 := 196) (pc' := 201) rfl (hb hby at_196) rfl ((if0 _ _).trans (feq (by rw [if_pos rfl]; decide : ¬ ((if i0 = i0 then (1 : Int32) else 0) = (0 : Int32)))).2) (by decide) (by decide) kz) ?_
          show EndsK p e below _ (T19.setTop (mkF m 201 #[.val (.long i0), .second, .val (.long i1), .second, .val (.int i2), .val (.long i3), .second, .val (.long i4), .second, .val (.int v9), .val (.long bv), .second, .val ra, .val rb, .val (.ref ax), .val (.ref ay), .val (.int kk), .val (.ref atm), .val (.int (0 : Int32))] []))
          refine EndsK.go (fun _ kz => XS.iload X19.here hx rfl (hb hby at_201) rfl kz) ?_
          show EndsK p e below _ (T19.setTop (mkF m 203 #[.val (.long i0), .second, .val (.long i1), .second, .val (.int i2), .val (.long i3), .second, .val (.long i4), .second, .val (.int v9), .val (.long bv), .second, .val ra, .val rb, .val (.ref ax), .val (.ref ay), .val (.int kk), .val (.ref atm), .val (.int (0 : Int32))] [(.int kk)]))
          refine EndsK.go (fun _ kz => XS.ifYes X19.here hx rfl (pc0 := 203) (pc' := 220) rfl (hb hby at_203) rfl ((if0 _ _).trans (feq H109_1).2) (by decide) (by decide) kz) ?_
          show EndsK p e below _ (T19.setTop (mkF m 220 #[.val (.long i0), .second, .val (.long i1), .second, .val (.int i2), .val (.long i3), .second, .val (.long i4), .second, .val (.int v9), .val (.long bv), .second, .val ra, .val rb, .val (.ref ax), .val (.ref ay), .val (.int kk), .val (.ref atm), .val (.int (0 : Int32))] []))
          refine EndsK.go (fun _ kz => XS.iconst X19.here hx rfl (hb hby at_220) kz) ?_
          show EndsK p e below _ (T19.setTop (mkF m 221 #[.val (.long i0), .second, .val (.long i1), .second, .val (.int i2), .val (.long i3), .second, .val (.long i4), .second, .val (.int v9), .val (.long bv), .second, .val ra, .val rb, .val (.ref ax), .val (.ref ay), .val (.int kk), .val (.ref atm), .val (.int (0 : Int32))] [(.int (1 : Int32))]))
          exact endN X19 hx (t := .boolean) Bd.returns (by simp) (hb hby at_221) hlk ⟨rfl, M19⟩ (by decide) (by decide)
  have J74 : ∀ (T : State) (h : Heap), Stand p l e room_1 s m #[.long i0, .long i1, .int i2, .long i3, .long i4] below meth c T [] 4 16 → T.heap = h → Ext h0 h → ∀ (v9 : Int32) (bv : Int64) (ra rb : Value), ra.isRef = true → rb.isRef = true → EndsK p e below (OQ s (Q_law Z i0 i1 i2 i3 i4 ca cl h0 n0) room_1.cells room_1.slots) (T.setTop (mkF m 74 #[.val (.long i0), .second, .val (.long i1), .second, .val (.int i2), .val (.long i3), .second, .val (.long i4), .second, .val (.int v9), .val (.long bv), .second, .val ra, .val rb, .unset, .unset, .unset, .unset, .unset] [])) := by
    intro T h XJ eJ PJ v9 bv ra rb hra hrb
    have ZJ : n0 ≤ h.size := Nat.le_trans Z0 PJ.1
    show EndsK p e below _ (T.setTop (mkF m 74 #[.val (.long i0), .second, .val (.long i1), .second, .val (.int i2), .val (.long i3), .second, .val (.long i4), .second, .val (.int v9), .val (.long bv), .second, .val ra, .val rb, .unset, .unset, .unset, .unset, .unset] []))
    obtain ⟨T1, h1, X1, e1, E1, A1, D1, -, st1⟩ := newO XJ hx hZ hown (hw _ (List.mem_of_getElem? (i := 0) rfl)) (hw _ (List.mem_of_getElem? (i := 1) rfl)) (hw _ (List.mem_of_getElem? (i := 2) rfl)) eJ (g := (mkF m 74 #[.val (.long i0), .second, .val (.long i1), .second, .val (.int i2), .val (.long i3), .second, .val (.long i4), .second, .val (.int v9), .val (.long bv), .second, .val ra, .val rb, .unset, .unset, .unset, .unset, .unset] [])) rfl (hb hby at_74) (by decide) (by decide)
    obtain ⟨ax, g1⟩ : ∃ z, z = h.size := ⟨_, rfl⟩
    rw [← g1] at A1 D1 st1
    refine EndsK.go st1 ?_
    have F1_version : Fld Z h1 ax "com/example/update_by_version/updatebyversion/Marker$Version" "version" "J" (.long (0 : Int64)) := D1 (Or.inr (hw _ (List.mem_of_getElem? (i := 15) rfl))) (ty := .long) (by decide)
    have F1_range : Fld Z h1 ax "com/example/update_by_version/updatebyversion/Marker$Version" "range" "Lcom/example/update_by_version/updatebyversion/Marker$Range;" .null := D1 (Or.inr (hw _ (List.mem_of_getElem? (i := 17) rfl))) (ty := (.object "com/example/update_by_version/updatebyversion/Marker$Range")) (by decide)
    have Z1 : n0 ≤ h1.size := Nat.le_trans ZJ E1.1
    have G1 : n0 ≤ ax := by rw [g1]; exact ZJ
    have P1 := ext_trans PJ E1
    have sz_ax : h0.size ≤ ax := by rw [g1]; exact PJ.1
    show EndsK p e below _ (T1.setTop (mkF m 77 #[.val (.long i0), .second, .val (.long i1), .second, .val (.int i2), .val (.long i3), .second, .val (.long i4), .second, .val (.int v9), .val (.long bv), .second, .val ra, .val rb, .unset, .unset, .unset, .unset, .unset] [(.ref ax)]))
    refine EndsK.go (fun _ kz => XS.dup X1.here hx rfl (hb hby at_77) rfl rfl kz) ?_
    show EndsK p e below _ (T1.setTop (mkF m 78 #[.val (.long i0), .second, .val (.long i1), .second, .val (.int i2), .val (.long i3), .second, .val (.long i4), .second, .val (.int v9), .val (.long bv), .second, .val ra, .val rb, .unset, .unset, .unset, .unset, .unset] [(.ref ax), (.ref ax)]))
    refine EndsK.go (fun _ kz => XS.lloadN X1.here hx rfl (hb hby at_78) rfl kz) ?_
    show EndsK p e below _ (T1.setTop (mkF m 79 #[.val (.long i0), .second, .val (.long i1), .second, .val (.int i2), .val (.long i3), .second, .val (.long i4), .second, .val (.int v9), .val (.long bv), .second, .val ra, .val rb, .unset, .unset, .unset, .unset, .unset] [(.long i0), (.ref ax), (.ref ax)]))
    refine EndsK.go (fun _ kz => XS.aload X1.here hx rfl (hb hby at_79) rfl hra kz) ?_
    show EndsK p e below _ (T1.setTop (mkF m 81 #[.val (.long i0), .second, .val (.long i1), .second, .val (.int i2), .val (.long i3), .second, .val (.long i4), .second, .val (.int v9), .val (.long bv), .second, .val ra, .val rb, .unset, .unset, .unset, .unset, .unset] [ra, (.long i0), (.ref ax), (.ref ax)]))
    rcases ref_cases hra with rfl | ⟨bra, rfl⟩
    · show EndsK p e below _ (T1.setTop (mkF m 81 #[.val (.long i0), .second, .val (.long i1), .second, .val (.int i2), .val (.long i3), .second, .val (.long i4), .second, .val (.int v9), .val (.long bv), .second, .val .null, .val rb, .unset, .unset, .unset, .unset, .unset] [.null, (.long i0), (.ref ax), (.ref ax)]))
      obtain ⟨_, _, ⟨T2, L2, k2, n2⟩, -, X2, ⟨Lc2, hQ2, l2, y2, z2⟩, st2⟩ := X1.specialBack hx (y := (⟨"com/example/update_by_version/updatebyversion/Marker$Version", "<init>", "(JLcom/example/update_by_version/updatebyversion/Marker$Range;)V"⟩ : MethodName)) rfl hown (mvT hZ (hw _ (List.mem_of_getElem? (i := 3) rfl))) (mvT hZ (hw _ (List.mem_of_getElem? (i := 4) rfl))) (mvT hZ (hw _ (List.mem_of_getElem? (i := 5) rfl))) (by decide) (backOf (W := 1) (rm_viN l Z a0 hw [] ax i0 h1 n0 Z1 G1 A1 F1_version F1_range) hZ (hw _ (List.mem_of_getElem? (i := 5) rfl)) (hw _ (List.mem_of_getElem? (i := 2) rfl)) (by decide) (by decide)) (g := (mkF m 81 #[.val (.long i0), .second, .val (.long i1), .second, .val (.int i2), .val (.long i3), .second, .val (.long i4), .second, .val (.int v9), .val (.long bv), .second, .val .null, .val rb, .unset, .unset, .unset, .unset, .unset] [.null, (.long i0), (.ref ax), (.ref ax)])) rfl (by rw [hml]; rfl) (Steps.refl _) (a := ax) (argsL := [(.long i0), .null]) (rest := [(.ref ax)]) (lenOf pd5 rfl) rfl (by show 2 * 0 + _ ≤ _; exact Nat.le_of_eq rfl) (hb hby at_81) (fun _ _ => ⟨rfl, e1, (by decide : 4 + 1 + 0 ≤ _), (by decide : 16 + 2 + 0 ≤ _)⟩)
      dsimp only [Pt.U, Pt.locs, Pt.cells, Pt.slots] at X2 l2 y2 z2 st2 hQ2
      subst l2 y2 z2
      obtain ⟨rfl, N2, K2, E2, F2_version, F2_range⟩ := hQ2
      have M2 := Fr.app N0 N2
      obtain ⟨h2, e2⟩ : ∃ z, T2.heap = z := ⟨_, rfl⟩
      rw [e2] at K2 E2 F2_version F2_range
      have Y2 : Stand p l e room_1 s m #[.long i0, .long i1, .int i2, .long i3, .long i4] below meth c T2 [] 5 20 := (X2.dropFresh (J := _) (fun x hx => by rw [hh, ← hn0]; exact N2 x hx)).mono (by decide) (by decide)
      have P2 : Ext h0 h2 := ext_keep P1 K2 (allS (by rw [← hn0]; exact G1) all0)
      have Z2 : n0 ≤ h2.size := Nat.le_trans Z0 P2.1
      refine EndsK.tr st2 ?_
      show EndsK p e below _ (T2.setTop (mkF m 84 #[.val (.long i0), .second, .val (.long i1), .second, .val (.int i2), .val (.long i3), .second, .val (.long i4), .second, .val (.int v9), .val (.long bv), .second, .val .null, .val rb, .unset, .unset, .unset, .unset, .unset] [(.ref ax)]))
      refine EndsK.go (fun _ kz => XS.astore Y2.here hx rfl (hb hby at_84) rfl rfl (l' := #[.val (.long i0), .second, .val (.long i1), .second, .val (.int i2), .val (.long i3), .second, .val (.long i4), .second, .val (.int v9), .val (.long bv), .second, .val .null, .val rb, .val (.ref ax), .unset, .unset, .unset, .unset]) rfl kz) ?_
      show EndsK p e below _ (T2.setTop (mkF m 86 #[.val (.long i0), .second, .val (.long i1), .second, .val (.int i2), .val (.long i3), .second, .val (.long i4), .second, .val (.int v9), .val (.long bv), .second, .val .null, .val rb, .val (.ref ax), .unset, .unset, .unset, .unset] []))
      obtain ⟨T4, h4, X4, e4, E4, A4, D4, -, st4⟩ := newO Y2 hx hZ hown (hw _ (List.mem_of_getElem? (i := 0) rfl)) (hw _ (List.mem_of_getElem? (i := 1) rfl)) (hw _ (List.mem_of_getElem? (i := 2) rfl)) e2 (g := (mkF m 86 #[.val (.long i0), .second, .val (.long i1), .second, .val (.int i2), .val (.long i3), .second, .val (.long i4), .second, .val (.int v9), .val (.long bv), .second, .val .null, .val rb, .val (.ref ax), .unset, .unset, .unset, .unset] [])) rfl (hb hby at_86) (by decide) (by decide)
      obtain ⟨ay, g4⟩ : ∃ z, z = h2.size := ⟨_, rfl⟩
      rw [← g4] at A4 D4 st4
      refine EndsK.go st4 ?_
      have E4_ax := E2.ext E4
      have F4_version_ax := F2_version.ext E4
      have F4_range_ax := F2_range.ext E4
      have F4_version : Fld Z h4 ay "com/example/update_by_version/updatebyversion/Marker$Version" "version" "J" (.long (0 : Int64)) := D4 (Or.inr (hw _ (List.mem_of_getElem? (i := 15) rfl))) (ty := .long) (by decide)
      have F4_range : Fld Z h4 ay "com/example/update_by_version/updatebyversion/Marker$Version" "range" "Lcom/example/update_by_version/updatebyversion/Marker$Range;" .null := D4 (Or.inr (hw _ (List.mem_of_getElem? (i := 17) rfl))) (ty := (.object "com/example/update_by_version/updatebyversion/Marker$Range")) (by decide)
      have Z4 : n0 ≤ h4.size := Nat.le_trans Z2 E4.1
      have G4 : n0 ≤ ay := by rw [g4]; exact Z2
      have P4 := ext_trans P2 E4
      have sz_ay : h0.size ≤ ay := by rw [g4]; exact P2.1
      have ne_ax_ay : ax ≠ ay := Nat.ne_of_lt (by rw [g4]; exact E2.lt)
      show EndsK p e below _ (T4.setTop (mkF m 89 #[.val (.long i0), .second, .val (.long i1), .second, .val (.int i2), .val (.long i3), .second, .val (.long i4), .second, .val (.int v9), .val (.long bv), .second, .val .null, .val rb, .val (.ref ax), .unset, .unset, .unset, .unset] [(.ref ay)]))
      refine EndsK.go (fun _ kz => XS.dup X4.here hx rfl (hb hby at_89) rfl rfl kz) ?_
      show EndsK p e below _ (T4.setTop (mkF m 90 #[.val (.long i0), .second, .val (.long i1), .second, .val (.int i2), .val (.long i3), .second, .val (.long i4), .second, .val (.int v9), .val (.long bv), .second, .val .null, .val rb, .val (.ref ax), .unset, .unset, .unset, .unset] [(.ref ay), (.ref ay)]))
      refine EndsK.go (fun _ kz => XS.lload X4.here hx rfl (hb hby at_90) rfl kz) ?_
      show EndsK p e below _ (T4.setTop (mkF m 92 #[.val (.long i0), .second, .val (.long i1), .second, .val (.int i2), .val (.long i3), .second, .val (.long i4), .second, .val (.int v9), .val (.long bv), .second, .val .null, .val rb, .val (.ref ax), .unset, .unset, .unset, .unset] [(.long bv), (.ref ay), (.ref ay)]))
      refine EndsK.go (fun _ kz => XS.aload X4.here hx rfl (hb hby at_92) rfl hrb kz) ?_
      show EndsK p e below _ (T4.setTop (mkF m 94 #[.val (.long i0), .second, .val (.long i1), .second, .val (.int i2), .val (.long i3), .second, .val (.long i4), .second, .val (.int v9), .val (.long bv), .second, .val .null, .val rb, .val (.ref ax), .unset, .unset, .unset, .unset] [rb, (.long bv), (.ref ay), (.ref ay)]))
      rcases ref_cases hrb with rfl | ⟨brb, rfl⟩
      · show EndsK p e below _ (T4.setTop (mkF m 94 #[.val (.long i0), .second, .val (.long i1), .second, .val (.int i2), .val (.long i3), .second, .val (.long i4), .second, .val (.int v9), .val (.long bv), .second, .val .null, .val .null, .val (.ref ax), .unset, .unset, .unset, .unset] [.null, (.long bv), (.ref ay), (.ref ay)]))
        obtain ⟨_, _, ⟨T5, L5, k5, n5⟩, -, X5, ⟨Lc5, hQ5, l5, y5, z5⟩, st5⟩ := X4.specialBack hx (y := (⟨"com/example/update_by_version/updatebyversion/Marker$Version", "<init>", "(JLcom/example/update_by_version/updatebyversion/Marker$Range;)V"⟩ : MethodName)) rfl hown (mvT hZ (hw _ (List.mem_of_getElem? (i := 3) rfl))) (mvT hZ (hw _ (List.mem_of_getElem? (i := 4) rfl))) (mvT hZ (hw _ (List.mem_of_getElem? (i := 5) rfl))) (by decide) (backOf (W := 1) (rm_viN l Z a0 hw [] ay bv h4 n0 Z4 G4 A4 F4_version F4_range) hZ (hw _ (List.mem_of_getElem? (i := 5) rfl)) (hw _ (List.mem_of_getElem? (i := 2) rfl)) (by decide) (by decide)) (g := (mkF m 94 #[.val (.long i0), .second, .val (.long i1), .second, .val (.int i2), .val (.long i3), .second, .val (.long i4), .second, .val (.int v9), .val (.long bv), .second, .val .null, .val .null, .val (.ref ax), .unset, .unset, .unset, .unset] [.null, (.long bv), (.ref ay), (.ref ay)])) rfl (by rw [hml]; rfl) (Steps.refl _) (a := ay) (argsL := [(.long bv), .null]) (rest := [(.ref ay)]) (lenOf pd5 rfl) rfl (by show 2 * 0 + _ ≤ _; exact Nat.le_of_eq rfl) (hb hby at_94) (fun _ _ => ⟨rfl, e4, (by decide : 5 + 1 + 0 ≤ _), (by decide : 20 + 2 + 0 ≤ _)⟩)
        dsimp only [Pt.U, Pt.locs, Pt.cells, Pt.slots] at X5 l5 y5 z5 st5 hQ5
        subst l5 y5 z5
        obtain ⟨rfl, N5, K5, E5, F5_version, F5_range⟩ := hQ5
        have M5 := Fr.app N0 N5
        obtain ⟨h5, e5⟩ : ∃ z, T5.heap = z := ⟨_, rfl⟩
        rw [e5] at K5 E5 F5_version F5_range
        have Y5 : Stand p l e room_1 s m #[.long i0, .long i1, .int i2, .long i3, .long i4] below meth c T5 [] 6 24 := (X5.dropFresh (J := _) (fun x hx => by rw [hh, ← hn0]; exact N5 x hx)).mono (by decide) (by decide)
        have P5 : Ext h0 h5 := ext_keep P4 K5 (allS (by rw [← hn0]; exact G4) all0)
        have Z5 : n0 ≤ h5.size := Nat.le_trans Z0 P5.1
        have E5_ax := E4_ax.keep K5
        have F5_ax_version := F4_version_ax.keep K5 (ninS (Nat.ne_of_lt (by rw [g4]; exact F2_version.lt)) nin0)
        have F5_ax_range := F4_range_ax.keep K5 (ninS (Nat.ne_of_lt (by rw [g4]; exact F2_range.lt)) nin0)
        refine EndsK.tr st5 ?_
        show EndsK p e below _ (T5.setTop (mkF m 97 #[.val (.long i0), .second, .val (.long i1), .second, .val (.int i2), .val (.long i3), .second, .val (.long i4), .second, .val (.int v9), .val (.long bv), .second, .val .null, .val .null, .val (.ref ax), .unset, .unset, .unset, .unset] [(.ref ay)]))
        refine EndsK.go (fun _ kz => XS.astore Y5.here hx rfl (hb hby at_97) rfl rfl (l' := #[.val (.long i0), .second, .val (.long i1), .second, .val (.int i2), .val (.long i3), .second, .val (.long i4), .second, .val (.int v9), .val (.long bv), .second, .val .null, .val .null, .val (.ref ax), .val (.ref ay), .unset, .unset, .unset]) rfl kz) ?_
        show EndsK p e below _ (T5.setTop (mkF m 99 #[.val (.long i0), .second, .val (.long i1), .second, .val (.int i2), .val (.long i3), .second, .val (.long i4), .second, .val (.int v9), .val (.long bv), .second, .val .null, .val .null, .val (.ref ax), .val (.ref ay), .unset, .unset, .unset] []))
        refine EndsK.go (fun _ kz => XS.iload Y5.here hx rfl (hb hby at_99) rfl kz) ?_
        show EndsK p e below _ (T5.setTop (mkF m 101 #[.val (.long i0), .second, .val (.long i1), .second, .val (.int i2), .val (.long i3), .second, .val (.long i4), .second, .val (.int v9), .val (.long bv), .second, .val .null, .val .null, .val (.ref ax), .val (.ref ay), .unset, .unset, .unset] [(.int i2)]))
        refine EndsK.go (fun _ kz => XS.iconst Y5.here hx rfl (hb hby at_101) kz) ?_
        show EndsK p e below _ (T5.setTop (mkF m 102 #[.val (.long i0), .second, .val (.long i1), .second, .val (.int i2), .val (.long i3), .second, .val (.long i4), .second, .val (.int v9), .val (.long bv), .second, .val .null, .val .null, .val (.ref ax), .val (.ref ay), .unset, .unset, .unset] [(.int (3 : Int32)), (.int i2)]))
        refine EndsK.go (fun _ kz => XS.iushr Y5.here hx rfl (hb hby at_102) rfl kz) ?_
        show EndsK p e below _ (T5.setTop (mkF m 103 #[.val (.long i0), .second, .val (.long i1), .second, .val (.int i2), .val (.long i3), .second, .val (.long i4), .second, .val (.int v9), .val (.long bv), .second, .val .null, .val .null, .val (.ref ax), .val (.ref ay), .unset, .unset, .unset] [(.int ((i2).toUInt32 >>> ((3 : Int32) &&& 31).toUInt32).toInt32)]))
        refine EndsK.go (fun _ kz => XS.iconst Y5.here hx rfl (hb hby at_103) kz) ?_
        show EndsK p e below _ (T5.setTop (mkF m 104 #[.val (.long i0), .second, .val (.long i1), .second, .val (.int i2), .val (.long i3), .second, .val (.long i4), .second, .val (.int v9), .val (.long bv), .second, .val .null, .val .null, .val (.ref ax), .val (.ref ay), .unset, .unset, .unset] [(.int (3 : Int32)), (.int ((i2).toUInt32 >>> ((3 : Int32) &&& 31).toUInt32).toInt32)]))
        refine EndsK.go (fun _ kz => XS.iand Y5.here hx rfl (hb hby at_104) rfl kz) ?_
        show EndsK p e below _ (T5.setTop (mkF m 105 #[.val (.long i0), .second, .val (.long i1), .second, .val (.int i2), .val (.long i3), .second, .val (.long i4), .second, .val (.int v9), .val (.long bv), .second, .val .null, .val .null, .val (.ref ax), .val (.ref ay), .unset, .unset, .unset] [(.int (((i2).toUInt32 >>> ((3 : Int32) &&& 31).toUInt32).toInt32 &&& (3 : Int32)))]))
        refine EndsK.go (fun _ kz => XS.istore Y5.here hx rfl (hb hby at_105) rfl (l' := #[.val (.long i0), .second, .val (.long i1), .second, .val (.int i2), .val (.long i3), .second, .val (.long i4), .second, .val (.int v9), .val (.long bv), .second, .val .null, .val .null, .val (.ref ax), .val (.ref ay), .val (.int (((i2).toUInt32 >>> ((3 : Int32) &&& 31).toUInt32).toInt32 &&& (3 : Int32))), .unset, .unset]) rfl kz) ?_
        exact J107 T5 h5 Y5 e5 P5 v9 bv .null .null ax ay _ rfl rfl E5_ax E5 F5_ax_version F5_version
      · show EndsK p e below _ (T4.setTop (mkF m 94 #[.val (.long i0), .second, .val (.long i1), .second, .val (.int i2), .val (.long i3), .second, .val (.long i4), .second, .val (.int v9), .val (.long bv), .second, .val .null, .val (.ref brb), .val (.ref ax), .unset, .unset, .unset, .unset] [(.ref brb), (.long bv), (.ref ay), (.ref ay)]))
        obtain ⟨_, _, ⟨T6, L6, k6, n6⟩, -, X6, ⟨Lc6, hQ6, l6, y6, z6⟩, st6⟩ := X4.specialBack hx (y := (⟨"com/example/update_by_version/updatebyversion/Marker$Version", "<init>", "(JLcom/example/update_by_version/updatebyversion/Marker$Range;)V"⟩ : MethodName)) rfl hown (mvT hZ (hw _ (List.mem_of_getElem? (i := 3) rfl))) (mvT hZ (hw _ (List.mem_of_getElem? (i := 4) rfl))) (mvT hZ (hw _ (List.mem_of_getElem? (i := 5) rfl))) (by decide) (backOf (W := 1) (rm_viR l Z a0 hw [] ay bv brb h4 n0 Z4 G4 A4 F4_version F4_range) hZ (hw _ (List.mem_of_getElem? (i := 5) rfl)) (hw _ (List.mem_of_getElem? (i := 2) rfl)) (by decide) (by decide)) (g := (mkF m 94 #[.val (.long i0), .second, .val (.long i1), .second, .val (.int i2), .val (.long i3), .second, .val (.long i4), .second, .val (.int v9), .val (.long bv), .second, .val .null, .val (.ref brb), .val (.ref ax), .unset, .unset, .unset, .unset] [(.ref brb), (.long bv), (.ref ay), (.ref ay)])) rfl (by rw [hml]; rfl) (Steps.refl _) (a := ay) (argsL := [(.long bv), (.ref brb)]) (rest := [(.ref ay)]) (lenOf pd5 rfl) rfl (by show 2 * 0 + _ ≤ _; exact Nat.le_of_eq rfl) (hb hby at_94) (fun _ _ => ⟨rfl, e4, (by decide : 5 + 1 + 0 ≤ _), (by decide : 20 + 2 + 0 ≤ _)⟩)
        dsimp only [Pt.U, Pt.locs, Pt.cells, Pt.slots] at X6 l6 y6 z6 st6 hQ6
        subst l6 y6 z6
        obtain ⟨rfl, N6, K6, E6, F6_version, F6_range⟩ := hQ6
        have M6 := Fr.app N0 N6
        obtain ⟨h6, e6⟩ : ∃ z, T6.heap = z := ⟨_, rfl⟩
        rw [e6] at K6 E6 F6_version F6_range
        have Y6 : Stand p l e room_1 s m #[.long i0, .long i1, .int i2, .long i3, .long i4] below meth c T6 [] 6 24 := (X6.dropFresh (J := _) (fun x hx => by rw [hh, ← hn0]; exact N6 x hx)).mono (by decide) (by decide)
        have P6 : Ext h0 h6 := ext_keep P4 K6 (allS (by rw [← hn0]; exact G4) all0)
        have Z6 : n0 ≤ h6.size := Nat.le_trans Z0 P6.1
        have E6_ax := E4_ax.keep K6
        have F6_ax_version := F4_version_ax.keep K6 (ninS (Nat.ne_of_lt (by rw [g4]; exact F2_version.lt)) nin0)
        have F6_ax_range := F4_range_ax.keep K6 (ninS (Nat.ne_of_lt (by rw [g4]; exact F2_range.lt)) nin0)
        refine EndsK.tr st6 ?_
        show EndsK p e below _ (T6.setTop (mkF m 97 #[.val (.long i0), .second, .val (.long i1), .second, .val (.int i2), .val (.long i3), .second, .val (.long i4), .second, .val (.int v9), .val (.long bv), .second, .val .null, .val (.ref brb), .val (.ref ax), .unset, .unset, .unset, .unset] [(.ref ay)]))
        refine EndsK.go (fun _ kz => XS.astore Y6.here hx rfl (hb hby at_97) rfl rfl (l' := #[.val (.long i0), .second, .val (.long i1), .second, .val (.int i2), .val (.long i3), .second, .val (.long i4), .second, .val (.int v9), .val (.long bv), .second, .val .null, .val (.ref brb), .val (.ref ax), .val (.ref ay), .unset, .unset, .unset]) rfl kz) ?_
        show EndsK p e below _ (T6.setTop (mkF m 99 #[.val (.long i0), .second, .val (.long i1), .second, .val (.int i2), .val (.long i3), .second, .val (.long i4), .second, .val (.int v9), .val (.long bv), .second, .val .null, .val (.ref brb), .val (.ref ax), .val (.ref ay), .unset, .unset, .unset] []))
        refine EndsK.go (fun _ kz => XS.iload Y6.here hx rfl (hb hby at_99) rfl kz) ?_
        show EndsK p e below _ (T6.setTop (mkF m 101 #[.val (.long i0), .second, .val (.long i1), .second, .val (.int i2), .val (.long i3), .second, .val (.long i4), .second, .val (.int v9), .val (.long bv), .second, .val .null, .val (.ref brb), .val (.ref ax), .val (.ref ay), .unset, .unset, .unset] [(.int i2)]))
        refine EndsK.go (fun _ kz => XS.iconst Y6.here hx rfl (hb hby at_101) kz) ?_
        show EndsK p e below _ (T6.setTop (mkF m 102 #[.val (.long i0), .second, .val (.long i1), .second, .val (.int i2), .val (.long i3), .second, .val (.long i4), .second, .val (.int v9), .val (.long bv), .second, .val .null, .val (.ref brb), .val (.ref ax), .val (.ref ay), .unset, .unset, .unset] [(.int (3 : Int32)), (.int i2)]))
        refine EndsK.go (fun _ kz => XS.iushr Y6.here hx rfl (hb hby at_102) rfl kz) ?_
        show EndsK p e below _ (T6.setTop (mkF m 103 #[.val (.long i0), .second, .val (.long i1), .second, .val (.int i2), .val (.long i3), .second, .val (.long i4), .second, .val (.int v9), .val (.long bv), .second, .val .null, .val (.ref brb), .val (.ref ax), .val (.ref ay), .unset, .unset, .unset] [(.int ((i2).toUInt32 >>> ((3 : Int32) &&& 31).toUInt32).toInt32)]))
        refine EndsK.go (fun _ kz => XS.iconst Y6.here hx rfl (hb hby at_103) kz) ?_
        show EndsK p e below _ (T6.setTop (mkF m 104 #[.val (.long i0), .second, .val (.long i1), .second, .val (.int i2), .val (.long i3), .second, .val (.long i4), .second, .val (.int v9), .val (.long bv), .second, .val .null, .val (.ref brb), .val (.ref ax), .val (.ref ay), .unset, .unset, .unset] [(.int (3 : Int32)), (.int ((i2).toUInt32 >>> ((3 : Int32) &&& 31).toUInt32).toInt32)]))
        refine EndsK.go (fun _ kz => XS.iand Y6.here hx rfl (hb hby at_104) rfl kz) ?_
        show EndsK p e below _ (T6.setTop (mkF m 105 #[.val (.long i0), .second, .val (.long i1), .second, .val (.int i2), .val (.long i3), .second, .val (.long i4), .second, .val (.int v9), .val (.long bv), .second, .val .null, .val (.ref brb), .val (.ref ax), .val (.ref ay), .unset, .unset, .unset] [(.int (((i2).toUInt32 >>> ((3 : Int32) &&& 31).toUInt32).toInt32 &&& (3 : Int32)))]))
        refine EndsK.go (fun _ kz => XS.istore Y6.here hx rfl (hb hby at_105) rfl (l' := #[.val (.long i0), .second, .val (.long i1), .second, .val (.int i2), .val (.long i3), .second, .val (.long i4), .second, .val (.int v9), .val (.long bv), .second, .val .null, .val (.ref brb), .val (.ref ax), .val (.ref ay), .val (.int (((i2).toUInt32 >>> ((3 : Int32) &&& 31).toUInt32).toInt32 &&& (3 : Int32))), .unset, .unset]) rfl kz) ?_
        exact J107 T6 h6 Y6 e6 P6 v9 bv .null (.ref brb) ax ay _ rfl rfl E6_ax E6 F6_ax_version F6_version
    · show EndsK p e below _ (T1.setTop (mkF m 81 #[.val (.long i0), .second, .val (.long i1), .second, .val (.int i2), .val (.long i3), .second, .val (.long i4), .second, .val (.int v9), .val (.long bv), .second, .val (.ref bra), .val rb, .unset, .unset, .unset, .unset, .unset] [(.ref bra), (.long i0), (.ref ax), (.ref ax)]))
      obtain ⟨_, _, ⟨T3, L3, k3, n3⟩, -, X3, ⟨Lc3, hQ3, l3, y3, z3⟩, st3⟩ := X1.specialBack hx (y := (⟨"com/example/update_by_version/updatebyversion/Marker$Version", "<init>", "(JLcom/example/update_by_version/updatebyversion/Marker$Range;)V"⟩ : MethodName)) rfl hown (mvT hZ (hw _ (List.mem_of_getElem? (i := 3) rfl))) (mvT hZ (hw _ (List.mem_of_getElem? (i := 4) rfl))) (mvT hZ (hw _ (List.mem_of_getElem? (i := 5) rfl))) (by decide) (backOf (W := 1) (rm_viR l Z a0 hw [] ax i0 bra h1 n0 Z1 G1 A1 F1_version F1_range) hZ (hw _ (List.mem_of_getElem? (i := 5) rfl)) (hw _ (List.mem_of_getElem? (i := 2) rfl)) (by decide) (by decide)) (g := (mkF m 81 #[.val (.long i0), .second, .val (.long i1), .second, .val (.int i2), .val (.long i3), .second, .val (.long i4), .second, .val (.int v9), .val (.long bv), .second, .val (.ref bra), .val rb, .unset, .unset, .unset, .unset, .unset] [(.ref bra), (.long i0), (.ref ax), (.ref ax)])) rfl (by rw [hml]; rfl) (Steps.refl _) (a := ax) (argsL := [(.long i0), (.ref bra)]) (rest := [(.ref ax)]) (lenOf pd5 rfl) rfl (by show 2 * 0 + _ ≤ _; exact Nat.le_of_eq rfl) (hb hby at_81) (fun _ _ => ⟨rfl, e1, (by decide : 4 + 1 + 0 ≤ _), (by decide : 16 + 2 + 0 ≤ _)⟩)
      dsimp only [Pt.U, Pt.locs, Pt.cells, Pt.slots] at X3 l3 y3 z3 st3 hQ3
      subst l3 y3 z3
      obtain ⟨rfl, N3, K3, E3, F3_version, F3_range⟩ := hQ3
      have M3 := Fr.app N0 N3
      obtain ⟨h3, e3⟩ : ∃ z, T3.heap = z := ⟨_, rfl⟩
      rw [e3] at K3 E3 F3_version F3_range
      have Y3 : Stand p l e room_1 s m #[.long i0, .long i1, .int i2, .long i3, .long i4] below meth c T3 [] 5 20 := (X3.dropFresh (J := _) (fun x hx => by rw [hh, ← hn0]; exact N3 x hx)).mono (by decide) (by decide)
      have P3 : Ext h0 h3 := ext_keep P1 K3 (allS (by rw [← hn0]; exact G1) all0)
      have Z3 : n0 ≤ h3.size := Nat.le_trans Z0 P3.1
      refine EndsK.tr st3 ?_
      show EndsK p e below _ (T3.setTop (mkF m 84 #[.val (.long i0), .second, .val (.long i1), .second, .val (.int i2), .val (.long i3), .second, .val (.long i4), .second, .val (.int v9), .val (.long bv), .second, .val (.ref bra), .val rb, .unset, .unset, .unset, .unset, .unset] [(.ref ax)]))
      refine EndsK.go (fun _ kz => XS.astore Y3.here hx rfl (hb hby at_84) rfl rfl (l' := #[.val (.long i0), .second, .val (.long i1), .second, .val (.int i2), .val (.long i3), .second, .val (.long i4), .second, .val (.int v9), .val (.long bv), .second, .val (.ref bra), .val rb, .val (.ref ax), .unset, .unset, .unset, .unset]) rfl kz) ?_
      show EndsK p e below _ (T3.setTop (mkF m 86 #[.val (.long i0), .second, .val (.long i1), .second, .val (.int i2), .val (.long i3), .second, .val (.long i4), .second, .val (.int v9), .val (.long bv), .second, .val (.ref bra), .val rb, .val (.ref ax), .unset, .unset, .unset, .unset] []))
      obtain ⟨T7, h7, X7, e7, E7, A7, D7, -, st7⟩ := newO Y3 hx hZ hown (hw _ (List.mem_of_getElem? (i := 0) rfl)) (hw _ (List.mem_of_getElem? (i := 1) rfl)) (hw _ (List.mem_of_getElem? (i := 2) rfl)) e3 (g := (mkF m 86 #[.val (.long i0), .second, .val (.long i1), .second, .val (.int i2), .val (.long i3), .second, .val (.long i4), .second, .val (.int v9), .val (.long bv), .second, .val (.ref bra), .val rb, .val (.ref ax), .unset, .unset, .unset, .unset] [])) rfl (hb hby at_86) (by decide) (by decide)
      obtain ⟨ay, g7⟩ : ∃ z, z = h3.size := ⟨_, rfl⟩
      rw [← g7] at A7 D7 st7
      refine EndsK.go st7 ?_
      have E7_ax := E3.ext E7
      have F7_version_ax := F3_version.ext E7
      have F7_range_ax := F3_range.ext E7
      have F7_version : Fld Z h7 ay "com/example/update_by_version/updatebyversion/Marker$Version" "version" "J" (.long (0 : Int64)) := D7 (Or.inr (hw _ (List.mem_of_getElem? (i := 15) rfl))) (ty := .long) (by decide)
      have F7_range : Fld Z h7 ay "com/example/update_by_version/updatebyversion/Marker$Version" "range" "Lcom/example/update_by_version/updatebyversion/Marker$Range;" .null := D7 (Or.inr (hw _ (List.mem_of_getElem? (i := 17) rfl))) (ty := (.object "com/example/update_by_version/updatebyversion/Marker$Range")) (by decide)
      have Z7 : n0 ≤ h7.size := Nat.le_trans Z3 E7.1
      have G7 : n0 ≤ ay := by rw [g7]; exact Z3
      have P7 := ext_trans P3 E7
      have sz_ay : h0.size ≤ ay := by rw [g7]; exact P3.1
      show EndsK p e below _ (T7.setTop (mkF m 89 #[.val (.long i0), .second, .val (.long i1), .second, .val (.int i2), .val (.long i3), .second, .val (.long i4), .second, .val (.int v9), .val (.long bv), .second, .val (.ref bra), .val rb, .val (.ref ax), .unset, .unset, .unset, .unset] [(.ref ay)]))
      refine EndsK.go (fun _ kz => XS.dup X7.here hx rfl (hb hby at_89) rfl rfl kz) ?_
      show EndsK p e below _ (T7.setTop (mkF m 90 #[.val (.long i0), .second, .val (.long i1), .second, .val (.int i2), .val (.long i3), .second, .val (.long i4), .second, .val (.int v9), .val (.long bv), .second, .val (.ref bra), .val rb, .val (.ref ax), .unset, .unset, .unset, .unset] [(.ref ay), (.ref ay)]))
      refine EndsK.go (fun _ kz => XS.lload X7.here hx rfl (hb hby at_90) rfl kz) ?_
      show EndsK p e below _ (T7.setTop (mkF m 92 #[.val (.long i0), .second, .val (.long i1), .second, .val (.int i2), .val (.long i3), .second, .val (.long i4), .second, .val (.int v9), .val (.long bv), .second, .val (.ref bra), .val rb, .val (.ref ax), .unset, .unset, .unset, .unset] [(.long bv), (.ref ay), (.ref ay)]))
      refine EndsK.go (fun _ kz => XS.aload X7.here hx rfl (hb hby at_92) rfl hrb kz) ?_
      show EndsK p e below _ (T7.setTop (mkF m 94 #[.val (.long i0), .second, .val (.long i1), .second, .val (.int i2), .val (.long i3), .second, .val (.long i4), .second, .val (.int v9), .val (.long bv), .second, .val (.ref bra), .val rb, .val (.ref ax), .unset, .unset, .unset, .unset] [rb, (.long bv), (.ref ay), (.ref ay)]))
      rcases ref_cases hrb with rfl | ⟨brb, rfl⟩
      · show EndsK p e below _ (T7.setTop (mkF m 94 #[.val (.long i0), .second, .val (.long i1), .second, .val (.int i2), .val (.long i3), .second, .val (.long i4), .second, .val (.int v9), .val (.long bv), .second, .val (.ref bra), .val .null, .val (.ref ax), .unset, .unset, .unset, .unset] [.null, (.long bv), (.ref ay), (.ref ay)]))
        obtain ⟨_, _, ⟨T8, L8, k8, n8⟩, -, X8, ⟨Lc8, hQ8, l8, y8, z8⟩, st8⟩ := X7.specialBack hx (y := (⟨"com/example/update_by_version/updatebyversion/Marker$Version", "<init>", "(JLcom/example/update_by_version/updatebyversion/Marker$Range;)V"⟩ : MethodName)) rfl hown (mvT hZ (hw _ (List.mem_of_getElem? (i := 3) rfl))) (mvT hZ (hw _ (List.mem_of_getElem? (i := 4) rfl))) (mvT hZ (hw _ (List.mem_of_getElem? (i := 5) rfl))) (by decide) (backOf (W := 1) (rm_viN l Z a0 hw [] ay bv h7 n0 Z7 G7 A7 F7_version F7_range) hZ (hw _ (List.mem_of_getElem? (i := 5) rfl)) (hw _ (List.mem_of_getElem? (i := 2) rfl)) (by decide) (by decide)) (g := (mkF m 94 #[.val (.long i0), .second, .val (.long i1), .second, .val (.int i2), .val (.long i3), .second, .val (.long i4), .second, .val (.int v9), .val (.long bv), .second, .val (.ref bra), .val .null, .val (.ref ax), .unset, .unset, .unset, .unset] [.null, (.long bv), (.ref ay), (.ref ay)])) rfl (by rw [hml]; rfl) (Steps.refl _) (a := ay) (argsL := [(.long bv), .null]) (rest := [(.ref ay)]) (lenOf pd5 rfl) rfl (by show 2 * 0 + _ ≤ _; exact Nat.le_of_eq rfl) (hb hby at_94) (fun _ _ => ⟨rfl, e7, (by decide : 5 + 1 + 0 ≤ _), (by decide : 20 + 2 + 0 ≤ _)⟩)
        dsimp only [Pt.U, Pt.locs, Pt.cells, Pt.slots] at X8 l8 y8 z8 st8 hQ8
        subst l8 y8 z8
        obtain ⟨rfl, N8, K8, E8, F8_version, F8_range⟩ := hQ8
        have M8 := Fr.app N0 N8
        obtain ⟨h8, e8⟩ : ∃ z, T8.heap = z := ⟨_, rfl⟩
        rw [e8] at K8 E8 F8_version F8_range
        have Y8 : Stand p l e room_1 s m #[.long i0, .long i1, .int i2, .long i3, .long i4] below meth c T8 [] 6 24 := (X8.dropFresh (J := _) (fun x hx => by rw [hh, ← hn0]; exact N8 x hx)).mono (by decide) (by decide)
        have P8 : Ext h0 h8 := ext_keep P7 K8 (allS (by rw [← hn0]; exact G7) all0)
        have Z8 : n0 ≤ h8.size := Nat.le_trans Z0 P8.1
        have E8_ax := E7_ax.keep K8
        have F8_ax_version := F7_version_ax.keep K8 (ninS (Nat.ne_of_lt (by rw [g7]; exact F3_version.lt)) nin0)
        have F8_ax_range := F7_range_ax.keep K8 (ninS (Nat.ne_of_lt (by rw [g7]; exact F3_range.lt)) nin0)
        refine EndsK.tr st8 ?_
        show EndsK p e below _ (T8.setTop (mkF m 97 #[.val (.long i0), .second, .val (.long i1), .second, .val (.int i2), .val (.long i3), .second, .val (.long i4), .second, .val (.int v9), .val (.long bv), .second, .val (.ref bra), .val .null, .val (.ref ax), .unset, .unset, .unset, .unset] [(.ref ay)]))
        refine EndsK.go (fun _ kz => XS.astore Y8.here hx rfl (hb hby at_97) rfl rfl (l' := #[.val (.long i0), .second, .val (.long i1), .second, .val (.int i2), .val (.long i3), .second, .val (.long i4), .second, .val (.int v9), .val (.long bv), .second, .val (.ref bra), .val .null, .val (.ref ax), .val (.ref ay), .unset, .unset, .unset]) rfl kz) ?_
        show EndsK p e below _ (T8.setTop (mkF m 99 #[.val (.long i0), .second, .val (.long i1), .second, .val (.int i2), .val (.long i3), .second, .val (.long i4), .second, .val (.int v9), .val (.long bv), .second, .val (.ref bra), .val .null, .val (.ref ax), .val (.ref ay), .unset, .unset, .unset] []))
        refine EndsK.go (fun _ kz => XS.iload Y8.here hx rfl (hb hby at_99) rfl kz) ?_
        show EndsK p e below _ (T8.setTop (mkF m 101 #[.val (.long i0), .second, .val (.long i1), .second, .val (.int i2), .val (.long i3), .second, .val (.long i4), .second, .val (.int v9), .val (.long bv), .second, .val (.ref bra), .val .null, .val (.ref ax), .val (.ref ay), .unset, .unset, .unset] [(.int i2)]))
        refine EndsK.go (fun _ kz => XS.iconst Y8.here hx rfl (hb hby at_101) kz) ?_
        show EndsK p e below _ (T8.setTop (mkF m 102 #[.val (.long i0), .second, .val (.long i1), .second, .val (.int i2), .val (.long i3), .second, .val (.long i4), .second, .val (.int v9), .val (.long bv), .second, .val (.ref bra), .val .null, .val (.ref ax), .val (.ref ay), .unset, .unset, .unset] [(.int (3 : Int32)), (.int i2)]))
        refine EndsK.go (fun _ kz => XS.iushr Y8.here hx rfl (hb hby at_102) rfl kz) ?_
        show EndsK p e below _ (T8.setTop (mkF m 103 #[.val (.long i0), .second, .val (.long i1), .second, .val (.int i2), .val (.long i3), .second, .val (.long i4), .second, .val (.int v9), .val (.long bv), .second, .val (.ref bra), .val .null, .val (.ref ax), .val (.ref ay), .unset, .unset, .unset] [(.int ((i2).toUInt32 >>> ((3 : Int32) &&& 31).toUInt32).toInt32)]))
        refine EndsK.go (fun _ kz => XS.iconst Y8.here hx rfl (hb hby at_103) kz) ?_
        show EndsK p e below _ (T8.setTop (mkF m 104 #[.val (.long i0), .second, .val (.long i1), .second, .val (.int i2), .val (.long i3), .second, .val (.long i4), .second, .val (.int v9), .val (.long bv), .second, .val (.ref bra), .val .null, .val (.ref ax), .val (.ref ay), .unset, .unset, .unset] [(.int (3 : Int32)), (.int ((i2).toUInt32 >>> ((3 : Int32) &&& 31).toUInt32).toInt32)]))
        refine EndsK.go (fun _ kz => XS.iand Y8.here hx rfl (hb hby at_104) rfl kz) ?_
        show EndsK p e below _ (T8.setTop (mkF m 105 #[.val (.long i0), .second, .val (.long i1), .second, .val (.int i2), .val (.long i3), .second, .val (.long i4), .second, .val (.int v9), .val (.long bv), .second, .val (.ref bra), .val .null, .val (.ref ax), .val (.ref ay), .unset, .unset, .unset] [(.int (((i2).toUInt32 >>> ((3 : Int32) &&& 31).toUInt32).toInt32 &&& (3 : Int32)))]))
        refine EndsK.go (fun _ kz => XS.istore Y8.here hx rfl (hb hby at_105) rfl (l' := #[.val (.long i0), .second, .val (.long i1), .second, .val (.int i2), .val (.long i3), .second, .val (.long i4), .second, .val (.int v9), .val (.long bv), .second, .val (.ref bra), .val .null, .val (.ref ax), .val (.ref ay), .val (.int (((i2).toUInt32 >>> ((3 : Int32) &&& 31).toUInt32).toInt32 &&& (3 : Int32))), .unset, .unset]) rfl kz) ?_
        exact J107 T8 h8 Y8 e8 P8 v9 bv (.ref bra) .null ax ay _ rfl rfl E8_ax E8 F8_ax_version F8_version
      · show EndsK p e below _ (T7.setTop (mkF m 94 #[.val (.long i0), .second, .val (.long i1), .second, .val (.int i2), .val (.long i3), .second, .val (.long i4), .second, .val (.int v9), .val (.long bv), .second, .val (.ref bra), .val (.ref brb), .val (.ref ax), .unset, .unset, .unset, .unset] [(.ref brb), (.long bv), (.ref ay), (.ref ay)]))
        obtain ⟨_, _, ⟨T9, L9, k9, n9⟩, -, X9, ⟨Lc9, hQ9, l9, y9, z9⟩, st9⟩ := X7.specialBack hx (y := (⟨"com/example/update_by_version/updatebyversion/Marker$Version", "<init>", "(JLcom/example/update_by_version/updatebyversion/Marker$Range;)V"⟩ : MethodName)) rfl hown (mvT hZ (hw _ (List.mem_of_getElem? (i := 3) rfl))) (mvT hZ (hw _ (List.mem_of_getElem? (i := 4) rfl))) (mvT hZ (hw _ (List.mem_of_getElem? (i := 5) rfl))) (by decide) (backOf (W := 1) (rm_viR l Z a0 hw [] ay bv brb h7 n0 Z7 G7 A7 F7_version F7_range) hZ (hw _ (List.mem_of_getElem? (i := 5) rfl)) (hw _ (List.mem_of_getElem? (i := 2) rfl)) (by decide) (by decide)) (g := (mkF m 94 #[.val (.long i0), .second, .val (.long i1), .second, .val (.int i2), .val (.long i3), .second, .val (.long i4), .second, .val (.int v9), .val (.long bv), .second, .val (.ref bra), .val (.ref brb), .val (.ref ax), .unset, .unset, .unset, .unset] [(.ref brb), (.long bv), (.ref ay), (.ref ay)])) rfl (by rw [hml]; rfl) (Steps.refl _) (a := ay) (argsL := [(.long bv), (.ref brb)]) (rest := [(.ref ay)]) (lenOf pd5 rfl) rfl (by show 2 * 0 + _ ≤ _; exact Nat.le_of_eq rfl) (hb hby at_94) (fun _ _ => ⟨rfl, e7, (by decide : 5 + 1 + 0 ≤ _), (by decide : 20 + 2 + 0 ≤ _)⟩)
        dsimp only [Pt.U, Pt.locs, Pt.cells, Pt.slots] at X9 l9 y9 z9 st9 hQ9
        subst l9 y9 z9
        obtain ⟨rfl, N9, K9, E9, F9_version, F9_range⟩ := hQ9
        have M9 := Fr.app N0 N9
        obtain ⟨h9, e9⟩ : ∃ z, T9.heap = z := ⟨_, rfl⟩
        rw [e9] at K9 E9 F9_version F9_range
        have Y9 : Stand p l e room_1 s m #[.long i0, .long i1, .int i2, .long i3, .long i4] below meth c T9 [] 6 24 := (X9.dropFresh (J := _) (fun x hx => by rw [hh, ← hn0]; exact N9 x hx)).mono (by decide) (by decide)
        have P9 : Ext h0 h9 := ext_keep P7 K9 (allS (by rw [← hn0]; exact G7) all0)
        have Z9 : n0 ≤ h9.size := Nat.le_trans Z0 P9.1
        have E9_ax := E7_ax.keep K9
        have F9_ax_version := F7_version_ax.keep K9 (ninS (Nat.ne_of_lt (by rw [g7]; exact F3_version.lt)) nin0)
        have F9_ax_range := F7_range_ax.keep K9 (ninS (Nat.ne_of_lt (by rw [g7]; exact F3_range.lt)) nin0)
        refine EndsK.tr st9 ?_
        show EndsK p e below _ (T9.setTop (mkF m 97 #[.val (.long i0), .second, .val (.long i1), .second, .val (.int i2), .val (.long i3), .second, .val (.long i4), .second, .val (.int v9), .val (.long bv), .second, .val (.ref bra), .val (.ref brb), .val (.ref ax), .unset, .unset, .unset, .unset] [(.ref ay)]))
        refine EndsK.go (fun _ kz => XS.astore Y9.here hx rfl (hb hby at_97) rfl rfl (l' := #[.val (.long i0), .second, .val (.long i1), .second, .val (.int i2), .val (.long i3), .second, .val (.long i4), .second, .val (.int v9), .val (.long bv), .second, .val (.ref bra), .val (.ref brb), .val (.ref ax), .val (.ref ay), .unset, .unset, .unset]) rfl kz) ?_
        show EndsK p e below _ (T9.setTop (mkF m 99 #[.val (.long i0), .second, .val (.long i1), .second, .val (.int i2), .val (.long i3), .second, .val (.long i4), .second, .val (.int v9), .val (.long bv), .second, .val (.ref bra), .val (.ref brb), .val (.ref ax), .val (.ref ay), .unset, .unset, .unset] []))
        refine EndsK.go (fun _ kz => XS.iload Y9.here hx rfl (hb hby at_99) rfl kz) ?_
        show EndsK p e below _ (T9.setTop (mkF m 101 #[.val (.long i0), .second, .val (.long i1), .second, .val (.int i2), .val (.long i3), .second, .val (.long i4), .second, .val (.int v9), .val (.long bv), .second, .val (.ref bra), .val (.ref brb), .val (.ref ax), .val (.ref ay), .unset, .unset, .unset] [(.int i2)]))
        refine EndsK.go (fun _ kz => XS.iconst Y9.here hx rfl (hb hby at_101) kz) ?_
        show EndsK p e below _ (T9.setTop (mkF m 102 #[.val (.long i0), .second, .val (.long i1), .second, .val (.int i2), .val (.long i3), .second, .val (.long i4), .second, .val (.int v9), .val (.long bv), .second, .val (.ref bra), .val (.ref brb), .val (.ref ax), .val (.ref ay), .unset, .unset, .unset] [(.int (3 : Int32)), (.int i2)]))
        refine EndsK.go (fun _ kz => XS.iushr Y9.here hx rfl (hb hby at_102) rfl kz) ?_
        show EndsK p e below _ (T9.setTop (mkF m 103 #[.val (.long i0), .second, .val (.long i1), .second, .val (.int i2), .val (.long i3), .second, .val (.long i4), .second, .val (.int v9), .val (.long bv), .second, .val (.ref bra), .val (.ref brb), .val (.ref ax), .val (.ref ay), .unset, .unset, .unset] [(.int ((i2).toUInt32 >>> ((3 : Int32) &&& 31).toUInt32).toInt32)]))
        refine EndsK.go (fun _ kz => XS.iconst Y9.here hx rfl (hb hby at_103) kz) ?_
        show EndsK p e below _ (T9.setTop (mkF m 104 #[.val (.long i0), .second, .val (.long i1), .second, .val (.int i2), .val (.long i3), .second, .val (.long i4), .second, .val (.int v9), .val (.long bv), .second, .val (.ref bra), .val (.ref brb), .val (.ref ax), .val (.ref ay), .unset, .unset, .unset] [(.int (3 : Int32)), (.int ((i2).toUInt32 >>> ((3 : Int32) &&& 31).toUInt32).toInt32)]))
        refine EndsK.go (fun _ kz => XS.iand Y9.here hx rfl (hb hby at_104) rfl kz) ?_
        show EndsK p e below _ (T9.setTop (mkF m 105 #[.val (.long i0), .second, .val (.long i1), .second, .val (.int i2), .val (.long i3), .second, .val (.long i4), .second, .val (.int v9), .val (.long bv), .second, .val (.ref bra), .val (.ref brb), .val (.ref ax), .val (.ref ay), .unset, .unset, .unset] [(.int (((i2).toUInt32 >>> ((3 : Int32) &&& 31).toUInt32).toInt32 &&& (3 : Int32)))]))
        refine EndsK.go (fun _ kz => XS.istore Y9.here hx rfl (hb hby at_105) rfl (l' := #[.val (.long i0), .second, .val (.long i1), .second, .val (.int i2), .val (.long i3), .second, .val (.long i4), .second, .val (.int v9), .val (.long bv), .second, .val (.ref bra), .val (.ref brb), .val (.ref ax), .val (.ref ay), .val (.int (((i2).toUInt32 >>> ((3 : Int32) &&& 31).toUInt32).toInt32 &&& (3 : Int32))), .unset, .unset]) rfl kz) ?_
        exact J107 T9 h9 Y9 e9 P9 v9 bv (.ref bra) (.ref brb) ax ay _ rfl rfl E9_ax E9 F9_ax_version F9_version
  have J50 : ∀ (T : State) (h : Heap), Stand p l e room_1 s m #[.long i0, .long i1, .int i2, .long i3, .long i4] below meth c T [] 2 8 → T.heap = h → Ext h0 h → ∀ (v9 : Int32) (bv : Int64) (ra : Value), ra.isRef = true → EndsK p e below (OQ s (Q_law Z i0 i1 i2 i3 i4 ca cl h0 n0) room_1.cells room_1.slots) (T.setTop (mkF m 50 #[.val (.long i0), .second, .val (.long i1), .second, .val (.int i2), .val (.long i3), .second, .val (.long i4), .second, .val (.int v9), .val (.long bv), .second, .val ra, .unset, .unset, .unset, .unset, .unset, .unset] [])) := by
    intro T h XJ eJ PJ v9 bv ra hra
    have ZJ : n0 ≤ h.size := Nat.le_trans Z0 PJ.1
    show EndsK p e below _ (T.setTop (mkF m 50 #[.val (.long i0), .second, .val (.long i1), .second, .val (.int i2), .val (.long i3), .second, .val (.long i4), .second, .val (.int v9), .val (.long bv), .second, .val ra, .unset, .unset, .unset, .unset, .unset, .unset] []))
    refine EndsK.go (fun _ kz => XS.iload XJ.here hx rfl (hb hby at_50) rfl kz) ?_
    show EndsK p e below _ (T.setTop (mkF m 52 #[.val (.long i0), .second, .val (.long i1), .second, .val (.int i2), .val (.long i3), .second, .val (.long i4), .second, .val (.int v9), .val (.long bv), .second, .val ra, .unset, .unset, .unset, .unset, .unset, .unset] [(.int i2)]))
    refine EndsK.go (fun _ kz => XS.iconst XJ.here hx rfl (hb hby at_52) kz) ?_
    show EndsK p e below _ (T.setTop (mkF m 53 #[.val (.long i0), .second, .val (.long i1), .second, .val (.int i2), .val (.long i3), .second, .val (.long i4), .second, .val (.int v9), .val (.long bv), .second, .val ra, .unset, .unset, .unset, .unset, .unset, .unset] [(.int (4 : Int32)), (.int i2)]))
    refine EndsK.go (fun _ kz => XS.iand XJ.here hx rfl (hb hby at_53) rfl kz) ?_
    show EndsK p e below _ (T.setTop (mkF m 54 #[.val (.long i0), .second, .val (.long i1), .second, .val (.int i2), .val (.long i3), .second, .val (.long i4), .second, .val (.int v9), .val (.long bv), .second, .val ra, .unset, .unset, .unset, .unset, .unset, .unset] [(.int (i2 &&& (4 : Int32)))]))
    by_cases H54_1 : (i2 &&& (4 : Int32)) = (0 : Int32)
    · refine EndsK.go (fun _ kz => XS.ifYes XJ.here hx rfl (pc0 := 54) (pc' := 71) rfl (hb hby at_54) rfl ((if0 _ _).trans (teq H54_1).1) (by decide) (by decide) kz) ?_
      show EndsK p e below _ (T.setTop (mkF m 71 #[.val (.long i0), .second, .val (.long i1), .second, .val (.int i2), .val (.long i3), .second, .val (.long i4), .second, .val (.int v9), .val (.long bv), .second, .val ra, .unset, .unset, .unset, .unset, .unset, .unset] []))
      refine EndsK.go (fun _ kz => XS.aconstNull XJ.here hx rfl (hb hby at_71) kz) ?_
      show EndsK p e below _ (T.setTop (mkF m 72 #[.val (.long i0), .second, .val (.long i1), .second, .val (.int i2), .val (.long i3), .second, .val (.long i4), .second, .val (.int v9), .val (.long bv), .second, .val ra, .unset, .unset, .unset, .unset, .unset, .unset] [.null]))
      refine EndsK.go (fun _ kz => XS.astore XJ.here hx rfl (hb hby at_72) rfl rfl (l' := #[.val (.long i0), .second, .val (.long i1), .second, .val (.int i2), .val (.long i3), .second, .val (.long i4), .second, .val (.int v9), .val (.long bv), .second, .val ra, .val .null, .unset, .unset, .unset, .unset, .unset]) rfl kz) ?_
      exact J74 T h (XJ.mono (by decide) (by decide)) eJ PJ v9 bv ra .null hra rfl
    · refine EndsK.go (fun _ kz => XS.ifNo XJ.here hx rfl (hb hby at_54) rfl ((if0 _ _).trans (feq H54_1).1) kz) ?_
      show EndsK p e below _ (T.setTop (mkF m 57 #[.val (.long i0), .second, .val (.long i1), .second, .val (.int i2), .val (.long i3), .second, .val (.long i4), .second, .val (.int v9), .val (.long bv), .second, .val ra, .unset, .unset, .unset, .unset, .unset, .unset] []))
      obtain ⟨T2, h2, X2, e2, E2, A2, D2, -, st2⟩ := newO XJ hx hZ hown (hw _ (List.mem_of_getElem? (i := 25) rfl)) (hw _ (List.mem_of_getElem? (i := 26) rfl)) (hw _ (List.mem_of_getElem? (i := 27) rfl)) eJ (g := (mkF m 57 #[.val (.long i0), .second, .val (.long i1), .second, .val (.int i2), .val (.long i3), .second, .val (.long i4), .second, .val (.int v9), .val (.long bv), .second, .val ra, .unset, .unset, .unset, .unset, .unset, .unset] [])) rfl (hb hby at_57) (by decide) (by decide)
      obtain ⟨ab, g2⟩ : ∃ z, z = h.size := ⟨_, rfl⟩
      rw [← g2] at A2 D2 st2
      refine EndsK.go st2 ?_
      have F2_least : Fld Z h2 ab "com/example/update_by_version/updatebyversion/Marker$Range" "least" "J" (.long (0 : Int64)) := D2 (Or.inr (hw _ (List.mem_of_getElem? (i := 33) rfl))) (ty := .long) (by decide)
      have F2_greatest : Fld Z h2 ab "com/example/update_by_version/updatebyversion/Marker$Range" "greatest" "J" (.long (0 : Int64)) := D2 (Or.inr (hw _ (List.mem_of_getElem? (i := 35) rfl))) (ty := .long) (by decide)
      have Z2 : n0 ≤ h2.size := Nat.le_trans ZJ E2.1
      have G2 : n0 ≤ ab := by rw [g2]; exact ZJ
      have P2 := ext_trans PJ E2
      have sz_ab : h0.size ≤ ab := by rw [g2]; exact PJ.1
      show EndsK p e below _ (T2.setTop (mkF m 60 #[.val (.long i0), .second, .val (.long i1), .second, .val (.int i2), .val (.long i3), .second, .val (.long i4), .second, .val (.int v9), .val (.long bv), .second, .val ra, .unset, .unset, .unset, .unset, .unset, .unset] [(.ref ab)]))
      refine EndsK.go (fun _ kz => XS.dup X2.here hx rfl (hb hby at_60) rfl rfl kz) ?_
      show EndsK p e below _ (T2.setTop (mkF m 61 #[.val (.long i0), .second, .val (.long i1), .second, .val (.int i2), .val (.long i3), .second, .val (.long i4), .second, .val (.int v9), .val (.long bv), .second, .val ra, .unset, .unset, .unset, .unset, .unset, .unset] [(.ref ab), (.ref ab)]))
      refine EndsK.go (fun _ kz => XS.lload X2.here hx rfl (hb hby at_61) rfl kz) ?_
      show EndsK p e below _ (T2.setTop (mkF m 63 #[.val (.long i0), .second, .val (.long i1), .second, .val (.int i2), .val (.long i3), .second, .val (.long i4), .second, .val (.int v9), .val (.long bv), .second, .val ra, .unset, .unset, .unset, .unset, .unset, .unset] [(.long i4), (.ref ab), (.ref ab)]))
      refine EndsK.go (fun _ kz => XS.lload X2.here hx rfl (hb hby at_63) rfl kz) ?_
      show EndsK p e below _ (T2.setTop (mkF m 65 #[.val (.long i0), .second, .val (.long i1), .second, .val (.int i2), .val (.long i3), .second, .val (.long i4), .second, .val (.int v9), .val (.long bv), .second, .val ra, .unset, .unset, .unset, .unset, .unset, .unset] [(.long i3), (.long i4), (.ref ab), (.ref ab)]))
      obtain ⟨_, _, ⟨T3, L3, k3, n3⟩, -, X3, ⟨Lc3, hQ3, l3, y3, z3⟩, st3⟩ := X2.specialBack hx (y := (⟨"com/example/update_by_version/updatebyversion/Marker$Range", "<init>", "(JJ)V"⟩ : MethodName)) rfl hown (mvT hZ (hw _ (List.mem_of_getElem? (i := 28) rfl))) (mvT hZ (hw _ (List.mem_of_getElem? (i := 29) rfl))) (mvT hZ (hw _ (List.mem_of_getElem? (i := 30) rfl))) (by decide) (backOf (W := 1) (rm_ri l Z a0 hw [] ab i4 i3 h2 n0 Z2 G2 A2 F2_least F2_greatest) hZ (hw _ (List.mem_of_getElem? (i := 30) rfl)) (hw _ (List.mem_of_getElem? (i := 27) rfl)) (by decide) (by decide)) (g := (mkF m 65 #[.val (.long i0), .second, .val (.long i1), .second, .val (.int i2), .val (.long i3), .second, .val (.long i4), .second, .val (.int v9), .val (.long bv), .second, .val ra, .unset, .unset, .unset, .unset, .unset, .unset] [(.long i3), (.long i4), (.ref ab), (.ref ab)])) rfl (by rw [hml]; rfl) (Steps.refl _) (a := ab) (argsL := [(.long i4), (.long i3)]) (rest := [(.ref ab)]) (lenOf pd6 rfl) rfl (by show 2 * 0 + _ ≤ _; exact Nat.le_of_eq rfl) (hb hby at_65) (fun _ _ => ⟨rfl, e2, (by decide : 2 + 1 + 0 ≤ _), (by decide : 8 + 2 + 0 ≤ _)⟩)
      dsimp only [Pt.U, Pt.locs, Pt.cells, Pt.slots] at X3 l3 y3 z3 st3 hQ3
      subst l3 y3 z3
      obtain ⟨rfl, N3, K3, E3, F3_least, F3_greatest⟩ := hQ3
      have M3 := Fr.app N0 N3
      obtain ⟨h3, e3⟩ : ∃ z, T3.heap = z := ⟨_, rfl⟩
      rw [e3] at K3 E3 F3_least F3_greatest
      have Y3 : Stand p l e room_1 s m #[.long i0, .long i1, .int i2, .long i3, .long i4] below meth c T3 [] 4 16 := (X3.dropFresh (J := _) (fun x hx => by rw [hh, ← hn0]; exact N3 x hx)).mono (by decide) (by decide)
      have P3 : Ext h0 h3 := ext_keep P2 K3 (allS (by rw [← hn0]; exact G2) all0)
      have Z3 : n0 ≤ h3.size := Nat.le_trans Z0 P3.1
      refine EndsK.tr st3 ?_
      show EndsK p e below _ (T3.setTop (mkF m 68 #[.val (.long i0), .second, .val (.long i1), .second, .val (.int i2), .val (.long i3), .second, .val (.long i4), .second, .val (.int v9), .val (.long bv), .second, .val ra, .unset, .unset, .unset, .unset, .unset, .unset] [(.ref ab)]))
      refine EndsK.go (fun _ kz => XS.goto Y3.here hx rfl (pc0 := 68) (pc' := 72) rfl (hb hby at_68) (by decide) (by decide) kz) ?_
      show EndsK p e below _ (T3.setTop (mkF m 72 #[.val (.long i0), .second, .val (.long i1), .second, .val (.int i2), .val (.long i3), .second, .val (.long i4), .second, .val (.int v9), .val (.long bv), .second, .val ra, .unset, .unset, .unset, .unset, .unset, .unset] [(.ref ab)]))
      refine EndsK.go (fun _ kz => XS.astore Y3.here hx rfl (hb hby at_72) rfl rfl (l' := #[.val (.long i0), .second, .val (.long i1), .second, .val (.int i2), .val (.long i3), .second, .val (.long i4), .second, .val (.int v9), .val (.long bv), .second, .val ra, .val (.ref ab), .unset, .unset, .unset, .unset, .unset]) rfl kz) ?_
      exact J74 T3 h3 (Y3.mono (by decide) (by decide)) e3 P3 v9 bv ra (.ref ab) hra rfl
  have P0 := ext_refl h0
  have J26 : ∀ (v9 : Int32) (bv : Int64), EndsK p e below (OQ s (Q_law Z i0 i1 i2 i3 i4 ca cl h0 n0) room_1.cells room_1.slots) (s₁.setTop (mkF m 26 #[.val (.long i0), .second, .val (.long i1), .second, .val (.int i2), .val (.long i3), .second, .val (.long i4), .second, .val (.int v9), .val (.long bv), .second, .unset, .unset, .unset, .unset, .unset, .unset, .unset] [])) := by
    intro v9 bv
    show EndsK p e below _ (s₁.setTop (mkF m 26 #[.val (.long i0), .second, .val (.long i1), .second, .val (.int i2), .val (.long i3), .second, .val (.long i4), .second, .val (.int v9), .val (.long bv), .second, .unset, .unset, .unset, .unset, .unset, .unset, .unset] []))
    refine EndsK.go (fun _ kz => XS.iload X0.here hx rfl (hb hby at_26) rfl kz) ?_
    show EndsK p e below _ (s₁.setTop (mkF m 28 #[.val (.long i0), .second, .val (.long i1), .second, .val (.int i2), .val (.long i3), .second, .val (.long i4), .second, .val (.int v9), .val (.long bv), .second, .unset, .unset, .unset, .unset, .unset, .unset, .unset] [(.int i2)]))
    refine EndsK.go (fun _ kz => XS.iconst X0.here hx rfl (hb hby at_28) kz) ?_
    show EndsK p e below _ (s₁.setTop (mkF m 29 #[.val (.long i0), .second, .val (.long i1), .second, .val (.int i2), .val (.long i3), .second, .val (.long i4), .second, .val (.int v9), .val (.long bv), .second, .unset, .unset, .unset, .unset, .unset, .unset, .unset] [(.int (2 : Int32)), (.int i2)]))
    refine EndsK.go (fun _ kz => XS.iand X0.here hx rfl (hb hby at_29) rfl kz) ?_
    show EndsK p e below _ (s₁.setTop (mkF m 30 #[.val (.long i0), .second, .val (.long i1), .second, .val (.int i2), .val (.long i3), .second, .val (.long i4), .second, .val (.int v9), .val (.long bv), .second, .unset, .unset, .unset, .unset, .unset, .unset, .unset] [(.int (i2 &&& (2 : Int32)))]))
    by_cases H30_1 : (i2 &&& (2 : Int32)) = (0 : Int32)
    · refine EndsK.go (fun _ kz => XS.ifYes X0.here hx rfl (pc0 := 30) (pc' := 47) rfl (hb hby at_30) rfl ((if0 _ _).trans (teq H30_1).1) (by decide) (by decide) kz) ?_
      show EndsK p e below _ (s₁.setTop (mkF m 47 #[.val (.long i0), .second, .val (.long i1), .second, .val (.int i2), .val (.long i3), .second, .val (.long i4), .second, .val (.int v9), .val (.long bv), .second, .unset, .unset, .unset, .unset, .unset, .unset, .unset] []))
      refine EndsK.go (fun _ kz => XS.aconstNull X0.here hx rfl (hb hby at_47) kz) ?_
      show EndsK p e below _ (s₁.setTop (mkF m 48 #[.val (.long i0), .second, .val (.long i1), .second, .val (.int i2), .val (.long i3), .second, .val (.long i4), .second, .val (.int v9), .val (.long bv), .second, .unset, .unset, .unset, .unset, .unset, .unset, .unset] [.null]))
      refine EndsK.go (fun _ kz => XS.astore X0.here hx rfl (hb hby at_48) rfl rfl (l' := #[.val (.long i0), .second, .val (.long i1), .second, .val (.int i2), .val (.long i3), .second, .val (.long i4), .second, .val (.int v9), .val (.long bv), .second, .val .null, .unset, .unset, .unset, .unset, .unset, .unset]) rfl kz) ?_
      exact J50 s₁ h0 (X0.mono (by decide) (by decide)) e0 P0 v9 bv .null rfl
    · refine EndsK.go (fun _ kz => XS.ifNo X0.here hx rfl (hb hby at_30) rfl ((if0 _ _).trans (feq H30_1).1) kz) ?_
      show EndsK p e below _ (s₁.setTop (mkF m 33 #[.val (.long i0), .second, .val (.long i1), .second, .val (.int i2), .val (.long i3), .second, .val (.long i4), .second, .val (.int v9), .val (.long bv), .second, .unset, .unset, .unset, .unset, .unset, .unset, .unset] []))
      obtain ⟨T2, h2, X2, e2, E2, A2, D2, -, st2⟩ := newO X0 hx hZ hown (hw _ (List.mem_of_getElem? (i := 25) rfl)) (hw _ (List.mem_of_getElem? (i := 26) rfl)) (hw _ (List.mem_of_getElem? (i := 27) rfl)) e0 (g := (mkF m 33 #[.val (.long i0), .second, .val (.long i1), .second, .val (.int i2), .val (.long i3), .second, .val (.long i4), .second, .val (.int v9), .val (.long bv), .second, .unset, .unset, .unset, .unset, .unset, .unset, .unset] [])) rfl (hb hby at_33) (by decide) (by decide)
      obtain ⟨aa, g2⟩ : ∃ z, z = h0.size := ⟨_, rfl⟩
      rw [← g2] at A2 D2 st2
      refine EndsK.go st2 ?_
      have F2_least : Fld Z h2 aa "com/example/update_by_version/updatebyversion/Marker$Range" "least" "J" (.long (0 : Int64)) := D2 (Or.inr (hw _ (List.mem_of_getElem? (i := 33) rfl))) (ty := .long) (by decide)
      have F2_greatest : Fld Z h2 aa "com/example/update_by_version/updatebyversion/Marker$Range" "greatest" "J" (.long (0 : Int64)) := D2 (Or.inr (hw _ (List.mem_of_getElem? (i := 35) rfl))) (ty := .long) (by decide)
      have Z2 : n0 ≤ h2.size := Nat.le_trans Z0 E2.1
      have G2 : n0 ≤ aa := by rw [g2]; exact Z0
      have P2 := ext_trans P0 E2
      have sz_aa : h0.size ≤ aa := by rw [g2]; exact P0.1
      show EndsK p e below _ (T2.setTop (mkF m 36 #[.val (.long i0), .second, .val (.long i1), .second, .val (.int i2), .val (.long i3), .second, .val (.long i4), .second, .val (.int v9), .val (.long bv), .second, .unset, .unset, .unset, .unset, .unset, .unset, .unset] [(.ref aa)]))
      refine EndsK.go (fun _ kz => XS.dup X2.here hx rfl (hb hby at_36) rfl rfl kz) ?_
      show EndsK p e below _ (T2.setTop (mkF m 37 #[.val (.long i0), .second, .val (.long i1), .second, .val (.int i2), .val (.long i3), .second, .val (.long i4), .second, .val (.int v9), .val (.long bv), .second, .unset, .unset, .unset, .unset, .unset, .unset, .unset] [(.ref aa), (.ref aa)]))
      refine EndsK.go (fun _ kz => XS.lload X2.here hx rfl (hb hby at_37) rfl kz) ?_
      show EndsK p e below _ (T2.setTop (mkF m 39 #[.val (.long i0), .second, .val (.long i1), .second, .val (.int i2), .val (.long i3), .second, .val (.long i4), .second, .val (.int v9), .val (.long bv), .second, .unset, .unset, .unset, .unset, .unset, .unset, .unset] [(.long i3), (.ref aa), (.ref aa)]))
      refine EndsK.go (fun _ kz => XS.lload X2.here hx rfl (hb hby at_39) rfl kz) ?_
      show EndsK p e below _ (T2.setTop (mkF m 41 #[.val (.long i0), .second, .val (.long i1), .second, .val (.int i2), .val (.long i3), .second, .val (.long i4), .second, .val (.int v9), .val (.long bv), .second, .unset, .unset, .unset, .unset, .unset, .unset, .unset] [(.long i4), (.long i3), (.ref aa), (.ref aa)]))
      obtain ⟨_, _, ⟨T3, L3, k3, n3⟩, -, X3, ⟨Lc3, hQ3, l3, y3, z3⟩, st3⟩ := X2.specialBack hx (y := (⟨"com/example/update_by_version/updatebyversion/Marker$Range", "<init>", "(JJ)V"⟩ : MethodName)) rfl hown (mvT hZ (hw _ (List.mem_of_getElem? (i := 28) rfl))) (mvT hZ (hw _ (List.mem_of_getElem? (i := 29) rfl))) (mvT hZ (hw _ (List.mem_of_getElem? (i := 30) rfl))) (by decide) (backOf (W := 1) (rm_ri l Z a0 hw [] aa i3 i4 h2 n0 Z2 G2 A2 F2_least F2_greatest) hZ (hw _ (List.mem_of_getElem? (i := 30) rfl)) (hw _ (List.mem_of_getElem? (i := 27) rfl)) (by decide) (by decide)) (g := (mkF m 41 #[.val (.long i0), .second, .val (.long i1), .second, .val (.int i2), .val (.long i3), .second, .val (.long i4), .second, .val (.int v9), .val (.long bv), .second, .unset, .unset, .unset, .unset, .unset, .unset, .unset] [(.long i4), (.long i3), (.ref aa), (.ref aa)])) rfl (by rw [hml]; rfl) (Steps.refl _) (a := aa) (argsL := [(.long i3), (.long i4)]) (rest := [(.ref aa)]) (lenOf pd6 rfl) rfl (by show 2 * 0 + _ ≤ _; exact Nat.le_of_eq rfl) (hb hby at_41) (fun _ _ => ⟨rfl, e2, (by decide : 0 + 1 + 0 ≤ _), (by decide : 0 + 2 + 0 ≤ _)⟩)
      dsimp only [Pt.U, Pt.locs, Pt.cells, Pt.slots] at X3 l3 y3 z3 st3 hQ3
      subst l3 y3 z3
      obtain ⟨rfl, N3, K3, E3, F3_least, F3_greatest⟩ := hQ3
      have M3 := Fr.app N0 N3
      obtain ⟨h3, e3⟩ : ∃ z, T3.heap = z := ⟨_, rfl⟩
      rw [e3] at K3 E3 F3_least F3_greatest
      have Y3 : Stand p l e room_1 s m #[.long i0, .long i1, .int i2, .long i3, .long i4] below meth c T3 [] 2 8 := (X3.dropFresh (J := _) (fun x hx => by rw [hh, ← hn0]; exact N3 x hx)).mono (by decide) (by decide)
      have P3 : Ext h0 h3 := ext_keep P2 K3 (allS (by rw [← hn0]; exact G2) all0)
      have Z3 : n0 ≤ h3.size := Nat.le_trans Z0 P3.1
      refine EndsK.tr st3 ?_
      show EndsK p e below _ (T3.setTop (mkF m 44 #[.val (.long i0), .second, .val (.long i1), .second, .val (.int i2), .val (.long i3), .second, .val (.long i4), .second, .val (.int v9), .val (.long bv), .second, .unset, .unset, .unset, .unset, .unset, .unset, .unset] [(.ref aa)]))
      refine EndsK.go (fun _ kz => XS.goto Y3.here hx rfl (pc0 := 44) (pc' := 48) rfl (hb hby at_44) (by decide) (by decide) kz) ?_
      show EndsK p e below _ (T3.setTop (mkF m 48 #[.val (.long i0), .second, .val (.long i1), .second, .val (.int i2), .val (.long i3), .second, .val (.long i4), .second, .val (.int v9), .val (.long bv), .second, .unset, .unset, .unset, .unset, .unset, .unset, .unset] [(.ref aa)]))
      refine EndsK.go (fun _ kz => XS.astore Y3.here hx rfl (hb hby at_48) rfl rfl (l' := #[.val (.long i0), .second, .val (.long i1), .second, .val (.int i2), .val (.long i3), .second, .val (.long i4), .second, .val (.int v9), .val (.long bv), .second, .val (.ref aa), .unset, .unset, .unset, .unset, .unset, .unset]) rfl kz) ?_
      exact J50 T3 h3 (Y3.mono (by decide) (by decide)) e3 P3 v9 bv (.ref aa) rfl
  show EndsK p e below _ (s₁.setTop (mkF m 0 #[.val (.long i0), .second, .val (.long i1), .second, .val (.int i2), .val (.long i3), .second, .val (.long i4), .second, .unset, .unset, .unset, .unset, .unset, .unset, .unset, .unset, .unset, .unset] []))
  refine EndsK.go (fun _ kz => XS.iload X0.here hx rfl (hb hby at_0) rfl kz) ?_
  show EndsK p e below _ (s₁.setTop (mkF m 2 #[.val (.long i0), .second, .val (.long i1), .second, .val (.int i2), .val (.long i3), .second, .val (.long i4), .second, .unset, .unset, .unset, .unset, .unset, .unset, .unset, .unset, .unset, .unset] [(.int i2)]))
  refine EndsK.go (fun _ kz => XS.iconst X0.here hx rfl (hb hby at_2) kz) ?_
  show EndsK p e below _ (s₁.setTop (mkF m 3 #[.val (.long i0), .second, .val (.long i1), .second, .val (.int i2), .val (.long i3), .second, .val (.long i4), .second, .unset, .unset, .unset, .unset, .unset, .unset, .unset, .unset, .unset, .unset] [(.int (1 : Int32)), (.int i2)]))
  refine EndsK.go (fun _ kz => XS.iand X0.here hx rfl (hb hby at_3) rfl kz) ?_
  show EndsK p e below _ (s₁.setTop (mkF m 4 #[.val (.long i0), .second, .val (.long i1), .second, .val (.int i2), .val (.long i3), .second, .val (.long i4), .second, .unset, .unset, .unset, .unset, .unset, .unset, .unset, .unset, .unset, .unset] [(.int (i2 &&& (1 : Int32)))]))
  by_cases H4_1 : (i2 &&& (1 : Int32)) = (0 : Int32)
  · refine EndsK.go (fun _ kz => XS.ifYes X0.here hx rfl (pc0 := 4) (pc' := 11) rfl (hb hby at_4) rfl ((if0 _ _).trans (teq H4_1).1) (by decide) (by decide) kz) ?_
    show EndsK p e below _ (s₁.setTop (mkF m 11 #[.val (.long i0), .second, .val (.long i1), .second, .val (.int i2), .val (.long i3), .second, .val (.long i4), .second, .unset, .unset, .unset, .unset, .unset, .unset, .unset, .unset, .unset, .unset] []))
    refine EndsK.go (fun _ kz => XS.iconst X0.here hx rfl (hb hby at_11) kz) ?_
    show EndsK p e below _ (s₁.setTop (mkF m 12 #[.val (.long i0), .second, .val (.long i1), .second, .val (.int i2), .val (.long i3), .second, .val (.long i4), .second, .unset, .unset, .unset, .unset, .unset, .unset, .unset, .unset, .unset, .unset] [(.int (0 : Int32))]))
    refine EndsK.go (fun _ kz => XS.istore X0.here hx rfl (hb hby at_12) rfl (l' := #[.val (.long i0), .second, .val (.long i1), .second, .val (.int i2), .val (.long i3), .second, .val (.long i4), .second, .val (.int (0 : Int32)), .unset, .unset, .unset, .unset, .unset, .unset, .unset, .unset, .unset]) rfl kz) ?_
    show EndsK p e below _ (s₁.setTop (mkF m 14 #[.val (.long i0), .second, .val (.long i1), .second, .val (.int i2), .val (.long i3), .second, .val (.long i4), .second, .val (.int (0 : Int32)), .unset, .unset, .unset, .unset, .unset, .unset, .unset, .unset, .unset] []))
    refine EndsK.go (fun _ kz => XS.iload X0.here hx rfl (hb hby at_14) rfl kz) ?_
    show EndsK p e below _ (s₁.setTop (mkF m 16 #[.val (.long i0), .second, .val (.long i1), .second, .val (.int i2), .val (.long i3), .second, .val (.long i4), .second, .val (.int (0 : Int32)), .unset, .unset, .unset, .unset, .unset, .unset, .unset, .unset, .unset] [(.int (0 : Int32))]))
    refine EndsK.go (fun _ kz => XS.ifYes X0.here hx rfl (pc0 := 16) (pc' := 23) rfl (hb hby at_16) rfl ((if0 _ _).trans (teq (rfl : (0 : Int32) = (0 : Int32))).1) (by decide) (by decide) kz) ?_
    show EndsK p e below _ (s₁.setTop (mkF m 23 #[.val (.long i0), .second, .val (.long i1), .second, .val (.int i2), .val (.long i3), .second, .val (.long i4), .second, .val (.int (0 : Int32)), .unset, .unset, .unset, .unset, .unset, .unset, .unset, .unset, .unset] []))
    refine EndsK.go (fun _ kz => XS.lloadN X0.here hx rfl (hb hby at_23) rfl kz) ?_
    show EndsK p e below _ (s₁.setTop (mkF m 24 #[.val (.long i0), .second, .val (.long i1), .second, .val (.int i2), .val (.long i3), .second, .val (.long i4), .second, .val (.int (0 : Int32)), .unset, .unset, .unset, .unset, .unset, .unset, .unset, .unset, .unset] [(.long i1)]))
    refine EndsK.go (fun _ kz => XS.lstore X0.here hx rfl (hb hby at_24) rfl (l' := #[.val (.long i0), .second, .val (.long i1), .second, .val (.int i2), .val (.long i3), .second, .val (.long i4), .second, .val (.int (0 : Int32)), .val (.long i1), .second, .unset, .unset, .unset, .unset, .unset, .unset, .unset]) rfl kz) ?_
    exact J26 _ _
  · refine EndsK.go (fun _ kz => XS.ifNo X0.here hx rfl (hb hby at_4) rfl ((if0 _ _).trans (feq H4_1).1) kz) ?_
    show EndsK p e below _ (s₁.setTop (mkF m 7 #[.val (.long i0), .second, .val (.long i1), .second, .val (.int i2), .val (.long i3), .second, .val (.long i4), .second, .unset, .unset, .unset, .unset, .unset, .unset, .unset, .unset, .unset, .unset] []))
    refine EndsK.go (fun _ kz => XS.iconst X0.here hx rfl (hb hby at_7) kz) ?_
    show EndsK p e below _ (s₁.setTop (mkF m 8 #[.val (.long i0), .second, .val (.long i1), .second, .val (.int i2), .val (.long i3), .second, .val (.long i4), .second, .unset, .unset, .unset, .unset, .unset, .unset, .unset, .unset, .unset, .unset] [(.int (1 : Int32))]))
    refine EndsK.go (fun _ kz => XS.goto X0.here hx rfl (pc0 := 8) (pc' := 12) rfl (hb hby at_8) (by decide) (by decide) kz) ?_
    show EndsK p e below _ (s₁.setTop (mkF m 12 #[.val (.long i0), .second, .val (.long i1), .second, .val (.int i2), .val (.long i3), .second, .val (.long i4), .second, .unset, .unset, .unset, .unset, .unset, .unset, .unset, .unset, .unset, .unset] [(.int (1 : Int32))]))
    refine EndsK.go (fun _ kz => XS.istore X0.here hx rfl (hb hby at_12) rfl (l' := #[.val (.long i0), .second, .val (.long i1), .second, .val (.int i2), .val (.long i3), .second, .val (.long i4), .second, .val (.int (1 : Int32)), .unset, .unset, .unset, .unset, .unset, .unset, .unset, .unset, .unset]) rfl kz) ?_
    show EndsK p e below _ (s₁.setTop (mkF m 14 #[.val (.long i0), .second, .val (.long i1), .second, .val (.int i2), .val (.long i3), .second, .val (.long i4), .second, .val (.int (1 : Int32)), .unset, .unset, .unset, .unset, .unset, .unset, .unset, .unset, .unset] []))
    refine EndsK.go (fun _ kz => XS.iload X0.here hx rfl (hb hby at_14) rfl kz) ?_
    show EndsK p e below _ (s₁.setTop (mkF m 16 #[.val (.long i0), .second, .val (.long i1), .second, .val (.int i2), .val (.long i3), .second, .val (.long i4), .second, .val (.int (1 : Int32)), .unset, .unset, .unset, .unset, .unset, .unset, .unset, .unset, .unset] [(.int (1 : Int32))]))
    refine EndsK.go (fun _ kz => XS.ifNo X0.here hx rfl (hb hby at_16) rfl ((if0 _ _).trans (feq (by decide : ¬ ((1 : Int32) = (0 : Int32)))).1) kz) ?_
    show EndsK p e below _ (s₁.setTop (mkF m 19 #[.val (.long i0), .second, .val (.long i1), .second, .val (.int i2), .val (.long i3), .second, .val (.long i4), .second, .val (.int (1 : Int32)), .unset, .unset, .unset, .unset, .unset, .unset, .unset, .unset, .unset] []))
    refine EndsK.go (fun _ kz => XS.lloadN X0.here hx rfl (hb hby at_19) rfl kz) ?_
    show EndsK p e below _ (s₁.setTop (mkF m 20 #[.val (.long i0), .second, .val (.long i1), .second, .val (.int i2), .val (.long i3), .second, .val (.long i4), .second, .val (.int (1 : Int32)), .unset, .unset, .unset, .unset, .unset, .unset, .unset, .unset, .unset] [(.long i0)]))
    refine EndsK.go (fun _ kz => XS.goto X0.here hx rfl (pc0 := 20) (pc' := 24) rfl (hb hby at_20) (by decide) (by decide) kz) ?_
    show EndsK p e below _ (s₁.setTop (mkF m 24 #[.val (.long i0), .second, .val (.long i1), .second, .val (.int i2), .val (.long i3), .second, .val (.long i4), .second, .val (.int (1 : Int32)), .unset, .unset, .unset, .unset, .unset, .unset, .unset, .unset, .unset] [(.long i0)]))
    refine EndsK.go (fun _ kz => XS.lstore X0.here hx rfl (hb hby at_24) rfl (l' := #[.val (.long i0), .second, .val (.long i1), .second, .val (.int i2), .val (.long i3), .second, .val (.long i4), .second, .val (.int (1 : Int32)), .val (.long i0), .second, .unset, .unset, .unset, .unset, .unset, .unset, .unset]) rfl kz) ?_
    exact J26 _ _
set_option maxRecDepth 65536 in
set_option maxHeartbeats 40000000 in
theorem comes_1 {Post : Tables → Env → Array Value → State → Outcome → State → Prop} (hpost : ∀ tb e args s v u, (limb_1_1.after args s (.returned v) u = true ∧ limb_1_2.after args s (.returned v) u = true ∧ True) → FrameEnd s (.returned v) u (Jvm.fieldLocs frame_1_writes args s ++ Jvm.arrayLocs frame_1_arrays args s ++ Jvm.staticLocs frame_1_statics s) 24 128 → Post tb e args s (.returned v) u) :
    ArmFor flags0 classFile x code maxLocals ret World_1 tables_1 room_1 Calls_1 rest_1 Pre_1 Post := by
  intro l hfl _ _ p e ha hc hk s m args below hf hA hF happ hP
  obtain ⟨hcalls, hrest, hpre⟩ := hP
  obtain ⟨-, -, -, hnamed, -, -, -, hat⟩ := (Spec.applies_iff hf).mp happ
  obtain ⟨hg, hn⟩ := and_e (Cond.before_iff.mp (show (Jvm.Cond.and given_1 narrow_1).before args s = true from hpre))
  obtain ⟨hcount, hg⟩ := and_e hg
  obtain ⟨hi0, hg⟩ := and_e hg
  obtain ⟨hi1, hg⟩ := and_e hg
  obtain ⟨hi2, hg⟩ := and_e hg
  obtain ⟨hi3, hg⟩ := and_e hg
  obtain ⟨w0, w1, w2, w3, w4, rfl⟩ : ∃ w0 w1 w2 w3 w4 : Value, args = #[w0, w1, w2, w3, w4] := by
    have hs : args.size = 5 := by simpa [Cond.value, given_1] using hcount
    obtain ⟨L⟩ := args
    match L, hs with
    | [w0, w1, w2, w3, w4], _ => exact ⟨w0, w1, w2, w3, w4, rfl⟩
  have hw := fun d (hd : d ∈ tables_1) => atoms_spec (ws := Jvm.Cond.code x code maxLocals ret :: tables_1) hat d (List.mem_cons_of_mem _ hd)
  have hfit : Fit s := fun {y c} hc i hi => by
    obtain ⟨ha, rfl⟩ := Array.getElem?_eq_some_iff.mp hc
    have q := List.all_eq_true.mp ((Array.all_eq_true_iff_forall_mem.mp hF) _ (Array.getElem_mem ha)) i (List.mem_range.mpr hi)
    simpa [Array.getElem?_eq_getElem hi] using q
  obtain ⟨i0, ei0⟩ := isL_v hi0
  obtain rfl : w0 = (.long i0) := Option.some.inj ei0
  obtain ⟨i1, ei1⟩ := isL_v hi1
  obtain rfl : w1 = (.long i1) := Option.some.inj ei1
  obtain ⟨i2, ei2⟩ := is_v hi2
  obtain rfl : w2 = (.int i2) := Option.some.inj ei2
  obtain ⟨i3, ei3⟩ := isL_v hi3
  obtain rfl : w3 = (.long i3) := Option.some.inj ei3
  obtain ⟨i4, ei4⟩ := isL_v hg
  obtain rfl : w4 = (.long i4) := Option.some.inj ei4
  obtain ⟨hsets, hown0⟩ := atoms_of _ (rest_1_c_eq ▸ (show rest_1_c.before _ s = true from hrest))
  have qA := Cond.before_iff.mp (hsets _ (List.mem_of_getElem? (i := 2) rfl))
  obtain ⟨ca, vC⟩ := arr_v qA
  obtain ⟨cl, AC⟩ := Arr.start vC qA
  have SC := Sta.start vC (Or.inl (hsets _ (List.mem_of_getElem? (i := 1) rfl)))
  have qL := arrLen vC AC (Cond.before_iff.mp (hsets _ (List.mem_of_getElem? (i := 4) rfl)))
  have hsz : cl.slots.size = 256 := by have q := len_toInt qL.1; rw [qL.2] at q; have q2 : (256 : Int32).toInt = 256 := rfl; omega
  have qE := Cond.all_elim vC (AC.fin (Vm.Alike.refl _)) (Cond.before_iff.mp (hsets _ (List.mem_of_getElem? (i := 5) rfl)))
  have hC : ∀ j : Int32, ¬ (j < 0 ∨ cl.slots.size ≤ j.toNatClampNeg) → ∃ b, cl.slots[j.toNatClampNeg]? = some (.ref b) ∧ Exa s s.heap b "java/lang/Long" := by
    intro j hj
    obtain ⟨q1, -⟩ := and_e (qE _ (Nat.lt_of_not_le fun y => hj (Or.inr y)))
    obtain ⟨b, eb⟩ := exa_v q1
    exact ⟨b, (elem_in eb (by simpa [Term.eval] using vC) (idx_at (fun y => hj (Or.inl y))) AC.1).2, exa_at eb q1⟩
  have rO : NS s "java/lang/Object" "com/example/update_by_version/updatebyversion/Marker$Version" := ns_root (hw _ (List.mem_of_getElem? (i := 47) rfl)) (hw _ (List.mem_of_getElem? (i := 1) rfl)) (by decide)
  have noL := ns_no (hw _ (List.mem_of_getElem? (i := 69) rfl)) (hw _ (List.mem_of_getElem? (i := 1) rfl)) (NS.step (hw _ (List.mem_of_getElem? (i := 69) rfl)) (NS.step (hw _ (List.mem_of_getElem? (i := 70) rfl)) rO (by decide)) (by decide)) (by decide)
  have noT := ns_no (hw _ (List.mem_of_getElem? (i := 45) rfl)) (hw _ (List.mem_of_getElem? (i := 1) rfl)) (NS.step (hw _ (List.mem_of_getElem? (i := 45) rfl)) (NS.step (hw _ (List.mem_of_getElem? (i := 46) rfl)) rO (by decide)) (by decide)) (by decide)
  obtain ⟨n, o, h1, h2, h3, _, L, rfl, ⟨rfl, N⟩, hq⟩ := rm_law l s _ hw tables_1 i0 i1 i2 i3 i4 ca cl s.heap s.heap.size (Nat.le_refl _) rfl SC AC hsz hC noL noT p e ha hc hk s m _ below hf ((Spec.applies_iff_loose hf).mp happ).1 ⟨rfl, State.Warmed39.refl s, rfl⟩ trivial
  refine ⟨n, _, h1, h2, h3, hpost _ _ _ _ _ _ ⟨Cond.after_iff.mpr rfl, Cond.after_iff.mpr (eq_i res_at (Term.int_eval (1)) rfl), trivial⟩ ⟨hq.1, hq.2.1, (hq.2.2.sift fun y hy => Or.inr (N y hy)).mono (by decide) (by decide)⟩⟩
theorem main_1_1 : Claimed_1_1 := comes_1 fun _ _ _ _ _ _ h hF => ⟨h.1, hF⟩
theorem main_1_2 : Claimed_1_2 := comes_1 fun _ _ _ _ _ _ h hF => ⟨h.2.1, hF⟩
end Jvm.Pilot.@@N@@
namespace Jvm.Pilot.@@N@@
open Jvm Jvm.ClassFile Sem Op Lib Jvm.Free Jvm.Stand Jvm.Pilot.@@N@@.Jvm.D
/-! MADE BY PROGRAM (witnessworld.py) out of the Statement's table words and the real class files: 20 classes; the members and pool entries that the words name. The judged class is class 1, her method 1. -/
namespace start1
open Jvm.ClassFile
def u (s : String) : CpInfo := .utf8 (stringToUtf16 s)
/-- a pool by its gaps: so many unusable entries, then the entry; so many at the end -/
def gap : Nat → List CpInfo → List CpInfo
  | 0, r => r
  | n + 1, r => .unusable :: gap n r
def poolList (es : List (Nat × CpInfo)) (last : Nat) : List CpInfo := es.foldr (fun e r => gap e.1 (e.2 :: r)) (gap last [])
def pool (es : List (Nat × CpInfo)) (last : Nat) : Array CpInfo := ⟨poolList es last⟩
def fileOf (pool : Array CpInfo) (this : Nat) (attrs : Array Attribute := #[]) (ms : Array MethodInfo := #[]) (fl : Nat := 33) (sup : Nat := 0) (ifs : Array Nat := #[]) (fds : Array FieldInfo := #[]) : ClassFile where
  minorVersion := 0
  majorVersion := 65
  constantPool := pool
  accessFlags := fl
  thisClass := this
  superClass := sup
  interfaces := ifs
  fields := fds
  methods := ms
  attributes := attrs
def plain (name : String) (sup : Option ClassId) : Class where
  name := name
  kind := .ordinary
  loader := none
  accessFlags := 33
  super := sup
  interfaces := #[]
  cf := none
  fields := #[]
  methods := #[]
  instanceTypes := #[]
  staticTypes := #[]
  resolved := #[]
  callSites := []
  init := .initialized
  statics := none
  mirror := none

def pool0 : Array CpInfo := pool [(5, u "<init>"), (0, u "()V"), (1, .class_ 10), (1, u "java/lang/Object")] 113

def k0c0 : Code := { maxStack := 0, maxLocals := 1, code := object_method_1_code, exceptionTable := #[], attributes := #[] }
def k0m0 : Method := { name := "<init>", desc := "()V", sig := { parameters := [], returnType := none }, accessFlags := 1, code := some k0c0 }
/-- java/lang/Object -/
def k0 : Class := { plain "java/lang/Object" none with
  accessFlags := 33
  interfaces := #[]
  cf := some (fileOf pool0 8 #[] #[{ accessFlags := 1, nameIndex := 5, descriptorIndex := 6, attributes := #[] }] 33 0 #[] #[])
  fields := #[]
  methods := #[k0m0]
  instanceTypes := #[]
  staticTypes := #[]
  resolved := Array.replicate 124 none
  statics := none }

def pool1 : Array CpInfo := pool [(2, .class_ 4), (1, u "java/lang/Object"), (0, u "<init>"), (0, u "()V"), (0, .class_ 8), (0, u "com/example/update_by_version/updatebyversion/Marker$Range"), (0, .methodref 7 10), (0, .nameAndType 5 11), (0, u "(JJ)V"), (0, .class_ 13), (0, u "com/example/update_by_version/updatebyversion/Marker$Version"), (0, .methodref 12 15), (0, .nameAndType 5 16), (0, u "(JLcom/example/update_by_version/updatebyversion/Marker$Range;)V"), (0, .methodref 18 19), (0, .class_ 20), (0, .nameAndType 21 22), (0, u "java/lang/Long"), (0, u "valueOf"), (0, u "(J)Ljava/lang/Long;"), (0, .class_ 24), (0, u "com/example/update_by_version/updatebyversion/Marker$Timestamp"), (0, .methodref 23 26), (0, .nameAndType 5 27), (0, u "(Ljava/time/LocalDateTime;)V"), (0, .methodref 12 29), (0, .nameAndType 30 31), (0, u "equals"), (0, u "(Ljava/lang/Object;)Z"), (0, .class_ 33), (0, u "com/example/update_by_version/updatebyversion/VersionEqualsPinLaw"), (2, u "law"), (0, u "(JJIJJ)Z")] 9

def k1m0 : Method := { name := "<init>", desc := "()V", sig := { parameters := [], returnType := none }, accessFlags := 1, code := none }
def k1c1 : Code := { maxStack := 6, maxLocals := 19, code := code, exceptionTable := #[], attributes := #[] }
def k1m1 : Method := { name := "law", desc := "(JJIJJ)Z", sig := { parameters := [.long, .long, .int, .long, .long], returnType := some .boolean }, accessFlags := 9, code := some k1c1 }
/-- com/example/update_by_version/updatebyversion/VersionEqualsPinLaw -/
def k1 : Class := { plain "com/example/update_by_version/updatebyversion/VersionEqualsPinLaw" (some 0) with
  accessFlags := 49
  interfaces := #[]
  cf := some (fileOf pool1 32 #[] #[{ accessFlags := 1, nameIndex := 5, descriptorIndex := 6, attributes := #[] }, { accessFlags := 9, nameIndex := 36, descriptorIndex := 37, attributes := #[] }] 49 2 #[] #[])
  fields := #[]
  methods := #[k1m0, k1m1]
  instanceTypes := #[]
  staticTypes := #[]
  resolved := Array.replicate 47 none
  statics := none }

def pool2 : Array CpInfo := pool [(1, .methodref 2 3), (0, .class_ 4), (0, .nameAndType 5 6), (0, u "java/lang/Object"), (0, u "<init>"), (0, u "()V"), (0, .class_ 8), (0, u "java/lang/Record")] 13

def k2c0 : Code := { maxStack := 1, maxLocals := 1, code := jdk_30_method_1_code, exceptionTable := #[], attributes := #[] }
def k2m0 : Method := { name := "<init>", desc := "()V", sig := { parameters := [], returnType := none }, accessFlags := 4, code := some k2c0 }
/-- java/lang/Record -/
def k2 : Class := { plain "java/lang/Record" (some 0) with
  accessFlags := 1057
  interfaces := #[]
  cf := some (fileOf pool2 7 #[] #[{ accessFlags := 4, nameIndex := 5, descriptorIndex := 6, attributes := #[] }] 1057 2 #[] #[])
  fields := #[]
  methods := #[k2m0]
  instanceTypes := #[]
  staticTypes := #[]
  resolved := Array.replicate 22 none
  statics := none }

def pool3 : Array CpInfo := pool [(1, .class_ 2), (0, u "java/io/Serializable"), (0, .class_ 4), (0, u "java/lang/Object")] 2

/-- java/io/Serializable -/
def k3 : Class := { plain "java/io/Serializable" (some 0) with
  accessFlags := 1537
  interfaces := #[]
  cf := some (fileOf pool3 1 #[] #[] 1537 3 #[] #[])
  fields := #[]
  methods := #[]
  instanceTypes := #[]
  staticTypes := #[]
  resolved := Array.replicate 7 none
  statics := none }

def pool4 : Array CpInfo := pool [(20, .class_ 22), (1, u "com/example/update_by_version/updatebyversion/Marker$Kind"), (3, .class_ 28), (1, u "com/example/update_by_version/updatebyversion/Marker"), (12, .class_ 42), (0, u "java/lang/Object"), (0, .class_ 44), (0, u "java/io/Serializable"), (36, .class_ 82), (0, u "com/example/update_by_version/updatebyversion/Marker$Values"), (0, .class_ 84), (0, u "com/example/update_by_version/updatebyversion/Marker$Timestamp"), (0, .class_ 86), (0, u "com/example/update_by_version/updatebyversion/Marker$Version"), (0, .class_ 88), (0, u "com/example/update_by_version/updatebyversion/Marker$Range"), (0, .class_ 90), (0, u "com/example/update_by_version/updatebyversion/Marker$Next"), (0, .class_ 92), (0, u "com/example/update_by_version/updatebyversion/Marker$First"), (0, .class_ 94), (0, u "com/example/update_by_version/updatebyversion/Marker$Kind$3"), (0, .class_ 96), (0, u "com/example/update_by_version/updatebyversion/Marker$Kind$2"), (0, .class_ 98), (0, u "com/example/update_by_version/updatebyversion/Marker$Kind$1"), (0, .class_ 100), (0, u "com/example/update_by_version/updatebyversion/Marker$Check"), (0, .class_ 102), (0, u "com/example/update_by_version/updatebyversion/Marker$Comparison"), (0, .class_ 104), (0, u "com/example/update_by_version/updatebyversion/Marker$Comparison$Compared"), (0, .class_ 106), (0, u "com/example/update_by_version/updatebyversion/Marker$TableColumns"), (0, .class_ 108), (0, u "com/example/update_by_version/updatebyversion/Marker$MarkerColumn"), (0, .class_ 110), (0, u "com/example/update_by_version/updatebyversion/Marker$ComparedColumns"), (0, .class_ 112), (0, u "com/example/update_by_version/updatebyversion/Marker$Server")] 30

/-- com/example/update_by_version/updatebyversion/Marker -/
def k4 : Class := { plain "com/example/update_by_version/updatebyversion/Marker" (some 0) with
  accessFlags := 1536
  interfaces := #[3]
  cf := some (fileOf pool4 26 #[.nestMembers #[81, 83, 85, 87, 89, 91, 20, 93, 95, 97, 99, 101, 103, 105, 107, 109, 111]] #[] 1536 41 #[43] #[])
  fields := #[]
  methods := #[]
  instanceTypes := #[]
  staticTypes := #[]
  resolved := Array.replicate 143 none
  statics := none }

def pool5 : Array CpInfo := pool [(1, .methodref 2 3), (0, .class_ 4), (0, .nameAndType 5 6), (0, u "java/lang/Record"), (0, u "<init>"), (0, u "()V"), (0, .fieldref 8 9), (0, .class_ 10), (0, .nameAndType 11 12), (0, u "com/example/update_by_version/updatebyversion/Marker$Version"), (0, u "version"), (0, u "J"), (0, .fieldref 8 14), (0, .nameAndType 15 16), (0, u "range"), (0, u "Lcom/example/update_by_version/updatebyversion/Marker$Range;"), (40, u "(JLcom/example/update_by_version/updatebyversion/Marker$Range;)V"), (19, .class_ 79), (1, u "com/example/update_by_version/updatebyversion/Marker"), (22, u "serialVersionUID"), (22, u "equals"), (0, u "(Ljava/lang/Object;)Z")] 56

def k5c0 : Code := { maxStack := 3, maxLocals := 4, code := prog_30_method_1_code, exceptionTable := #[], attributes := #[] }
def k5m0 : Method := { name := "<init>", desc := "(JLcom/example/update_by_version/updatebyversion/Marker$Range;)V", sig := { parameters := [.long, (.object "com/example/update_by_version/updatebyversion/Marker$Range")], returnType := none }, accessFlags := 1, code := some k5c0 }
def k5c1 : Code := { maxStack := 4, maxLocals := 3, code := prog_30_method_6_code, exceptionTable := #[], attributes := #[] }
def k5m1 : Method := { name := "equals", desc := "(Ljava/lang/Object;)Z", sig := { parameters := [(.object "java/lang/Object")], returnType := some .boolean }, accessFlags := 1, code := some k5c1 }
/-- com/example/update_by_version/updatebyversion/Marker$Version -/
def k5 : Class := { plain "com/example/update_by_version/updatebyversion/Marker$Version" (some 2) with
  accessFlags := 49
  interfaces := #[4]
  cf := some (fileOf pool5 8 #[.nestHost 77] #[{ accessFlags := 1, nameIndex := 5, descriptorIndex := 57, attributes := #[] }, { accessFlags := 1, nameIndex := 125, descriptorIndex := 126, attributes := #[] }] 49 2 #[77] #[{ accessFlags := 18, nameIndex := 11, descriptorIndex := 12, attributes := #[] }, { accessFlags := 18, nameIndex := 15, descriptorIndex := 16, attributes := #[] }, { accessFlags := 26, nameIndex := 102, descriptorIndex := 12, attributes := #[] }])
  fields := #[{ name := "version", type := .long, accessFlags := 18, slot := 0, constantValue := 0 }, { name := "range", type := (.object "com/example/update_by_version/updatebyversion/Marker$Range"), accessFlags := 18, slot := 1, constantValue := 0 }, { name := "serialVersionUID", type := .long, accessFlags := 26, slot := 0, constantValue := 0 }]
  methods := #[k5m0, k5m1]
  instanceTypes := #[.long, (.object "com/example/update_by_version/updatebyversion/Marker$Range")]
  staticTypes := #[.long]
  resolved := Array.replicate 183 none
  statics := none }

def pool6 : Array CpInfo := pool [(1, .methodref 2 3), (0, .class_ 4), (0, .nameAndType 5 6), (0, u "java/lang/Record"), (0, u "<init>"), (0, u "()V"), (0, .fieldref 8 9), (0, .class_ 10), (0, .nameAndType 11 12), (0, u "com/example/update_by_version/updatebyversion/Marker$Range"), (0, u "least"), (0, u "J"), (0, .fieldref 8 14), (0, .nameAndType 15 12), (0, u "greatest"), (6, u "(JJ)V"), (24, .class_ 48), (0, u "java/io/Serializable"), (0, u "serialVersionUID"), (3, u "NARROWEST_GREATEST"), (16, .class_ 71), (0, u "com/example/update_by_version/updatebyversion/Marker")] 20

def k6c0 : Code := { maxStack := 3, maxLocals := 5, code := prog_25_method_1_code, exceptionTable := #[], attributes := #[] }
def k6m0 : Method := { name := "<init>", desc := "(JJ)V", sig := { parameters := [.long, .long], returnType := none }, accessFlags := 1, code := some k6c0 }
/-- com/example/update_by_version/updatebyversion/Marker$Range -/
def k6 : Class := { plain "com/example/update_by_version/updatebyversion/Marker$Range" (some 2) with
  accessFlags := 49
  interfaces := #[3]
  cf := some (fileOf pool6 8 #[.nestHost 70] #[{ accessFlags := 1, nameIndex := 5, descriptorIndex := 22, attributes := #[] }] 49 2 #[47] #[{ accessFlags := 18, nameIndex := 11, descriptorIndex := 12, attributes := #[] }, { accessFlags := 18, nameIndex := 15, descriptorIndex := 12, attributes := #[] }, { accessFlags := 26, nameIndex := 49, descriptorIndex := 12, attributes := #[] }, { accessFlags := 24, nameIndex := 53, descriptorIndex := 12, attributes := #[] }])
  fields := #[{ name := "least", type := .long, accessFlags := 18, slot := 0, constantValue := 0 }, { name := "greatest", type := .long, accessFlags := 18, slot := 1, constantValue := 0 }, { name := "serialVersionUID", type := .long, accessFlags := 26, slot := 0, constantValue := 0 }, { name := "NARROWEST_GREATEST", type := .long, accessFlags := 24, slot := 1, constantValue := 0 }]
  methods := #[k6m0]
  instanceTypes := #[.long, .long]
  staticTypes := #[.long, .long]
  resolved := Array.replicate 92 none
  statics := none }

def pool7 : Array CpInfo := pool [(1, .methodref 2 3), (0, .class_ 4), (0, .nameAndType 5 6), (0, u "java/lang/Record"), (0, u "<init>"), (0, u "()V"), (0, .fieldref 8 9), (0, .class_ 10), (0, .nameAndType 11 12), (0, u "com/example/update_by_version/updatebyversion/Marker$Timestamp"), (0, u "timestamp"), (0, u "Ljava/time/LocalDateTime;"), (2, u "UTC"), (0, u "Ljava/time/format/DateTimeFormatter;"), (93, .class_ 111), (0, u "com/example/update_by_version/updatebyversion/Marker"), (0, u "serialVersionUID"), (0, u "J"), (3, u "(Ljava/time/LocalDateTime;)V")] 65

def k7c0 : Code := { maxStack := 2, maxLocals := 2, code := prog_28_method_1_code, exceptionTable := #[], attributes := #[] }
def k7m0 : Method := { name := "<init>", desc := "(Ljava/time/LocalDateTime;)V", sig := { parameters := [(.object "java/time/LocalDateTime")], returnType := none }, accessFlags := 1, code := some k7c0 }
/-- com/example/update_by_version/updatebyversion/Marker$Timestamp -/
def k7 : Class := { plain "com/example/update_by_version/updatebyversion/Marker$Timestamp" (some 2) with
  accessFlags := 49
  interfaces := #[4]
  cf := some (fileOf pool7 8 #[.nestHost 110] #[{ accessFlags := 1, nameIndex := 5, descriptorIndex := 117, attributes := #[] }] 49 2 #[110] #[{ accessFlags := 18, nameIndex := 11, descriptorIndex := 12, attributes := #[] }, { accessFlags := 26, nameIndex := 112, descriptorIndex := 113, attributes := #[] }, { accessFlags := 26, nameIndex := 15, descriptorIndex := 16, attributes := #[] }])
  fields := #[{ name := "timestamp", type := (.object "java/time/LocalDateTime"), accessFlags := 18, slot := 0, constantValue := 0 }, { name := "serialVersionUID", type := .long, accessFlags := 26, slot := 0, constantValue := 0 }, { name := "UTC", type := (.object "java/time/format/DateTimeFormatter"), accessFlags := 26, slot := 1, constantValue := 0 }]
  methods := #[k7m0]
  instanceTypes := #[(.object "java/time/LocalDateTime")]
  staticTypes := #[.long, (.object "java/time/format/DateTimeFormatter")]
  resolved := Array.replicate 183 none
  statics := none }

def pool8 : Array CpInfo := pool [(1, .methodref 2 3), (0, .class_ 4), (0, .nameAndType 5 6), (0, u "java/lang/Object"), (0, u "<init>"), (0, u "()V"), (1, .class_ 10), (1, u "java/lang/Number"), (2, .class_ 14), (0, u "java/io/Serializable"), (0, u "serialVersionUID"), (0, u "J")] 20

def k8c0 : Code := { maxStack := 1, maxLocals := 1, code := jdk_18_method_1_code, exceptionTable := #[], attributes := #[] }
def k8m0 : Method := { name := "<init>", desc := "()V", sig := { parameters := [], returnType := none }, accessFlags := 1, code := some k8c0 }
/-- java/lang/Number -/
def k8 : Class := { plain "java/lang/Number" (some 0) with
  accessFlags := 1057
  interfaces := #[3]
  cf := some (fileOf pool8 8 #[] #[{ accessFlags := 1, nameIndex := 5, descriptorIndex := 6, attributes := #[] }] 1057 2 #[13] #[{ accessFlags := 26, nameIndex := 15, descriptorIndex := 16, attributes := #[] }])
  fields := #[{ name := "serialVersionUID", type := .long, accessFlags := 26, slot := 0, constantValue := 0 }]
  methods := #[k8m0]
  instanceTypes := #[]
  staticTypes := #[.long]
  resolved := Array.replicate 37 none
  statics := none }

def pool9 : Array CpInfo := pool [(1, .class_ 2), (0, u "java/lang/Comparable"), (0, .class_ 4), (0, u "java/lang/Object")] 7

/-- java/lang/Comparable -/
def k9 : Class := { plain "java/lang/Comparable" (some 0) with
  accessFlags := 1537
  interfaces := #[]
  cf := some (fileOf pool9 1 #[] #[] 1537 3 #[] #[])
  fields := #[]
  methods := #[]
  instanceTypes := #[]
  staticTypes := #[]
  resolved := Array.replicate 12 none
  statics := none }

def pool10 : Array CpInfo := pool [(1, .class_ 2), (0, u "java/lang/constant/Constable"), (0, .class_ 4), (0, u "java/lang/Object")] 6

/-- java/lang/constant/Constable -/
def k10 : Class := { plain "java/lang/constant/Constable" (some 0) with
  accessFlags := 1537
  interfaces := #[]
  cf := some (fileOf pool10 1 #[] #[] 1537 3 #[] #[])
  fields := #[]
  methods := #[]
  instanceTypes := #[]
  staticTypes := #[]
  resolved := Array.replicate 11 none
  statics := none }

def pool11 : Array CpInfo := pool [(1, .class_ 2), (0, u "java/lang/constant/ConstantDesc"), (0, .class_ 4), (0, u "java/lang/Object")] 32

/-- java/lang/constant/ConstantDesc -/
def k11 : Class := { plain "java/lang/constant/ConstantDesc" (some 0) with
  accessFlags := 1537
  interfaces := #[]
  cf := some (fileOf pool11 1 #[] #[] 1537 3 #[] #[])
  fields := #[]
  methods := #[]
  instanceTypes := #[]
  staticTypes := #[]
  resolved := Array.replicate 37 none
  statics := none }

def pool12 : Array CpInfo := pool [(1, .class_ 2), (0, u "java/lang/Long"), (55, .nameAndType 59 60), (0, u "<init>"), (0, u "()V"), (24, u "valueOf"), (143, u "(J)Ljava/lang/Long;"), (0, .long 18446744073709551488), (1, .long 127), (1, .fieldref 235 236), (0, .class_ 237), (0, .nameAndType 238 239), (0, u "java/lang/Long$LongCache"), (0, u "cache"), (0, u "[Ljava/lang/Long;"), (0, .methodref 1 241), (0, .nameAndType 59 242), (0, u "(J)V"), (27, .methodref 271 58), (0, .class_ 272), (0, u "java/lang/Number"), (0, .fieldref 1 274), (0, .nameAndType 275 276), (0, u "value"), (0, u "J"), (84, u "TYPE"), (0, u "Ljava/lang/Class;"), (0, .class_ 364), (0, u "java/lang/Comparable"), (0, .class_ 366), (0, u "java/lang/constant/Constable"), (0, .class_ 368), (0, u "java/lang/constant/ConstantDesc"), (0, u "MIN_VALUE"), (1, u "MAX_VALUE"), (4, u "SIZE"), (0, u "I"), (1, u "BYTES"), (1, u "serialVersionUID")] 142

def k12c0 : Code := { maxStack := 4, maxLocals := 3, code := jdk_35_method_24_code, exceptionTable := #[], attributes := #[] }
def k12m0 : Method := { name := "valueOf", desc := "(J)Ljava/lang/Long;", sig := { parameters := [.long], returnType := some (.object "java/lang/Long") }, accessFlags := 9, code := some k12c0 }
def k12c1 : Code := { maxStack := 3, maxLocals := 3, code := jdk_35_method_26_code, exceptionTable := #[], attributes := #[] }
def k12m1 : Method := { name := "<init>", desc := "(J)V", sig := { parameters := [.long], returnType := none }, accessFlags := 1, code := some k12c1 }
/-- java/lang/Long -/
def k12 : Class := { plain "java/lang/Long" (some 8) with
  accessFlags := 49
  interfaces := #[9, 10, 11]
  cf := some (fileOf pool12 1 #[.nestMembers #[235]] #[{ accessFlags := 9, nameIndex := 85, descriptorIndex := 229, attributes := #[] }, { accessFlags := 1, nameIndex := 59, descriptorIndex := 242, attributes := #[] }] 49 271 #[363, 365, 367] #[{ accessFlags := 25, nameIndex := 369, descriptorIndex := 276, attributes := #[] }, { accessFlags := 25, nameIndex := 371, descriptorIndex := 276, attributes := #[] }, { accessFlags := 25, nameIndex := 361, descriptorIndex := 362, attributes := #[] }, { accessFlags := 18, nameIndex := 275, descriptorIndex := 276, attributes := #[] }, { accessFlags := 25, nameIndex := 376, descriptorIndex := 377, attributes := #[] }, { accessFlags := 25, nameIndex := 379, descriptorIndex := 377, attributes := #[] }, { accessFlags := 26, nameIndex := 381, descriptorIndex := 276, attributes := #[] }])
  fields := #[{ name := "MIN_VALUE", type := .long, accessFlags := 25, slot := 0, constantValue := 0 }, { name := "MAX_VALUE", type := .long, accessFlags := 25, slot := 1, constantValue := 0 }, { name := "TYPE", type := (.object "java/lang/Class"), accessFlags := 25, slot := 2, constantValue := 0 }, { name := "value", type := .long, accessFlags := 18, slot := 0, constantValue := 0 }, { name := "SIZE", type := .int, accessFlags := 25, slot := 3, constantValue := 0 }, { name := "BYTES", type := .int, accessFlags := 25, slot := 4, constantValue := 0 }, { name := "serialVersionUID", type := .long, accessFlags := 26, slot := 5, constantValue := 0 }]
  methods := #[k12m0, k12m1]
  instanceTypes := #[.long]
  staticTypes := #[.long, .long, (.object "java/lang/Class"), .int, .int, .long]
  resolved := Array.replicate 524 none
  statics := none }

def pool13 : Array CpInfo := pool [(2, .class_ 4), (1, u "java/lang/Object"), (0, u "<init>"), (0, u "()V"), (0, .class_ 8), (0, u "java/lang/Long"), (7, .class_ 18), (1, u "java/lang/Long$LongCache"), (0, u "$assertionsDisabled"), (0, u "Z"), (8, u "archivedCache"), (0, u "[Ljava/lang/Long;"), (7, u "cache")] 24

def k13m0 : Method := { name := "<init>", desc := "()V", sig := { parameters := [], returnType := none }, accessFlags := 2, code := none }
/-- java/lang/Long$LongCache -/
def k13 : Class := { plain "java/lang/Long$LongCache" (some 0) with
  accessFlags := 48
  interfaces := #[]
  cf := some (fileOf pool13 16 #[.nestHost 7] #[{ accessFlags := 2, nameIndex := 5, descriptorIndex := 6, attributes := #[] }] 48 2 #[] #[{ accessFlags := 24, nameIndex := 38, descriptorIndex := 30, attributes := #[] }, { accessFlags := 8, nameIndex := 29, descriptorIndex := 30, attributes := #[] }, { accessFlags := 4120, nameIndex := 19, descriptorIndex := 20, attributes := #[] }])
  fields := #[{ name := "cache", type := (.array (.object "java/lang/Long")), accessFlags := 24, slot := 0, constantValue := 0 }, { name := "archivedCache", type := (.array (.object "java/lang/Long")), accessFlags := 8, slot := 1, constantValue := 0 }, { name := "$assertionsDisabled", type := .boolean, accessFlags := 4120, slot := 2, constantValue := 0 }]
  methods := #[k13m0]
  instanceTypes := #[]
  staticTypes := #[(.array (.object "java/lang/Long")), (.array (.object "java/lang/Long")), .boolean]
  resolved := Array.replicate 63 none
  statics := some 0 }

def pool14 : Array CpInfo := pool [(1, u "java/lang/Cloneable"), (0, .class_ 1), (0, u "java/lang/Object"), (0, .class_ 3)] 3

/-- java/lang/Cloneable -/
def k14 : Class := { plain "java/lang/Cloneable" (some 0) with
  accessFlags := 1537
  interfaces := #[]
  cf := some (fileOf pool14 2 #[] #[] 1537 4 #[] #[])
  fields := #[]
  methods := #[]
  instanceTypes := #[]
  staticTypes := #[]
  resolved := Array.replicate 8 none
  statics := none }

/-- the primitive byte -/
def k15 : Class := { plain "byte" none with kind := .primitive 'B', accessFlags := 0x411 }
/-- [B -/
def k16 : Class := { plain "[B" (some 0) with kind := .array 15 .byte, interfaces := #[14, 3], accessFlags := 1041 }

/-- the primitive int -/
def k17 : Class := { plain "int" none with kind := .primitive 'I', accessFlags := 0x411 }
/-- [I -/
def k18 : Class := { plain "[I" (some 0) with kind := .array 17 .int, interfaces := #[14, 3], accessFlags := 1041 }

/-- [Ljava/lang/Long; -/
def k19 : Class := { plain "[Ljava/lang/Long;" (some 0) with kind := .array 12 (.object "java/lang/Long"), interfaces := #[14, 3], accessFlags := 1041 }

def heap : Heap := #[{ cls := 13, slots := #[.ref 1, .null, .int 0], vm := .statics 13 },
  { cls := 19, slots := #[.ref 2, .ref 3, .ref 4, .ref 5, .ref 6, .ref 7, .ref 8, .ref 9, .ref 10, .ref 11, .ref 12, .ref 13, .ref 14, .ref 15, .ref 16, .ref 17, .ref 18, .ref 19, .ref 20, .ref 21, .ref 22, .ref 23, .ref 24, .ref 25, .ref 26, .ref 27, .ref 28, .ref 29, .ref 30, .ref 31, .ref 32, .ref 33, .ref 34, .ref 35, .ref 36, .ref 37, .ref 38, .ref 39, .ref 40, .ref 41, .ref 42, .ref 43, .ref 44, .ref 45, .ref 46, .ref 47, .ref 48, .ref 49, .ref 50, .ref 51, .ref 52, .ref 53, .ref 54, .ref 55, .ref 56, .ref 57, .ref 58, .ref 59, .ref 60, .ref 61, .ref 62, .ref 63, .ref 64, .ref 65, .ref 66, .ref 67, .ref 68, .ref 69, .ref 70, .ref 71, .ref 72, .ref 73, .ref 74, .ref 75, .ref 76, .ref 77, .ref 78, .ref 79, .ref 80, .ref 81, .ref 82, .ref 83, .ref 84, .ref 85, .ref 86, .ref 87, .ref 88, .ref 89, .ref 90, .ref 91, .ref 92, .ref 93, .ref 94, .ref 95, .ref 96, .ref 97, .ref 98, .ref 99, .ref 100, .ref 101, .ref 102, .ref 103, .ref 104, .ref 105, .ref 106, .ref 107, .ref 108, .ref 109, .ref 110, .ref 111, .ref 112, .ref 113, .ref 114, .ref 115, .ref 116, .ref 117, .ref 118, .ref 119, .ref 120, .ref 121, .ref 122, .ref 123, .ref 124, .ref 125, .ref 126, .ref 127, .ref 128, .ref 129, .ref 130, .ref 131, .ref 132, .ref 133, .ref 134, .ref 135, .ref 136, .ref 137, .ref 138, .ref 139, .ref 140, .ref 141, .ref 142, .ref 143, .ref 144, .ref 145, .ref 146, .ref 147, .ref 148, .ref 149, .ref 150, .ref 151, .ref 152, .ref 153, .ref 154, .ref 155, .ref 156, .ref 157, .ref 158, .ref 159, .ref 160, .ref 161, .ref 162, .ref 163, .ref 164, .ref 165, .ref 166, .ref 167, .ref 168, .ref 169, .ref 170, .ref 171, .ref 172, .ref 173, .ref 174, .ref 175, .ref 176, .ref 177, .ref 178, .ref 179, .ref 180, .ref 181, .ref 182, .ref 183, .ref 184, .ref 185, .ref 186, .ref 187, .ref 188, .ref 189, .ref 190, .ref 191, .ref 192, .ref 193, .ref 194, .ref 195, .ref 196, .ref 197, .ref 198, .ref 199, .ref 200, .ref 201, .ref 202, .ref 203, .ref 204, .ref 205, .ref 206, .ref 207, .ref 208, .ref 209, .ref 210, .ref 211, .ref 212, .ref 213, .ref 214, .ref 215, .ref 216, .ref 217, .ref 218, .ref 219, .ref 220, .ref 221, .ref 222, .ref 223, .ref 224, .ref 225, .ref 226, .ref 227, .ref 228, .ref 229, .ref 230, .ref 231, .ref 232, .ref 233, .ref 234, .ref 235, .ref 236, .ref 237, .ref 238, .ref 239, .ref 240, .ref 241, .ref 242, .ref 243, .ref 244, .ref 245, .ref 246, .ref 247, .ref 248, .ref 249, .ref 250, .ref 251, .ref 252, .ref 253, .ref 254, .ref 255, .ref 256, .ref 257], vm := .none },
  { cls := 12, slots := #[.long (-128)], vm := .none },
  { cls := 12, slots := #[.long (-127)], vm := .none },
  { cls := 12, slots := #[.long (-126)], vm := .none },
  { cls := 12, slots := #[.long (-125)], vm := .none },
  { cls := 12, slots := #[.long (-124)], vm := .none },
  { cls := 12, slots := #[.long (-123)], vm := .none },
  { cls := 12, slots := #[.long (-122)], vm := .none },
  { cls := 12, slots := #[.long (-121)], vm := .none },
  { cls := 12, slots := #[.long (-120)], vm := .none },
  { cls := 12, slots := #[.long (-119)], vm := .none },
  { cls := 12, slots := #[.long (-118)], vm := .none },
  { cls := 12, slots := #[.long (-117)], vm := .none },
  { cls := 12, slots := #[.long (-116)], vm := .none },
  { cls := 12, slots := #[.long (-115)], vm := .none },
  { cls := 12, slots := #[.long (-114)], vm := .none },
  { cls := 12, slots := #[.long (-113)], vm := .none },
  { cls := 12, slots := #[.long (-112)], vm := .none },
  { cls := 12, slots := #[.long (-111)], vm := .none },
  { cls := 12, slots := #[.long (-110)], vm := .none },
  { cls := 12, slots := #[.long (-109)], vm := .none },
  { cls := 12, slots := #[.long (-108)], vm := .none },
  { cls := 12, slots := #[.long (-107)], vm := .none },
  { cls := 12, slots := #[.long (-106)], vm := .none },
  { cls := 12, slots := #[.long (-105)], vm := .none },
  { cls := 12, slots := #[.long (-104)], vm := .none },
  { cls := 12, slots := #[.long (-103)], vm := .none },
  { cls := 12, slots := #[.long (-102)], vm := .none },
  { cls := 12, slots := #[.long (-101)], vm := .none },
  { cls := 12, slots := #[.long (-100)], vm := .none },
  { cls := 12, slots := #[.long (-99)], vm := .none },
  { cls := 12, slots := #[.long (-98)], vm := .none },
  { cls := 12, slots := #[.long (-97)], vm := .none },
  { cls := 12, slots := #[.long (-96)], vm := .none },
  { cls := 12, slots := #[.long (-95)], vm := .none },
  { cls := 12, slots := #[.long (-94)], vm := .none },
  { cls := 12, slots := #[.long (-93)], vm := .none },
  { cls := 12, slots := #[.long (-92)], vm := .none },
  { cls := 12, slots := #[.long (-91)], vm := .none },
  { cls := 12, slots := #[.long (-90)], vm := .none },
  { cls := 12, slots := #[.long (-89)], vm := .none },
  { cls := 12, slots := #[.long (-88)], vm := .none },
  { cls := 12, slots := #[.long (-87)], vm := .none },
  { cls := 12, slots := #[.long (-86)], vm := .none },
  { cls := 12, slots := #[.long (-85)], vm := .none },
  { cls := 12, slots := #[.long (-84)], vm := .none },
  { cls := 12, slots := #[.long (-83)], vm := .none },
  { cls := 12, slots := #[.long (-82)], vm := .none },
  { cls := 12, slots := #[.long (-81)], vm := .none },
  { cls := 12, slots := #[.long (-80)], vm := .none },
  { cls := 12, slots := #[.long (-79)], vm := .none },
  { cls := 12, slots := #[.long (-78)], vm := .none },
  { cls := 12, slots := #[.long (-77)], vm := .none },
  { cls := 12, slots := #[.long (-76)], vm := .none },
  { cls := 12, slots := #[.long (-75)], vm := .none },
  { cls := 12, slots := #[.long (-74)], vm := .none },
  { cls := 12, slots := #[.long (-73)], vm := .none },
  { cls := 12, slots := #[.long (-72)], vm := .none },
  { cls := 12, slots := #[.long (-71)], vm := .none },
  { cls := 12, slots := #[.long (-70)], vm := .none },
  { cls := 12, slots := #[.long (-69)], vm := .none },
  { cls := 12, slots := #[.long (-68)], vm := .none },
  { cls := 12, slots := #[.long (-67)], vm := .none },
  { cls := 12, slots := #[.long (-66)], vm := .none },
  { cls := 12, slots := #[.long (-65)], vm := .none },
  { cls := 12, slots := #[.long (-64)], vm := .none },
  { cls := 12, slots := #[.long (-63)], vm := .none },
  { cls := 12, slots := #[.long (-62)], vm := .none },
  { cls := 12, slots := #[.long (-61)], vm := .none },
  { cls := 12, slots := #[.long (-60)], vm := .none },
  { cls := 12, slots := #[.long (-59)], vm := .none },
  { cls := 12, slots := #[.long (-58)], vm := .none },
  { cls := 12, slots := #[.long (-57)], vm := .none },
  { cls := 12, slots := #[.long (-56)], vm := .none },
  { cls := 12, slots := #[.long (-55)], vm := .none },
  { cls := 12, slots := #[.long (-54)], vm := .none },
  { cls := 12, slots := #[.long (-53)], vm := .none },
  { cls := 12, slots := #[.long (-52)], vm := .none },
  { cls := 12, slots := #[.long (-51)], vm := .none },
  { cls := 12, slots := #[.long (-50)], vm := .none },
  { cls := 12, slots := #[.long (-49)], vm := .none },
  { cls := 12, slots := #[.long (-48)], vm := .none },
  { cls := 12, slots := #[.long (-47)], vm := .none },
  { cls := 12, slots := #[.long (-46)], vm := .none },
  { cls := 12, slots := #[.long (-45)], vm := .none },
  { cls := 12, slots := #[.long (-44)], vm := .none },
  { cls := 12, slots := #[.long (-43)], vm := .none },
  { cls := 12, slots := #[.long (-42)], vm := .none },
  { cls := 12, slots := #[.long (-41)], vm := .none },
  { cls := 12, slots := #[.long (-40)], vm := .none },
  { cls := 12, slots := #[.long (-39)], vm := .none },
  { cls := 12, slots := #[.long (-38)], vm := .none },
  { cls := 12, slots := #[.long (-37)], vm := .none },
  { cls := 12, slots := #[.long (-36)], vm := .none },
  { cls := 12, slots := #[.long (-35)], vm := .none },
  { cls := 12, slots := #[.long (-34)], vm := .none },
  { cls := 12, slots := #[.long (-33)], vm := .none },
  { cls := 12, slots := #[.long (-32)], vm := .none },
  { cls := 12, slots := #[.long (-31)], vm := .none },
  { cls := 12, slots := #[.long (-30)], vm := .none },
  { cls := 12, slots := #[.long (-29)], vm := .none },
  { cls := 12, slots := #[.long (-28)], vm := .none },
  { cls := 12, slots := #[.long (-27)], vm := .none },
  { cls := 12, slots := #[.long (-26)], vm := .none },
  { cls := 12, slots := #[.long (-25)], vm := .none },
  { cls := 12, slots := #[.long (-24)], vm := .none },
  { cls := 12, slots := #[.long (-23)], vm := .none },
  { cls := 12, slots := #[.long (-22)], vm := .none },
  { cls := 12, slots := #[.long (-21)], vm := .none },
  { cls := 12, slots := #[.long (-20)], vm := .none },
  { cls := 12, slots := #[.long (-19)], vm := .none },
  { cls := 12, slots := #[.long (-18)], vm := .none },
  { cls := 12, slots := #[.long (-17)], vm := .none },
  { cls := 12, slots := #[.long (-16)], vm := .none },
  { cls := 12, slots := #[.long (-15)], vm := .none },
  { cls := 12, slots := #[.long (-14)], vm := .none },
  { cls := 12, slots := #[.long (-13)], vm := .none },
  { cls := 12, slots := #[.long (-12)], vm := .none },
  { cls := 12, slots := #[.long (-11)], vm := .none },
  { cls := 12, slots := #[.long (-10)], vm := .none },
  { cls := 12, slots := #[.long (-9)], vm := .none },
  { cls := 12, slots := #[.long (-8)], vm := .none },
  { cls := 12, slots := #[.long (-7)], vm := .none },
  { cls := 12, slots := #[.long (-6)], vm := .none },
  { cls := 12, slots := #[.long (-5)], vm := .none },
  { cls := 12, slots := #[.long (-4)], vm := .none },
  { cls := 12, slots := #[.long (-3)], vm := .none },
  { cls := 12, slots := #[.long (-2)], vm := .none },
  { cls := 12, slots := #[.long (-1)], vm := .none },
  { cls := 12, slots := #[.long (0)], vm := .none },
  { cls := 12, slots := #[.long (1)], vm := .none },
  { cls := 12, slots := #[.long (2)], vm := .none },
  { cls := 12, slots := #[.long (3)], vm := .none },
  { cls := 12, slots := #[.long (4)], vm := .none },
  { cls := 12, slots := #[.long (5)], vm := .none },
  { cls := 12, slots := #[.long (6)], vm := .none },
  { cls := 12, slots := #[.long (7)], vm := .none },
  { cls := 12, slots := #[.long (8)], vm := .none },
  { cls := 12, slots := #[.long (9)], vm := .none },
  { cls := 12, slots := #[.long (10)], vm := .none },
  { cls := 12, slots := #[.long (11)], vm := .none },
  { cls := 12, slots := #[.long (12)], vm := .none },
  { cls := 12, slots := #[.long (13)], vm := .none },
  { cls := 12, slots := #[.long (14)], vm := .none },
  { cls := 12, slots := #[.long (15)], vm := .none },
  { cls := 12, slots := #[.long (16)], vm := .none },
  { cls := 12, slots := #[.long (17)], vm := .none },
  { cls := 12, slots := #[.long (18)], vm := .none },
  { cls := 12, slots := #[.long (19)], vm := .none },
  { cls := 12, slots := #[.long (20)], vm := .none },
  { cls := 12, slots := #[.long (21)], vm := .none },
  { cls := 12, slots := #[.long (22)], vm := .none },
  { cls := 12, slots := #[.long (23)], vm := .none },
  { cls := 12, slots := #[.long (24)], vm := .none },
  { cls := 12, slots := #[.long (25)], vm := .none },
  { cls := 12, slots := #[.long (26)], vm := .none },
  { cls := 12, slots := #[.long (27)], vm := .none },
  { cls := 12, slots := #[.long (28)], vm := .none },
  { cls := 12, slots := #[.long (29)], vm := .none },
  { cls := 12, slots := #[.long (30)], vm := .none },
  { cls := 12, slots := #[.long (31)], vm := .none },
  { cls := 12, slots := #[.long (32)], vm := .none },
  { cls := 12, slots := #[.long (33)], vm := .none },
  { cls := 12, slots := #[.long (34)], vm := .none },
  { cls := 12, slots := #[.long (35)], vm := .none },
  { cls := 12, slots := #[.long (36)], vm := .none },
  { cls := 12, slots := #[.long (37)], vm := .none },
  { cls := 12, slots := #[.long (38)], vm := .none },
  { cls := 12, slots := #[.long (39)], vm := .none },
  { cls := 12, slots := #[.long (40)], vm := .none },
  { cls := 12, slots := #[.long (41)], vm := .none },
  { cls := 12, slots := #[.long (42)], vm := .none },
  { cls := 12, slots := #[.long (43)], vm := .none },
  { cls := 12, slots := #[.long (44)], vm := .none },
  { cls := 12, slots := #[.long (45)], vm := .none },
  { cls := 12, slots := #[.long (46)], vm := .none },
  { cls := 12, slots := #[.long (47)], vm := .none },
  { cls := 12, slots := #[.long (48)], vm := .none },
  { cls := 12, slots := #[.long (49)], vm := .none },
  { cls := 12, slots := #[.long (50)], vm := .none },
  { cls := 12, slots := #[.long (51)], vm := .none },
  { cls := 12, slots := #[.long (52)], vm := .none },
  { cls := 12, slots := #[.long (53)], vm := .none },
  { cls := 12, slots := #[.long (54)], vm := .none },
  { cls := 12, slots := #[.long (55)], vm := .none },
  { cls := 12, slots := #[.long (56)], vm := .none },
  { cls := 12, slots := #[.long (57)], vm := .none },
  { cls := 12, slots := #[.long (58)], vm := .none },
  { cls := 12, slots := #[.long (59)], vm := .none },
  { cls := 12, slots := #[.long (60)], vm := .none },
  { cls := 12, slots := #[.long (61)], vm := .none },
  { cls := 12, slots := #[.long (62)], vm := .none },
  { cls := 12, slots := #[.long (63)], vm := .none },
  { cls := 12, slots := #[.long (64)], vm := .none },
  { cls := 12, slots := #[.long (65)], vm := .none },
  { cls := 12, slots := #[.long (66)], vm := .none },
  { cls := 12, slots := #[.long (67)], vm := .none },
  { cls := 12, slots := #[.long (68)], vm := .none },
  { cls := 12, slots := #[.long (69)], vm := .none },
  { cls := 12, slots := #[.long (70)], vm := .none },
  { cls := 12, slots := #[.long (71)], vm := .none },
  { cls := 12, slots := #[.long (72)], vm := .none },
  { cls := 12, slots := #[.long (73)], vm := .none },
  { cls := 12, slots := #[.long (74)], vm := .none },
  { cls := 12, slots := #[.long (75)], vm := .none },
  { cls := 12, slots := #[.long (76)], vm := .none },
  { cls := 12, slots := #[.long (77)], vm := .none },
  { cls := 12, slots := #[.long (78)], vm := .none },
  { cls := 12, slots := #[.long (79)], vm := .none },
  { cls := 12, slots := #[.long (80)], vm := .none },
  { cls := 12, slots := #[.long (81)], vm := .none },
  { cls := 12, slots := #[.long (82)], vm := .none },
  { cls := 12, slots := #[.long (83)], vm := .none },
  { cls := 12, slots := #[.long (84)], vm := .none },
  { cls := 12, slots := #[.long (85)], vm := .none },
  { cls := 12, slots := #[.long (86)], vm := .none },
  { cls := 12, slots := #[.long (87)], vm := .none },
  { cls := 12, slots := #[.long (88)], vm := .none },
  { cls := 12, slots := #[.long (89)], vm := .none },
  { cls := 12, slots := #[.long (90)], vm := .none },
  { cls := 12, slots := #[.long (91)], vm := .none },
  { cls := 12, slots := #[.long (92)], vm := .none },
  { cls := 12, slots := #[.long (93)], vm := .none },
  { cls := 12, slots := #[.long (94)], vm := .none },
  { cls := 12, slots := #[.long (95)], vm := .none },
  { cls := 12, slots := #[.long (96)], vm := .none },
  { cls := 12, slots := #[.long (97)], vm := .none },
  { cls := 12, slots := #[.long (98)], vm := .none },
  { cls := 12, slots := #[.long (99)], vm := .none },
  { cls := 12, slots := #[.long (100)], vm := .none },
  { cls := 12, slots := #[.long (101)], vm := .none },
  { cls := 12, slots := #[.long (102)], vm := .none },
  { cls := 12, slots := #[.long (103)], vm := .none },
  { cls := 12, slots := #[.long (104)], vm := .none },
  { cls := 12, slots := #[.long (105)], vm := .none },
  { cls := 12, slots := #[.long (106)], vm := .none },
  { cls := 12, slots := #[.long (107)], vm := .none },
  { cls := 12, slots := #[.long (108)], vm := .none },
  { cls := 12, slots := #[.long (109)], vm := .none },
  { cls := 12, slots := #[.long (110)], vm := .none },
  { cls := 12, slots := #[.long (111)], vm := .none },
  { cls := 12, slots := #[.long (112)], vm := .none },
  { cls := 12, slots := #[.long (113)], vm := .none },
  { cls := 12, slots := #[.long (114)], vm := .none },
  { cls := 12, slots := #[.long (115)], vm := .none },
  { cls := 12, slots := #[.long (116)], vm := .none },
  { cls := 12, slots := #[.long (117)], vm := .none },
  { cls := 12, slots := #[.long (118)], vm := .none },
  { cls := 12, slots := #[.long (119)], vm := .none },
  { cls := 12, slots := #[.long (120)], vm := .none },
  { cls := 12, slots := #[.long (121)], vm := .none },
  { cls := 12, slots := #[.long (122)], vm := .none },
  { cls := 12, slots := #[.long (123)], vm := .none },
  { cls := 12, slots := #[.long (124)], vm := .none },
  { cls := 12, slots := #[.long (125)], vm := .none },
  { cls := 12, slots := #[.long (126)], vm := .none },
  { cls := 12, slots := #[.long (127)], vm := .none }]
def classes : Array Class := #[k0, k1, k2, k3, k4, k5, k6, k7, k8, k9, k10, k11, k12, k13, k14, k15, k16, k17, k18, k19]
def interned : List (Array UInt16 × Addr) := []
def slotsUsed : Nat := 515
def theMethod : MethodId := ⟨1, 1⟩
def args0 : Array Value := #[.long 5, .long 5, .int 3, .long 1, .long 2]
def aboutOver (below : List Frame) : State where
  vm := { classes := classes, interned := interned.toArray }
  heap := heap
  slotsUsed := slotsUsed
  threads := #[{ frames := .invoking theMethod args0 :: below }]
def below0 : List Frame := [.native { method := ⟨0, 0⟩, args := #[] }]
def about1 : State := aboutOver below0
def p0 : Program := .bare "" "" ""
def e0 : Env := launch0.env 0 0 0
theorem w_frames : about1.frames = Frame.invoking theMethod args0 :: below0 := rfl
set_option maxRecDepth 65536 in
theorem w_args : argsFit about1.vm theMethod args0 = true := by decide +kernel
set_option maxRecDepth 65536 in
theorem w_heap : heapFits about1 = true := by decide +kernel
set_option maxRecDepth 65536 in
theorem w_runnable : about1.curStatus? = some .runnable := by decide +kernel
set_option maxRecDepth 65536 in
theorem w_alone : about1.alone = true := by decide +kernel
set_option maxRecDepth 65536 in
theorem w_named : about1.methodNamed? x = some theMethod := by decide +kernel
set_option maxRecDepth 65536 in
theorem w_hears : about1.hears theMethod below0 = true := by decide +kernel
set_option maxRecDepth 65536 in
theorem w_ripe : about1.ripe theMethod args0 below0 = true := by decide +kernel
theorem w_running : about1.status = .running := rfl
set_option maxRecDepth 65536 in
theorem w_room : about1.hasRoom e0.platform room_1 = true :=
  launch0.hasRoom_least _ room_1 (by decide +kernel) (by decide +kernel) (by decide +kernel) (by decide +kernel) (by decide +kernel) (by decide +kernel)
theorem allAtoms_all (ts : List Jvm.Cond) (a : Array Jvm.Value) (st : Jvm.State) : (allAtoms ts).before a st = ts.all (fun c => c.before a st) := by
  induction ts with
  | nil => rfl
  | cons c t ih =>
    show (Jvm.Cond.and c (allAtoms t)).before a st = _
    rw [Jvm.Cond.before_and, ih, List.all_cons]
def words1 : List Jvm.Cond := Jvm.Cond.code x code maxLocals ret :: tables_1
/-- a 'code' word, met by the world's own term for the bytes: nothing is compared byte by byte -/
theorem code_word {y : MethodName} {bytes : ByteArray} {mx : Nat} {rt : Option FieldType} {a : Array Value} {s : State} {m : MethodId} {meth : Method} {c : Code} (h1 : s.methodNamed? y = some m) (h2 : s.vm.method? m = some meth) (h3 : meth.code = some c) (h4 : c.code = bytes)
    (h5 : (c.maxLocals == mx && c.exceptionTable.isEmpty && decide (c.maxStack ≤ mostOperands) && decide (meth.sig.returnType = rt) && !meth.locks && decide (parseMethodDescriptor y.desc = some meth.sig)) = true) : (Jvm.Cond.code y bytes mx rt).before a s = true := by
  simp only [Bool.and_eq_true, beq_iff_eq, Bool.not_eq_true', decide_eq_true_eq] at h5
  obtain ⟨⟨⟨⟨⟨g1, g2⟩, g3⟩, g4⟩, g5⟩, g6⟩ := h5
  simp [Cond.before, Cond.holds, Cond.value, h1, h2, h3, h4, g1, g2, g3, g4, g5, g6]
def isCode : Jvm.Cond → Bool
  | .code _ _ _ _ => true
  | _ => false
theorem all_split {L : List Jvm.Cond} {P : Jvm.Cond → Bool} (h1 : L.all (fun c => isCode c || P c) = true) (h2 : ∀ c ∈ L.filter isCode, P c = true) : L.all P = true := by
  refine List.all_eq_true.mpr fun c hc => ?_
  have h := List.all_eq_true.mp h1 c hc
  rcases Bool.eq_false_or_eq_true (isCode c) with hi | hi
  · exact h2 c (List.mem_filter.mpr ⟨hc, hi⟩)
  · simpa [hi] using h
set_option maxRecDepth 65536 in
theorem w_c0 : (Jvm.Cond.code x code maxLocals ret).before args0 about1 = true := code_word (m := ⟨1, 1⟩) (meth := k1m1) (c := k1c1) (by decide +kernel) rfl rfl rfl (by decide +kernel)
set_option maxRecDepth 65536 in
theorem w_c1 : (Jvm.Cond.code ({ cls := "com/example/update_by_version/updatebyversion/Marker$Version", name := "<init>", desc := "(JLcom/example/update_by_version/updatebyversion/Marker$Range;)V" } : Jvm.MethodName) prog_30_method_1_code (4 : Nat) (Option.none : Option Jvm.ClassFile.FieldType)).before args0 about1 = true := code_word (m := ⟨5, 0⟩) (meth := k5m0) (c := k5c0) (by decide +kernel) rfl rfl rfl (by decide +kernel)
set_option maxRecDepth 65536 in
theorem w_c2 : (Jvm.Cond.code ({ cls := "java/lang/Record", name := "<init>", desc := "()V" } : Jvm.MethodName) jdk_30_method_1_code (1 : Nat) (Option.none : Option Jvm.ClassFile.FieldType)).before args0 about1 = true := code_word (m := ⟨2, 0⟩) (meth := k2m0) (c := k2c0) (by decide +kernel) rfl rfl rfl (by decide +kernel)
set_option maxRecDepth 65536 in
theorem w_c3 : (Jvm.Cond.code ({ cls := "java/lang/Object", name := "<init>", desc := "()V" } : Jvm.MethodName) object_method_1_code (1 : Nat) (Option.none : Option Jvm.ClassFile.FieldType)).before args0 about1 = true := code_word (m := ⟨0, 0⟩) (meth := k0m0) (c := k0c0) (by decide +kernel) rfl rfl rfl (by decide +kernel)
set_option maxRecDepth 65536 in
theorem w_c4 : (Jvm.Cond.code ({ cls := "com/example/update_by_version/updatebyversion/Marker$Version", name := "equals", desc := "(Ljava/lang/Object;)Z" } : Jvm.MethodName) prog_30_method_6_code (3 : Nat) (Option.some Jvm.ClassFile.FieldType.boolean)).before args0 about1 = true := code_word (m := ⟨5, 1⟩) (meth := k5m1) (c := k5c1) (by decide +kernel) rfl rfl rfl (by decide +kernel)
set_option maxRecDepth 65536 in
theorem w_c5 : (Jvm.Cond.code ({ cls := "com/example/update_by_version/updatebyversion/Marker$Range", name := "<init>", desc := "(JJ)V" } : Jvm.MethodName) prog_25_method_1_code (5 : Nat) (Option.none : Option Jvm.ClassFile.FieldType)).before args0 about1 = true := code_word (m := ⟨6, 0⟩) (meth := k6m0) (c := k6c0) (by decide +kernel) rfl rfl rfl (by decide +kernel)
set_option maxRecDepth 65536 in
theorem w_c6 : (Jvm.Cond.code ({ cls := "com/example/update_by_version/updatebyversion/Marker$Timestamp", name := "<init>", desc := "(Ljava/time/LocalDateTime;)V" } : Jvm.MethodName) prog_28_method_1_code (2 : Nat) (Option.none : Option Jvm.ClassFile.FieldType)).before args0 about1 = true := code_word (m := ⟨7, 0⟩) (meth := k7m0) (c := k7c0) (by decide +kernel) rfl rfl rfl (by decide +kernel)
set_option maxRecDepth 65536 in
theorem w_c7 : (Jvm.Cond.code ({ cls := "java/lang/Long", name := "valueOf", desc := "(J)Ljava/lang/Long;" } : Jvm.MethodName) jdk_35_method_24_code (3 : Nat) (Option.some (Jvm.ClassFile.FieldType.object "java/lang/Long"))).before args0 about1 = true := code_word (m := ⟨12, 0⟩) (meth := k12m0) (c := k12c0) (by decide +kernel) rfl rfl rfl (by decide +kernel)
set_option maxRecDepth 65536 in
theorem w_c8 : (Jvm.Cond.code ({ cls := "java/lang/Long", name := "<init>", desc := "(J)V" } : Jvm.MethodName) jdk_35_method_26_code (3 : Nat) (Option.none : Option Jvm.ClassFile.FieldType)).before args0 about1 = true := code_word (m := ⟨12, 1⟩) (meth := k12m1) (c := k12c1) (by decide +kernel) rfl rfl rfl (by decide +kernel)
set_option maxRecDepth 65536 in
theorem w_c9 : (Jvm.Cond.code ({ cls := "java/lang/Number", name := "<init>", desc := "()V" } : Jvm.MethodName) jdk_18_method_1_code (1 : Nat) (Option.none : Option Jvm.ClassFile.FieldType)).before args0 about1 = true := code_word (m := ⟨8, 0⟩) (meth := k8m0) (c := k8c0) (by decide +kernel) rfl rfl rfl (by decide +kernel)
def codes1 : List Jvm.Cond := [Jvm.Cond.code x code maxLocals ret, Jvm.Cond.code ({ cls := "com/example/update_by_version/updatebyversion/Marker$Version", name := "<init>", desc := "(JLcom/example/update_by_version/updatebyversion/Marker$Range;)V" } : Jvm.MethodName) prog_30_method_1_code (4 : Nat) (Option.none : Option Jvm.ClassFile.FieldType), Jvm.Cond.code ({ cls := "java/lang/Record", name := "<init>", desc := "()V" } : Jvm.MethodName) jdk_30_method_1_code (1 : Nat) (Option.none : Option Jvm.ClassFile.FieldType), Jvm.Cond.code ({ cls := "java/lang/Object", name := "<init>", desc := "()V" } : Jvm.MethodName) object_method_1_code (1 : Nat) (Option.none : Option Jvm.ClassFile.FieldType), Jvm.Cond.code ({ cls := "com/example/update_by_version/updatebyversion/Marker$Version", name := "equals", desc := "(Ljava/lang/Object;)Z" } : Jvm.MethodName) prog_30_method_6_code (3 : Nat) (Option.some Jvm.ClassFile.FieldType.boolean), Jvm.Cond.code ({ cls := "com/example/update_by_version/updatebyversion/Marker$Range", name := "<init>", desc := "(JJ)V" } : Jvm.MethodName) prog_25_method_1_code (5 : Nat) (Option.none : Option Jvm.ClassFile.FieldType), Jvm.Cond.code ({ cls := "com/example/update_by_version/updatebyversion/Marker$Timestamp", name := "<init>", desc := "(Ljava/time/LocalDateTime;)V" } : Jvm.MethodName) prog_28_method_1_code (2 : Nat) (Option.none : Option Jvm.ClassFile.FieldType), Jvm.Cond.code ({ cls := "java/lang/Long", name := "valueOf", desc := "(J)Ljava/lang/Long;" } : Jvm.MethodName) jdk_35_method_24_code (3 : Nat) (Option.some (Jvm.ClassFile.FieldType.object "java/lang/Long")), Jvm.Cond.code ({ cls := "java/lang/Long", name := "<init>", desc := "(J)V" } : Jvm.MethodName) jdk_35_method_26_code (3 : Nat) (Option.none : Option Jvm.ClassFile.FieldType), Jvm.Cond.code ({ cls := "java/lang/Number", name := "<init>", desc := "()V" } : Jvm.MethodName) jdk_18_method_1_code (1 : Nat) (Option.none : Option Jvm.ClassFile.FieldType)]
set_option maxRecDepth 65536 in
theorem codes_eq : words1.filter isCode = codes1 := rfl
theorem w_codes : ∀ c ∈ words1.filter isCode, c.before args0 about1 = true := by
  rw [codes_eq]
  intro c hc
  simp only [codes1, List.mem_cons, List.not_mem_nil, or_false] at hc
  rcases hc with rfl | rfl | rfl | rfl | rfl | rfl | rfl | rfl | rfl | rfl
  · exact w_c0
  · exact w_c1
  · exact w_c2
  · exact w_c3
  · exact w_c4
  · exact w_c5
  · exact w_c6
  · exact w_c7
  · exact w_c8
  · exact w_c9
set_option maxRecDepth 65536 in
theorem w_t1 : (words1.take 24).all (fun c => isCode c || c.before args0 about1) = true := by decide +kernel
set_option maxRecDepth 65536 in
theorem w_t2 : ((words1.drop 24).take 24).all (fun c => isCode c || c.before args0 about1) = true := by decide +kernel
set_option maxRecDepth 65536 in
theorem w_t3 : (((words1.drop 24).drop 24).take 24).all (fun c => isCode c || c.before args0 about1) = true := by decide +kernel
set_option maxRecDepth 65536 in
theorem w_t4 : (((words1.drop 24).drop 24).drop 24).all (fun c => isCode c || c.before args0 about1) = true := by decide +kernel
theorem w_tables : (allAtoms (Jvm.Cond.code x code maxLocals ret :: tables_1)).before args0 about1 = true := by
  rw [allAtoms_all]
  show words1.all (fun c => c.before args0 about1) = true
  refine all_split ?_ w_codes
  rw [← List.take_append_drop 24 words1, List.all_append, w_t1, ← List.take_append_drop 24 (words1.drop 24), List.all_append, w_t2, ← List.take_append_drop 24 ((words1.drop 24).drop 24), List.all_append, w_t3, w_t4]
  rfl
set_option maxRecDepth 65536 in
theorem w_rest : rest_1_c.before args0 about1 = true := by decide +kernel
set_option maxRecDepth 65536 in
theorem w_case : (Jvm.Cond.and given_1 narrow_1).before args0 about1 = true := by decide +kernel
theorem w_applies : (headSpec (Jvm.Cond.code x code maxLocals ret :: tables_1) room_1).applies x e0.platform about1 = true :=
  (Spec.applies_iff w_frames).mpr ⟨w_running, w_runnable, w_alone, w_named, w_hears, w_ripe, w_room, w_tables⟩
theorem atStart : AtStart classFile x code maxLocals ret World_1 tables_1 room_1 Calls_1 rest_1 Pre_1 launch0 p0 e0 about1 theMethod args0 below0 :=
  ⟨lists_1, trivial, launch0.admits_env _ _ _, launch0.least_env, fairChoices_fair.cas, fairChoices_fair.clock, w_frames, w_args, w_heap, w_applies, trivial, w_rest, w_case⟩
end start1
theorem witness_1 : WitnessClaimed_1 := ⟨start1.p0, start1.e0, start1.about1, start1.theMethod, start1.args0, start1.below0, start1.atStart⟩
end Jvm.Pilot.@@N@@
