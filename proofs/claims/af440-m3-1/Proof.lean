import JvmDerived
import JvmDerived.Pilot.@@N@@Statement
import JvmDerived.Pilot.@@N@@Code
set_option linter.unusedVariables false
set_option linter.unusedSimpArgs false
namespace Jvm.OwnK
open Sem ClassFile Op Lib Jvm.Stand Jvm.Free Jvm.LawKit Jvm.RoadKit
/-- the run from S ends, and well -/
def EndsK (p : Program) (e : Env) (below : List Frame) (QQ : Outcome → State → Prop) (S : State) : Prop :=
  ∃ s₂ o, Steps p.tables e below S s₂ ∧ s₂.status = .running ∧ Ended s₂ below o ∧ QQ o s₂
/-- what a body's contract says of its end -/
abbrev OQ (s : State) (Q : Option Value → Heap → List Loc → Prop) (ck cs : Nat) : Outcome → State → Prop :=
  fun o U' => ∃ v L, o = .returned v ∧ Q v U'.heap L ∧ FrameEnd s o U' L ck cs
section EndsK
variable {p : Program} {e : Env} {below : List Frame} {QQ : Outcome → State → Prop} {S S' T : State}
theorem EndsK.go (h : ∀ t, Steps p.tables e below S' t → Steps p.tables e below S t) (k : EndsK p e below QQ S') : EndsK p e below QQ S := by
  obtain ⟨s₂, o, h1, h2⟩ := k
  exact ⟨s₂, o, h _ h1, h2⟩
theorem EndsK.tr (h : Steps p.tables e below S S') (k : EndsK p e below QQ S') : EndsK p e below QQ S := by
  obtain ⟨s₂, o, h1, h2⟩ := k
  exact ⟨s₂, o, h.trans h1, h2⟩
theorem EndsK.start {g g' : JFrame} (q : g = g') (k : EndsK p e below QQ (T.setTop g')) : EndsK p e below QQ (T.setTop g) := q ▸ k
end EndsK
section Leave
variable {p : Program} {l : Launch} {e : Env} {R : Room} {s : State} {m : MethodId} {args : Array Value} {below : List Frame} {meth : Method} {c : Code} {T : State} {locs : List Loc} {cells slots : Nat} {Q : Option Value → Heap → List Loc → Prop} {ck cs pc : Nat} {Ls : Array Slot} {rest : List Value}
theorem endI (X : Stand p l e R s m args below meth c T locs cells slots) (hx : p.tables.exec = Jvm.exec) {z : Int32} (hret : meth.sig.returnType = some .int) (hd : decode c.code pc = .ok (.ireturn, 1)) (hlk : meth.locks = false)
    (hq : Q (some (.int z)) T.heap locs) (hc : cells ≤ ck) (hs : slots ≤ cs) : EndsK p e below (OQ s Q ck cs) (T.setTop (mkF m pc Ls (.int z :: rest))) := by
  obtain ⟨fs, hr, hrun, hended, hW, hsame⟩ := X.leave (v := some (.int z)) (fun h => by rw [hret] at h; cases h) hlk
  refine ⟨_, _, retOut X hx hret rfl (Or.inl ⟨rfl, Or.inl rfl, _, rfl⟩) hd hr, hrun, hended, _, _, rfl, hq, ⟨_, rfl⟩, hW, hsame.mono hc hs⟩
theorem endN (X : Stand p l e R s m args below meth c T locs cells slots) (hx : p.tables.exec = Jvm.exec) {z : Int32} {t : FieldType} (hret : meth.sig.returnType = some t) (ht : t = .boolean ∨ t = .byte ∨ t = .char ∨ t = .short) (hd : decode c.code pc = .ok (.ireturn, 1)) (hlk : meth.locks = false)
    (hq : Q (some (.int (nar t z))) T.heap locs) (hc : cells ≤ ck) (hs : slots ≤ cs) : EndsK p e below (OQ s Q ck cs) (T.setTop (mkF m pc Ls (.int z :: rest))) := by
  obtain ⟨fs, hr, hrun, hended, hW, hsame⟩ := X.leave (v := some (.int (nar t z))) (fun h => by rw [hret] at h; cases h) hlk
  exact ⟨_, _, retN X hx hret ht hd hr, hrun, hended, _, _, rfl, hq, ⟨_, rfl⟩, hW, hsame.mono hc hs⟩
theorem endJ (X : Stand p l e R s m args below meth c T locs cells slots) (hx : p.tables.exec = Jvm.exec) {z : Int64} (hret : meth.sig.returnType = some .long) (hd : decode c.code pc = .ok (.lreturn, 1)) (hlk : meth.locks = false)
    (hq : Q (some (.long z)) T.heap locs) (hc : cells ≤ ck) (hs : slots ≤ cs) : EndsK p e below (OQ s Q ck cs) (T.setTop (mkF m pc Ls (.long z :: rest))) := by
  obtain ⟨fs, hr, hrun, hended, hW, hsame⟩ := X.leave (v := some (.long z)) (fun h => by rw [hret] at h; cases h) hlk
  exact ⟨_, _, retOut X hx hret rfl (Or.inr (Or.inl ⟨rfl, rfl, _, rfl⟩)) hd hr, hrun, hended, _, _, rfl, hq, ⟨_, rfl⟩, hW, hsame.mono hc hs⟩
theorem endR (X : Stand p l e R s m args below meth c T locs cells slots) (hx : p.tables.exec = Jvm.exec) {w : Value} {t : FieldType} (hret : meth.sig.returnType = some t) (ht : t.isReference = true) (hw : w.isRef = true) (hd : decode c.code pc = .ok (.areturn, 1)) (hlk : meth.locks = false)
    (hq : Q (some w) T.heap locs) (hc : cells ≤ ck) (hs : slots ≤ cs) : EndsK p e below (OQ s Q ck cs) (T.setTop (mkF m pc Ls (w :: rest))) := by
  obtain ⟨fs, hr, hrun, hended, hW, hsame⟩ := X.leave (v := some w) (fun h => by rw [hret] at h; cases h) hlk
  have hn : narrow t w = w := by cases t <;> first | (cases ht; done) | (cases w <;> first | rfl | (cases hw; done))
  exact ⟨_, _, retOut X hx hret hn (Or.inr (Or.inr (Or.inr (Or.inr ⟨rfl, ht, hw⟩)))) hd hr, hrun, hended, _, _, rfl, hq, ⟨_, rfl⟩, hW, hsame.mono hc hs⟩
theorem endV (X : Stand p l e R s m args below meth c T locs cells slots) (hx : p.tables.exec = Jvm.exec) (hret : meth.sig.returnType = none) (hd : decode c.code pc = .ok (.return_, 1)) (hlk : meth.locks = false)
    (hq : Q none T.heap locs) (hc : cells ≤ ck) (hs : slots ≤ cs) : EndsK p e below (OQ s Q ck cs) (T.setTop (mkF m pc Ls [])) := by
  obtain ⟨fs, hr, hrun, hended, hW, hsame⟩ := X.leave (v := none) (fun _ => rfl) hlk
  exact ⟨_, _, X.returnOut hx hret hd hr, hrun, hended, _, _, rfl, hq, ⟨_, rfl⟩, hW, hsame.mono hc hs⟩
end Leave
section Heaps
variable {h0 h h' : Heap} {a : Addr} {sl : Nat} {v : Value}
theorem ext_refl (h : Heap) : Ext h h := ⟨Nat.le_refl _, fun _ _ q => q⟩
theorem ext_trans (E : Ext h0 h) (E' : Ext h h') : Ext h0 h' := ⟨Nat.le_trans E.1 E'.1, fun x c q => E'.2 x c (E.2 x c q)⟩
theorem ext_wr (E : Ext h0 h) (W : Wr h h' a sl v) (q : h0.size ≤ a) : Ext h0 h' := by
  refine ⟨Nat.le_trans E.1 (Nat.le_of_eq W.size.symm), fun x c r => ?_⟩
  obtain ⟨c', e1, -, -, -, e5, -⟩ := wr_at W (E.2 x c r)
  rw [e1, e5 (fun z => by
    subst z
    exact absurd (Array.getElem?_eq_some_iff.mp r).1 (Nat.not_lt.mpr q))]
theorem ext_kept {ws : List Addr} (E : Ext h0 h) (K : Keep h h' ws) (q : ∀ x ∈ ws, h0.size ≤ x) : Ext h0 h' :=
  ⟨Nat.le_trans E.1 K.1, fun x c r => K.2.1 x c (E.2 x c r) fun z => absurd (Array.getElem?_eq_some_iff.mp r).1 (Nat.not_lt.mpr (q x z))⟩
end Heaps
section Nums
theorem own_iadd (x y : Int32) (h1 : -2147483648 ≤ x.toInt + y.toInt) (h2 : x.toInt + y.toInt ≤ 2147483647) : (x + y).toInt = x.toInt + y.toInt := by
  have a := c_iadd x y
  have b := rng32 (x + y)
  omega
theorem own_isub (x y : Int32) (h1 : -2147483648 ≤ x.toInt - y.toInt) (h2 : x.toInt - y.toInt ≤ 2147483647) : (x - y).toInt = x.toInt - y.toInt := by
  have a := c_isub x y
  have b := rng32 (x - y)
  omega
theorem own_ladd (x y : Int64) (h1 : -9223372036854775808 ≤ x.toInt + y.toInt) (h2 : x.toInt + y.toInt ≤ 9223372036854775807) : (x + y).toInt = x.toInt + y.toInt := by
  have a := c_ladd x y
  have b := rng64 (x + y)
  omega
theorem own_lsub (x y : Int64) (h1 : -9223372036854775808 ≤ x.toInt - y.toInt) (h2 : x.toInt - y.toInt ≤ 9223372036854775807) : (x - y).toInt = x.toInt - y.toInt := by
  have a := c_lsub x y
  have b := rng64 (x - y)
  omega
theorem own_l2i (x : Int64) (h1 : -2147483648 ≤ x.toInt) (h2 : x.toInt ≤ 2147483647) : x.toInt32.toInt = x.toInt := by
  have a := c_l2i x
  have b := rng32 x.toInt32
  omega
theorem own_wide (x y : Int32) (d : Int) (hy : y.toInt = d) : (x.toInt64 * y.toInt64).toInt = x.toInt * d := by rw [← hy]; exact XT.wideMul x y
end Nums
section Words
variable {Z : State} {args : Array Value} {t u : Term} {a b : Addr} {C n d O : String} {v : Value}
theorem fldI {k : Int32} (ev : t.eval args Z none [] Z = some (.ref a)) (h : (Cond.eq (.field t O n d) (.int k)).value args Z none Z [] = some true) : Fld Z Z.heap a O n d (.int k) := by
  obtain ⟨x, y, e1, e2, -, k2⟩ := cmp_v (Or.inl h)
  cases e2
  obtain ⟨z, rfl⟩ := k2
  have e3 := (fld_at (C := O) (n := n) (dd := d) ev).symm.trans e1
  have q := gotT (Cond.eq_ints e1 rfl) h
  subst q
  exact Fld.start e3
theorem fldR (ev : t.eval args Z none [] Z = some (.ref a)) (eu : u.eval args Z none [] Z = some (.ref b)) (h : (Cond.eq (.field t O n d) u).value args Z none Z [] = some true) : Fld Z Z.heap a O n d (.ref b) := by
  obtain ⟨x, y, e1, e2, -, k2⟩ := cmp_v (Or.inl h)
  cases eu.symm.trans e2
  have e3 := (fld_at (C := O) (n := n) (dd := d) ev).symm.trans e1
  have q := gotT (eq_R e1 eu k2.2 rfl) h
  subst q
  exact Fld.start e3
theorem fldN (ev : t.eval args Z none [] Z = some (.ref a)) (h : (Cond.eq (.field t O n d) .null).value args Z none Z [] = some true) : Fld Z Z.heap a O n d .null :=
  Fld.start ((fld_at (C := O) (n := n) (dd := d) ev).symm.trans (null_v h))
/-- an int[] of the start: its length and what it holds, as the case says -/
theorem arrLen {k : Int32} {cl : Cell} {ty : FieldType} (ev : t.eval args Z none [] Z = some (.ref a)) (A : Arr Z Z.heap a cl ty) (h : (Cond.eq (.length t) (.int k)).value args Z none Z [] = some true) : cl.slots.size < 2 ^ 31 ∧ cl.slots.size.toInt32 = k := by
  obtain ⟨x, y, e1, e2, -, k2⟩ := cmp_v (Or.inl h)
  cases e2
  obtain ⟨z, rfl⟩ := k2
  have q := gotT (Cond.eq_ints e1 rfl) h
  subst q
  have ha := A.fin (Vm.Alike.refl _)
  simp only [Term.eval, ev, ha, Option.bind_eq_bind, Option.bind_some] at e1
  split at e1
  · rename_i hlt; exact ⟨hlt, by simpa using e1⟩
  · cases e1
theorem arrAt {j k : Int32} {cl : Cell} {ty : FieldType} (ev : t.eval args Z none [] Z = some (.ref a)) (A : Arr Z Z.heap a cl ty) (h : (Cond.eq (.elem t (.int j)) (.int k)).value args Z none Z [] = some true) : ¬ (j < 0 ∨ cl.slots.size ≤ j.toNatClampNeg) ∧ cl.slots[j.toNatClampNeg]? = some (.int k) := by
  obtain ⟨x, y, e1, e2, -, k2⟩ := cmp_v (Or.inl h)
  cases e2
  obtain ⟨z, rfl⟩ := k2
  have q := gotT (Cond.eq_ints e1 rfl) h
  subst q
  exact elem_in e1 ev rfl A.1
end Words
end Jvm.OwnK
namespace Jvm.OwnK
open Sem ClassFile Op Lib Jvm.Stand Jvm.Free Jvm.LawKit Jvm.RoadKit
/-- what a body's contract says of its end, where it may have interned -/
abbrev OW (s : State) (Q : Option Value → Heap → List Loc → Prop) (ck cs : Nat) : Outcome → State → Prop :=
  fun o U' => ∃ v L, o = .returned v ∧ Q v U'.heap L ∧ ReturnedEndW s o U' L ck cs
theorem since0 (s : State) : s.Since s.vm 0 := ⟨State.Warmed39.refl s, fun j p h1 h2 => by
  have := (Array.getElem?_eq_some_iff.mp h2).1
  omega⟩
section WideK
variable {p : Program} {l : Launch} {e : Env} {R : Room} {s : State} {m : MethodId} {args : Array Value} {below : List Frame} {meth : Method} {c : Code} {T : State} {locs : List Loc} {cells slots : Nat} {Q : Option Value → Heap → List Loc → Prop} {ck cs pc : Nat} {Ls : Array Slot} {rest : List Value} {vm1 : Vm} {n : Nat} {S : State}
theorem EndsK.wide (k : EndsK p e below (OQ s Q ck cs) S) : EndsK p e below (OW s Q ck cs) S := by
  obtain ⟨s2, o, h1, h2, h3, v, L, rfl, hq, hF⟩ := k
  exact ⟨_, _, h1, h2, h3, v, L, rfl, hq, ReturnedEndW.of_narrow hF.1 hF.2.1 hF.2.2⟩
theorem endVW (X : Stand p l e R (s.setVm vm1) m args below meth c T locs cells slots) (hS : s.Since vm1 n) (hn : n ≤ T.heap.size) (hx : p.tables.exec = Jvm.exec) (hret : meth.sig.returnType = none) (hd : decode c.code pc = .ok (.return_, 1)) (hlk : meth.locks = false)
    (hq : Q none T.heap locs) (hc : cells ≤ ck) (hs : slots ≤ cs) : EndsK p e below (OW s Q ck cs) (T.setTop (mkF m pc Ls [])) := by
  obtain ⟨fs, hr, hrun, hended, hR⟩ := X.leaveW hS hn (v := none) (fun _ => rfl) hlk
  exact ⟨_, _, X.returnOut hx hret hd hr, hrun, hended, _, _, rfl, hq, hR.1, hR.2.1, hR.2.2.1, hR.2.2.2.mono hc hs⟩
theorem endNW (X : Stand p l e R (s.setVm vm1) m args below meth c T locs cells slots) (hS : s.Since vm1 n) (hn : n ≤ T.heap.size) (hx : p.tables.exec = Jvm.exec) {z : Int32} {t : FieldType} (hret : meth.sig.returnType = some t) (ht : t = .boolean ∨ t = .byte ∨ t = .char ∨ t = .short) (hd : decode c.code pc = .ok (.ireturn, 1)) (hlk : meth.locks = false)
    (hq : Q (some (.int (nar t z))) T.heap locs) (hc : cells ≤ ck) (hs : slots ≤ cs) : EndsK p e below (OW s Q ck cs) (T.setTop (mkF m pc Ls (.int z :: rest))) := by
  obtain ⟨fs, hr, hrun, hended, hR⟩ := X.leaveW hS hn (v := some (.int (nar t z))) (fun h => by rw [hret] at h; cases h) hlk
  exact ⟨_, _, retN X hx hret ht hd hr, hrun, hended, _, _, rfl, hq, hR.1, hR.2.1, hR.2.2.1, hR.2.2.2.mono hc hs⟩
theorem backOfK {Z : State} {a0 : Array Value} {EL : List (String × Nat)} {h : Heap} {y : MethodName} {bytes : ByteArray} {maxL : Nat} {ret : Option FieldType} {rm : Room} {len W : Nat} {as' : Array Value} {x : Addr}
    (hM : MetFree l y (head1 [Cond.code y bytes maxL ret] rm) (fun a U => a = as' ∧ Z.Warmed39 U.vm ∧ U.heap = h ∧ CHv Z EL U.vm h ∧ Safe Z EL U.vm h x) (fun _ _ _ _ _ => True) (fun _ U o U' => ∃ v L, o = .returned v ∧ Q v U'.heap L ∧ ReturnedEndW U o U' L rm.cells rm.slots))
    (hZ : Z.Warmed39 s.vm) (wc : (Cond.code y bytes maxL ret).before a0 Z = true) (wz : (Cond.initialized y.cls).before a0 Z = true) (hf : rm.frames + 1 ≤ R.frames) (hl : W + (maxL + 11) + rm.locals ≤ R.locals) (hEL : EW Z a0 EL) (H : CHv Z EL s.vm h) (hxs : x < h.size) (hS : Safe Z EL s.vm h x) :
    BackS l R p e below s args y len W (fun A a => a = as' ∧ A.U.heap = h ∧ A.cells + rm.cells ≤ R.cells ∧ A.slots + rm.slots ≤ R.slots)
      (fun A _ v B => ∃ L, Q v B.U.heap L ∧ B.locs = A.locs ++ L ∧ B.cells = A.cells + rm.cells ∧ B.slots = A.slots + rm.slots) :=
  BackS.of_freeW (bytes := bytes) (maxL := maxL) (ret := ret) (E := fun _ _ o t L k n => k = rm.cells ∧ n = rm.slots ∧ ∃ v, o = .returned v ∧ Q v t.heap L) hM hf hl
    (fun m meth c A a Y hp => have hU : Z.Warmed39 A.U.vm := wtrans hZ Y.warmed
      ⟨by show (Cond.and _ .tt).before a A.U = true; rw [Cond.before_and, mv hU wc]; rfl, mv hU wc, mv hU wz, hp.2.2.1, hp.2.2.2⟩)
    (fun m meth c A a g mk Y hp => have C := CHv.at (s := s) (vm0 := s.vm) Y hZ hEL H
      ⟨hp.1, wtrans hZ Y.warmed, hp.2.1, C.1, C.safe hxs hS⟩) (fun _ _ _ _ _ _ _ _ _ => trivial)
    (fun _ _ _ _ ⟨v, L, h1, h2, h3⟩ => ⟨L, _, _, h3, rfl, rfl, v, h1, h2⟩)
    (fun m meth c A a g mk v t L k n Y hp _ _ ⟨e1, e2, v', e3, e4⟩ => by cases e3; subst e1 e2; exact ⟨L, e4, rfl, rfl, rfl⟩)
end WideK
end Jvm.OwnK
namespace Jvm.OwnK
open Sem ClassFile Op Lib Jvm.Stand Jvm.Free Jvm.LawKit Jvm.RoadKit
/-- a byte[] of N bytes, by a function -/
def Byt (Z : State) (h : Heap) (t : Addr) (N : Nat) (f : Nat → Int32) : Prop := ∃ c : Cell, Arr Z h t c .byte ∧ c.slots.size = N ∧ N < 2 ^ 31 ∧ ∀ j, j < N → c.slots[j]? = some (.int (f j)) ∧ fits .byte (.int (f j)) = true
variable {p : Program} {l : Launch} {e : Env} {R : Room} {s : State} {m : MethodId} {args : Array Value} {below : List Frame} {meth : Method} {c : Code} {T : State} {locs : List Loc} {cells slots : Nat} {Z : State} {a0 : Array Value} {h h' : Heap}
theorem Byt.ext {t : Addr} {N : Nat} {f : Nat → Int32} (B : Byt Z h t N f) (E : Ext h h') : Byt Z h' t N f := by obtain ⟨c, A, r⟩ := B; exact ⟨c, A.ext E, r⟩
theorem Byt.lt {t : Addr} {N : Nat} {f : Nat → Int32} (B : Byt Z h t N f) : t < h.size := by obtain ⟨c, A, r⟩ := B; exact A.lt
theorem copyB (X : Stand p l e R s m args below meth c T locs cells slots) (hx : p.tables.exec = Jvm.exec) (hZ : Z.Warmed39 s.vm) {own : String} {index : Nat} (hown : s.vm.findClass own = some m.cls)
    (w : (Cond.methodLink own index acN).before a0 Z = true) (wn : (Cond.native acN).before a0 Z = true) (ws : (Cond.static acN).before a0 Z = true) (wi : (Cond.initialized "java/lang/System").before a0 Z = true)
    (eT : T.heap = h) {src dst : Addr} {N M q n : Nat} {f f' : Nat → Int32} (A : Byt Z h src N f) (B : Byt Z h dst M f') (h1 : n ≤ N) (h2 : q + n ≤ M)
    {g : JFrame} (hg : g.method = m) (hsize : g.locals.size = c.maxLocals) {rest : List Value} (hs : g.stack = .int (Int32.ofNat n) :: .int (Int32.ofNat q) :: .ref dst :: .int 0 :: .ref src :: rest) (hd : decode c.code g.pc = .ok (.invokestatic index, 3))
    (hf : 1 ≤ R.frames) (hl : 2 * g.monitorRoom + (rest.map fun v => v.category).sum + (nativeFrameWords "java/lang/System" "arraycopy" 5 + 11) ≤ R.locals) :
    ∃ T' h', Stand p l e R s m args below meth c T' (locs ++ copyLocs dst q n) cells slots ∧ T'.heap = h' ∧ Keep h h' [dst] ∧ Byt Z h' dst M (fun j => if q ≤ j ∧ j < q + n then f (j - q) else f' j) ∧
      ∀ target, Steps p.tables e below (T'.setTop { g with pc := g.pc + 3, stack := rest }) target → Steps p.tables e below (T.setTop g) target := by
  obtain ⟨cs, As, zs, ls, Hs⟩ := A
  obtain ⟨cd, Ad, zd, ld, Hd⟩ := B
  obtain ⟨s1, ks, s2, sc, s3⟩ := State.isArrayOf_alike hZ.alike As.2.1
  obtain ⟨d1, kd, d2, dc, d3⟩ := State.isArrayOf_alike hZ.alike Ad.2.1
  have en : (Int32.ofNat n).toInt = n := Int32.toInt_ofNat_small (by omega)
  have eq : (Int32.ofNat q).toInt = q := Int32.toInt_ofNat_small (by omega)
  have en' : (Int32.ofNat n).toNatClampNeg = n := by show (Int32.ofNat n).toInt.toNat = n; rw [en]; rfl
  have eq' : (Int32.ofNat q).toNatClampNeg = q := by show (Int32.ofNat q).toInt.toNat = q; rw [eq]; rfl
  have z0 : (0 : Int32).toInt = 0 := rfl
  have z0' : (0 : Int32).toNatClampNeg = 0 := rfl
  subst eT
  obtain ⟨vm₁, hW, X', st⟩ := X.arraycopyK hx hown (mvT hZ w) (mvT hZ wn) (mvT hZ ws) (mvT hZ wi) (srcPos := 0) As.1 Ad.1 s1 d1 As.2.2 Ad.2.2 s2 d2 s3 d3 (by decide)
    (by decide) (by rw [Int32.lt_iff_toInt_lt]; omega) (by rw [Int32.lt_iff_toInt_lt]; omega) (by omega) (by omega) (fun vm₁ _ i hi => by
      rw [en'] at hi
      have := Hs i (by omega)
      rw [z0', Nat.zero_add, Array.getD_eq_getD_getElem?, this.1]
      exact ⟨this.2, trivial⟩) hg hsize hs hd hf hl
  rw [en', eq'] at X'
  obtain ⟨C, hC⟩ : ∃ C, C = copied cs cd 0 (Int32.ofNat q) (Int32.ofNat n) := ⟨_, rfl⟩
  have F := Jvm.Free.SB.copied_facts cs cd 0 (Int32.ofNat q) (Int32.ofNat n)
  have G := Jvm.Free.SBG.copied_at (cs := cs) (cd := cd) (p := q) (n := n) (by omega) (by omega) (by omega)
  rw [← hC] at F G X' st
  have hlt : dst < T.heap.size := Ad.lt
  have hself : (T.heap.setIfInBounds dst C)[dst]? = some C := by simp [hlt]
  have hoth : ∀ x, x ≠ dst → (T.heap.setIfInBounds dst C)[x]? = T.heap[x]? := fun x hx => Array.getElem?_setIfInBounds_ne (Ne.symm hx)
  refine ⟨_, T.heap.setIfInBounds dst C, X', rfl, ⟨by simp, fun x cc hc hni => ?_, fun x cc hc => ?_⟩, ⟨C, ⟨hself, ?_, ?_⟩, ?_, ld, fun j hj => ?_⟩, st⟩
  · rw [hoth x (fun z => hni (by simp [z]))]; exact hc
  · by_cases z : x = dst
    · subst z
      have : cc = cd := Option.some.inj (hc.symm.trans Ad.1)
      subst this
      exact ⟨C, hself, F.1, F.2.1, F.2.2⟩
    · exact ⟨cc, by rw [hoth x z]; exact hc, rfl, rfl, rfl⟩
  · obtain ⟨a1, a2⟩ := Ad.2.1
    exact ⟨by rw [F.2.1]; exact a1, by rw [F.1]; exact a2⟩
  · rw [F.2.1]; exact Ad.2.2
  · rw [F.2.2]; exact zd
  · rw [G j]
    by_cases z : q ≤ j ∧ j < q + n
    · have w := Hs (j - q) (by omega)
      simp only [if_pos z]
      rw [Array.getD_eq_getD_getElem?, w.1]
      exact ⟨rfl, w.2⟩
    · simp only [if_neg z]
      exact Hd j hj
end Jvm.OwnK
namespace Jvm.OwnK
open Sem ClassFile Op Lib Jvm.Stand Jvm.Free Jvm.LawKit Jvm.RoadKit
variable {Z : State} {h h' : Heap} {t a : Addr} {N sl : Nat} {f : Nat → Int32} {v : Value}
theorem Byt.keep {ws : List Addr} (B : Byt Z h t N f) (K : Keep h h' ws) (q : t ∉ ws) : Byt Z h' t N f := by obtain ⟨c, A, r⟩ := B; exact ⟨c, ⟨K.2.1 _ _ A.1 q, A.2⟩, r⟩
theorem Byt.other (B : Byt Z h t N f) (W : Wr h h' a sl v) (q : t ≠ a) : Byt Z h' t N f := B.keep (Keep.of_wr W) (by simpa using q)
theorem Byt.set {j : Nat} {x : Int32} (B : Byt Z h t N f) (W : Wr h h' t j (.int x)) (hx : fits .byte (.int x) = true) : Byt Z h' t N (fun i => if i = j then x else f i) := by
  obtain ⟨c, A, z, l, H⟩ := B
  obtain ⟨c0, w1, w2, w3, w4⟩ := W
  cases A.1.symm.trans w1
  subst w4
  refine ⟨c.setSlot j (.int x), ⟨by simp [A.lt], A.2.1, A.2.2⟩, by simpa [Cell.setSlot] using z, l, fun i hi => ?_⟩
  by_cases e : i = j
  · subst e; simp [Cell.setSlot, w3, hx]
  · simp only [if_neg e]
    have := H i hi
    refine ⟨?_, this.2⟩
    rw [← this.1]
    simp [Cell.setSlot, Array.getElem?_setIfInBounds, Ne.symm e]
theorem Byt.of_arv {k : ClassId} {z : Int32} {vs : List Value} {g : Nat → Int32} (V : Arv Z h t k .byte z vs (.int 0)) (hg : ∀ j, vs.getD j (.int 0) = .int (g j)) : Byt Z h t z.toNatClampNeg g := by
  obtain ⟨c, A, -, S, -, H, F⟩ := V
  refine ⟨c, A, S, ?_, fun j hj => ?_⟩
  · show z.toInt.toNat < _
    have := rng32 z
    omega
  · have q1 := H j (by omega)
    have q2 := F j (by omega)
    rw [hg] at q1 q2
    exact ⟨q1, q2⟩
end Jvm.OwnK
namespace Jvm.OwnK
open Sem ClassFile Op Lib Jvm.Stand Jvm.Free Jvm.LawKit Jvm.RoadKit
theorem Byt.new {Z : State} {h : Heap} {a : Addr} {cA : ClassId} {n : Int32} (A : Arr Z h a (newA cA .byte n) .byte) : Byt Z h a n.toNatClampNeg (fun _ => 0) := by
  refine ⟨_, A, sz_new _ _ _, ?_, fun j hj => ?_⟩
  · show n.toInt.toNat < _
    have := rng32 n
    omega
  · simp [newA, hj, defaultValue, fits]
end Jvm.OwnK
namespace Jvm.OwnK
open Sem ClassFile Op Lib Jvm.Stand Jvm.Free Jvm.LawKit Jvm.RoadKit
section Words2
variable {s : State} {args : Array Value}
theorem declares_of {y : MethodName} {bytes : ByteArray} {maxL : Nat} {ret : Option FieldType} (hi : (Cond.instanceMethod y).before args s = true) (hc : (Cond.code y bytes maxL ret).before args s = true) : (Cond.declares y).before args s = true := by
  obtain ⟨mk, meth, h1, h2, h3, h4⟩ := Cond.instanceMethod_spec hi
  obtain ⟨meth', cM, h2', -, -, -, -, -, -, hsig⟩ := Cond.code_spec h1 hc
  cases h2.symm.trans h2'
  simp [Cond.before, Cond.holds, Cond.value, h1, h2, h3, hsig]
theorem notFace_by {C : String} {y z : MethodName} (h : (Cond.selects C z z).before args s = true) (hc : y.cls = z.cls) : NotFace s y := fun r0 h0 => by
  obtain ⟨c, r, m, q1, q2, q3, q4, kP, hk, hi⟩ := Cond.selects_spec h
  have e1 := findClass_of_methodNamed h0
  have e2 := findClass_of_methodNamed q3
  rw [hc] at e1
  have e := Option.some.inj (e1.symm.trans e2)
  exact ⟨kP, by rw [e]; exact hk, hi⟩
theorem same_of {C : String} {y z : MethodName} (hi : (Cond.instanceMethod y).before args s = true) (hs : (Cond.selects C z z).before args s = true) (hc : y.cls = z.cls) (hy : y.cls ≠ "java/lang/invoke/MethodHandle" ∧ y.cls ≠ "java/lang/invoke/VarHandle") : (Cond.sameMethod y.cls y.cls y.name y.desc).before args s = true := by
  obtain ⟨mk, meth, h1, h2, h3, h4⟩ := Cond.instanceMethod_spec hi
  obtain ⟨kr, k1, k2⟩ := notFace_by hs hc mk h1
  have hf := State.methodFound?_of_named h1 hy
  have hk := findClass_of_methodNamed h1
  have h1' : s.methodNamed? ⟨y.cls, y.name, y.desc⟩ = some mk := h1
  simp [Cond.before, Cond.holds, Cond.value, hk, hf, h1', k1, k2]
end Words2
section NewB
variable {p : Program} {l : Launch} {e : Env} {R : Room} {s : State} {m : MethodId} {args : Array Value} {below : List Frame} {meth : Method} {c : Code} {T : State} {locs : List Loc} {cells slots : Nat} {Z : State} {a0 : Array Value} {h h' : Heap}
/-- new byte[n] -/
theorem newB (X : Stand p l e R s m args below meth c T locs cells slots) (hx : p.tables.exec = Jvm.exec) (hZ : Z.Warmed39 s.vm) (w : (Cond.arrayClass .byte).before a0 Z = true) (eT : T.heap = h) {g : JFrame} (hg : g.method = m) (hd : decode c.code g.pc = .ok (.newarray .byte, 2)) {n : Nat} {rest : List Value} (hs : g.stack = .int (Int32.ofNat n) :: rest)
    {cap : Nat} (hcap : n ≤ cap) (hb : cap ≤ 1000) (hc : cells + 1 ≤ R.cells) (hl : slots + cap ≤ R.slots) :
    ∃ T' h', Stand p l e R s m args below meth c T' locs (cells + 1) (slots + cap) ∧ T'.heap = h' ∧ Ext h h' ∧ Byt Z h' h.size n (fun _ => 0) ∧ Exa Z h' h.size "[B" ∧
      ∀ target, Steps p.tables e below (T'.setTop { g with pc := g.pc + 2, stack := .ref h.size :: rest }) target → Steps p.tables e below (T.setTop g) target := by
  have hi : (Int32.ofNat n).toInt = n := Int32.toInt_ofNat_small (by omega)
  have hn : ¬ Int32.ofNat n < 0 := by
    rw [Int32.lt_iff_toInt_lt, hi]
    have : (0 : Int32).toInt = 0 := rfl
    omega
  have hcl : (Int32.ofNat n).toNatClampNeg = n := by
    show (Int32.ofNat n).toInt.toNat = n
    rw [hi]; rfl
  obtain ⟨cA, kA, comp, h1, h2, h3, X', st⟩ := X.newarrayPrim hx (atype := .byte) (mvA hZ w) hg hd hs hn (by rw [hcl]; show n * 1 ≤ _; omega) hc (by rw [hcl]; omega)
  subst eT
  rw [hZ.alike.findClass] at h1
  obtain ⟨kZ, z1, -⟩ := Vm.findClass_spec h1
  obtain ⟨k', z2, z3⟩ := hZ.alike.2.2 _ _ z1
  cases h2.symm.trans z2
  have h3' : kA.kind = .array comp .byte := h3
  have hkd : kZ.kind = .array comp .byte := by rw [← h3', z3]
  have hget : (T.heap.push (newA cA .byte (Int32.ofNat n)))[T.heap.size]? = some (newA cA .byte (Int32.ofNat n)) := by simp
  have A : Arr Z (T.heap.push (newA cA .byte (Int32.ofNat n))) T.heap.size (newA cA .byte (Int32.ofNat n)) .byte := ⟨hget, ⟨by simp [newA], kZ, z1, comp, hkd⟩, by simp [newA]⟩
  have B := Byt.new A
  rw [hcl] at B
  refine ⟨_, T.heap.push (newA cA .byte (Int32.ofNat n)), X'.more (Nat.le_refl _) (by rw [hcl]; omega), rfl, ext_of fun a q => Array.getElem?_push_lt q |>.trans (Array.getElem?_eq_getElem q).symm, B, ⟨_, kZ, hget, h1, z1, rfl, fun q => by rw [hkd] at q; cases q⟩, st⟩
theorem Byt.fit {t : Addr} {N : Nat} {f : Nat → Int32} {cl : Cell} (A : Arr Z h t cl .byte) (hN : cl.slots.size = N) (H : ∀ j, j < N → cl.slots[j]? = some (.int (f j)) ∧ fits .byte (.int (f j)) = true) : FitC Z cl := fun i v hv => by
  have hi := (Array.getElem?_eq_some_iff.mp hv).1
  obtain ⟨q1, q2⟩ := H i (by omega)
  cases q1.symm.trans hv
  obtain ⟨hobj, k, hk, comp, hkind⟩ := A.2.1
  simp [State.fitsSlot, State.slotType?, hk, hkind]
  exact q2
end NewB
theorem byt_in {c : Cell} {N j : Nat} (z : c.slots.size = N) (hN : N < 2 ^ 31) (hj : j < N) : ¬ (Int32.ofNat j < 0 ∨ c.slots.size ≤ (Int32.ofNat j).toNatClampNeg) := by
  have hi : (Int32.ofNat j).toInt = j := Int32.toInt_ofNat_small (by omega)
  have hcl : (Int32.ofNat j).toNatClampNeg = j := by
    show (Int32.ofNat j).toInt.toNat = j
    rw [hi]; rfl
  rw [hcl, z, Int32.lt_iff_toInt_lt, hi]
  have : (0 : Int32).toInt = 0 := rfl
  omega
theorem byt_at {c : Cell} {N j : Nat} {f : Nat → Int32} (H : ∀ j, j < N → c.slots[j]? = some (.int (f j)) ∧ fits .byte (.int (f j)) = true) (hN : N < 2 ^ 31) (hj : j < N) : c.slots[(Int32.ofNat j).toNatClampNeg]? = some (.int (f j)) := by
  have hi : (Int32.ofNat j).toInt = j := Int32.toInt_ofNat_small (by omega)
  have hcl : (Int32.ofNat j).toNatClampNeg = j := by
    show (Int32.ofNat j).toInt.toNat = j
    rw [hi]; rfl
  rw [hcl]; exact (H j hj).1
section EndRW
variable {p : Program} {l : Launch} {e : Env} {R : Room} {s : State} {m : MethodId} {args : Array Value} {below : List Frame} {meth : Method} {c : Code} {T : State} {locs : List Loc} {cells slots : Nat} {Q : Option Value → Heap → List Loc → Prop} {ck cs pc : Nat} {Ls : Array Slot} {rest : List Value} {vm1 : Vm} {n : Nat}
theorem endRW (X : Stand p l e R (s.setVm vm1) m args below meth c T locs cells slots) (hS : s.Since vm1 n) (hn : n ≤ T.heap.size) (hx : p.tables.exec = Jvm.exec) {w : Value} {t : FieldType} (hret : meth.sig.returnType = some t) (ht : t.isReference = true) (hw : w.isRef = true) (hd : decode c.code pc = .ok (.areturn, 1)) (hlk : meth.locks = false)
    (hq : Q (some w) T.heap locs) (hc : cells ≤ ck) (hs : slots ≤ cs) : EndsK p e below (OW s Q ck cs) (T.setTop (mkF m pc Ls (w :: rest))) := by
  obtain ⟨fs, hr, hrun, hended, hR⟩ := X.leaveW hS hn (v := some w) (fun h => by rw [hret] at h; cases h) hlk
  have hnr : narrow t w = w := by cases t <;> first | (cases ht; done) | (cases w <;> first | rfl | (cases hw; done))
  exact ⟨_, _, retOut X hx hret hnr (Or.inr (Or.inr (Or.inr (Or.inr ⟨rfl, ht, hw⟩)))) hd hr, hrun, hended, _, _, rfl, hq, hR.1, hR.2.1, hR.2.2.1, hR.2.2.2.mono hc hs⟩
end EndRW
/-- an Object[10] of an ArrayList: its first n places -/
def Els (Z : State) (h : Heap) (t : Addr) (n : Nat) (g : Nat → Addr) : Prop := ∃ c : Cell, Arr Z h t c (.object "java/lang/Object") ∧ Ovr Z c.cls "java/lang/Object" ∧ c.slots.size = 10 ∧ ∀ j, j < n → c.slots[j]? = some (.ref (g j))
section ElsS
variable {Z : State} {h h' : Heap} {t a : Addr} {n sl : Nat} {g : Nat → Addr} {v : Value}
theorem Els.ext (B : Els Z h t n g) (E : Ext h h') : Els Z h' t n g := by obtain ⟨c, A, r⟩ := B; exact ⟨c, A.ext E, r⟩
theorem Els.lt (B : Els Z h t n g) : t < h.size := by obtain ⟨c, A, r⟩ := B; exact A.lt
theorem Els.keep {ws : List Addr} (B : Els Z h t n g) (K : Keep h h' ws) (q : t ∉ ws) : Els Z h' t n g := by obtain ⟨c, A, r⟩ := B; exact ⟨c, ⟨K.2.1 _ _ A.1 q, A.2⟩, r⟩
theorem Els.other (B : Els Z h t n g) (W : Wr h h' a sl v) (q : t ≠ a) : Els Z h' t n g := B.keep (Keep.of_wr W) (by simpa using q)
theorem Els.snoc {b : Addr} (B : Els Z h t n g) (W : Wr h h' t n (.ref b)) : Els Z h' t (n + 1) (fun j => if j = n then b else g j) := by
  obtain ⟨c, A, O, z, H⟩ := B
  obtain ⟨c0, w1, w2, w3, w4⟩ := W
  cases A.1.symm.trans w1
  subst w4
  refine ⟨c.setSlot n (.ref b), ⟨by simp [A.lt], A.2.1, A.2.2⟩, O, by simpa [Cell.setSlot] using z, fun i hi => ?_⟩
  by_cases e : i = n
  · subst e; simp [Cell.setSlot, w3]
  · simp only [if_neg e]
    rw [← H i (by omega)]
    simp [Cell.setSlot, Array.getElem?_setIfInBounds, Ne.symm e]
theorem Els.new {cA : ClassId} {k : Int32} (A : Arr Z h t (newA cA (.object "java/lang/Object") k) (.object "java/lang/Object")) (O : Ovr Z cA "java/lang/Object") (hk : k.toNatClampNeg = 10) : Els Z h t 0 g :=
  ⟨_, A, O, by rw [sz_new, hk], fun j hj => absurd hj (Nat.not_lt_zero _)⟩
end ElsS
end Jvm.OwnK
namespace Jvm.OwnK
open Sem ClassFile Op Lib Jvm.Stand Jvm.Free Jvm.LawKit Jvm.RoadKit
theorem backOfC {p : Program} {l : Launch} {e : Env} {R : Room} {s : State} {args : Array Value} {below : List Frame} {Q : Option Value → Heap → List Loc → Prop} {Z : State} {a0 : Array Value} {EL : List (String × Nat)} {h : Heap} {y : MethodName} {bytes : ByteArray} {maxL : Nat} {ret : Option FieldType} {rm : Room} {len W : Nat} {as' : Array Value}
    (hM : MetFree l y (head1 [Cond.code y bytes maxL ret] rm) (fun a U => a = as' ∧ Z.Warmed39 U.vm ∧ U.heap = h ∧ CHv Z EL U.vm h) (fun _ _ _ _ _ => True) (fun _ U o U' => ∃ v L, o = .returned v ∧ Q v U'.heap L ∧ ReturnedEndW U o U' L rm.cells rm.slots))
    (hZ : Z.Warmed39 s.vm) (wc : (Cond.code y bytes maxL ret).before a0 Z = true) (wz : (Cond.initialized y.cls).before a0 Z = true) (hf : rm.frames + 1 ≤ R.frames) (hl : W + (maxL + 11) + rm.locals ≤ R.locals) (hEL : EW Z a0 EL) (H : CHv Z EL s.vm h) :
    BackS l R p e below s args y len W (fun A a => a = as' ∧ A.U.heap = h ∧ A.cells + rm.cells ≤ R.cells ∧ A.slots + rm.slots ≤ R.slots)
      (fun A _ v B => ∃ L, Q v B.U.heap L ∧ B.locs = A.locs ++ L ∧ B.cells = A.cells + rm.cells ∧ B.slots = A.slots + rm.slots) :=
  BackS.of_freeW (bytes := bytes) (maxL := maxL) (ret := ret) (E := fun _ _ o t L k n => k = rm.cells ∧ n = rm.slots ∧ ∃ v, o = .returned v ∧ Q v t.heap L) hM hf hl
    (fun m meth c A a Y hp => have hU : Z.Warmed39 A.U.vm := wtrans hZ Y.warmed
      ⟨by show (Cond.and _ .tt).before a A.U = true; rw [Cond.before_and, mv hU wc]; rfl, mv hU wc, mv hU wz, hp.2.2.1, hp.2.2.2⟩)
    (fun m meth c A a g mk Y hp => have C := CHv.at (s := s) (vm0 := s.vm) Y hZ hEL H
      ⟨hp.1, wtrans hZ Y.warmed, hp.2.1, C.1⟩) (fun _ _ _ _ _ _ _ _ _ => trivial)
    (fun _ _ _ _ ⟨v, L, h1, h2, h3⟩ => ⟨L, _, _, h3, rfl, rfl, v, h1, h2⟩)
    (fun m meth c A a g mk v t L k n Y hp _ _ ⟨e1, e2, v', e3, e4⟩ => by cases e3; subst e1 e2; exact ⟨L, e4, rfl, rfl, rfl⟩)
theorem exa_ne {Z : State} {h : Heap} {a b : Addr} {C D : String} (A : Exa Z h a C) (B : Exa Z h b D) (hn : C ≠ D) : a ≠ b := fun e => by
  subst e
  obtain ⟨c1, k1, q1, q2, -⟩ := A
  obtain ⟨c2, k2, r1, r2, -⟩ := B
  cases q1.symm.trans r1
  exact ids_ne q2 r2 hn rfl
theorem els_ne {Z : State} {h : Heap} {b t : Addr} {C : String} {n k : Nat} {G : Nat → Addr} {a0 : Array Value} (E : Exa Z h b C) (wi : (Cond.instantiable C k).before a0 Z = true) (B : Els Z h t n G) : b ≠ t := fun e => by
  subst e
  obtain ⟨c1, k1, q1, q2, q3, -⟩ := E
  obtain ⟨c2, A, -⟩ := B
  cases q1.symm.trans A.1
  obtain ⟨-, kA, hA, comp, hkd⟩ := A.2.1
  obtain ⟨cc, kc, i1, i2, i3, -⟩ := Cond.instantiable_spec wi
  cases q2.symm.trans i1
  cases hA.symm.trans i2
  rw [hkd] at i3
  cases i3
end Jvm.OwnK
namespace Jvm.OwnK
open Sem ClassFile Op Lib Jvm.Stand Jvm.Free Jvm.LawKit Jvm.RoadKit
section Done
variable {p : Program} {l : Launch} {e : Env} {R : Room} {s : State} {m : MethodId} {args : Array Value} {below : List Frame} {meth : Method} {c : Code} {T : State} {locs : List Loc} {cells slots : Nat} {Q : Option Value → Heap → List Loc → Prop} {a b k : Nat} {g : JFrame} {rest : List Value} {S : State}
theorem doneT (X : Stand p l e R s m args below meth c T locs cells slots) (H : ∃ (v : Option Value) (vm₁ : Vm) (B : Pt), s.WarmedH vm₁ ∧ Stand p l e R s m args below meth c B.U B.locs B.cells B.slots ∧ (∃ L, Q v B.U.heap L ∧ B.locs = locs ++ L ∧ B.cells = cells + a ∧ B.slots = slots + b) ∧ Steps p.tables e below S (B.U.setTop { g with pc := g.pc + k, stack := v.toList ++ rest })) :
    ∃ (v : Option Value) (T' : State) (L : List Loc), Stand p l e R s m args below meth c T' (locs ++ L) (cells + a) (slots + b) ∧ Q v T'.heap L ∧ Steps p.tables e below S (T'.setTop { g with pc := g.pc + k, stack := v.toList ++ rest }) := by
  obtain ⟨v, vm, ⟨T', L', c', n'⟩, -, X', ⟨L, hQ, h1, h2, h3⟩, st⟩ := H
  dsimp only [Pt.U, Pt.locs, Pt.cells, Pt.slots] at X' hQ h1 h2 h3 st
  subst h1 h2 h3
  exact ⟨v, T', L, X', hQ, st⟩
theorem doneG (X : Stand p l e R s m args below meth c T locs cells slots) (H : ∃ (v : Option Value) (vm₁ : Vm) (B : Pt), s.WarmedH vm₁ ∧ Stand p l e R s m args below meth c B.U B.locs B.cells B.slots ∧ (∃ L, Q v B.U.heap L ∧ B.locs = locs ++ L ∧ B.cells = cells + a ∧ B.slots = slots + b) ∧ ∀ target, Steps p.tables e below (B.U.setTop { g with pc := g.pc + k, stack := v.toList ++ rest }) target → Steps p.tables e below S target) :
    ∃ (v : Option Value) (T' : State) (L : List Loc), Stand p l e R s m args below meth c T' (locs ++ L) (cells + a) (slots + b) ∧ Q v T'.heap L ∧ ∀ target, Steps p.tables e below (T'.setTop { g with pc := g.pc + k, stack := v.toList ++ rest }) target → Steps p.tables e below S target := by
  obtain ⟨v, vm, ⟨T', L', c', n'⟩, -, X', ⟨L, hQ, h1, h2, h3⟩, st⟩ := H
  dsimp only [Pt.U, Pt.locs, Pt.cells, Pt.slots] at X' hQ h1 h2 h3 st
  subst h1 h2 h3
  exact ⟨v, T', L, X', hQ, st⟩
end Done
end Jvm.OwnK
namespace Jvm.OwnK
open Sem ClassFile Op Lib Jvm.Stand Jvm.Free Jvm.LawKit Jvm.RoadKit
abbrev PreK (Z : State) (as : Array Value) (h0 : Heap) : Array Value → State → Prop := fun az Uz => az = as ∧ Z.Warmed39 Uz.vm ∧ Uz.heap = h0
abbrev PosK (Q : Option Value → Heap → List Loc → Prop) (R : Room) : Array Value → State → Outcome → State → Prop := fun _ Uz oz Ut => ∃ vz Lz, oz = .returned vz ∧ Q vz Ut.heap Lz ∧ FrameEnd Uz oz Ut Lz R.cells R.slots
theorem startK {l : Launch} {y : MethodName} {bytes : ByteArray} {maxL : Nat} {ret : Option FieldType} {ws : List Cond} {R : Room} {Z : State} {as : Array Value} {h0 : Heap} {Q : Option Value → Heap → List Loc → Prop} (n0 : Nat) {L : Array Slot} (hp : plainFor y = true) (ef : ∀ m, entryFrame m as maxL = mkF m 0 L [])
    (F : ∀ (p : Program) (e : Env) (s : State) (m : MethodId) (below : List Frame) (meth : Method) (c : Code) (s₁ : State), BodyLoose p l y (head1 (Cond.code y bytes maxL ret :: ws) R) bytes maxL ret e s m as below meth c s₁ → Z.Warmed39 s.vm → s.heap = h0 → p.tables.exec = Jvm.exec → c.code = bytes → c.maxLocals = maxL →
      s.vm.findClass y.cls = some m.cls → meth.name = y.name → meth.locks = false → Stand p l e R s m as below meth c s₁ [] 0 0 → s₁.heap = h0 → Fr n0 [] → EndsK p e below (OQ s Q R.cells R.slots) (s₁.setTop (mkF m 0 L []))) :
    MetFree l y (head1 (Cond.code y bytes maxL ret :: ws) R) (PreK Z as h0) (fun _ _ _ _ _ => True) (PosK Q R) := by
  refine MetFree.of_bodySF hp hisR ?_
  intro p e s m args below meth c s₁ Bd hml0 hP hK
  obtain ⟨rfl, hZ, hh⟩ := hP
  exact EndsK.start (ef m) (F p e s m below meth c s₁ Bd hZ hh Bd.exec Bd.bytes hml0 (findClass_of_methodNamed Bd.named) (name_of_methodNamed Bd.named Bd.method).1 Bd.notSynchronized (Stand.of_body Bd) (by rw [← hh, Bd.state]; rfl) (Fr.nil n0))
end Jvm.OwnK
namespace Jvm.Pilot.@@N@@
open Jvm Jvm.ClassFile Sem Op Lib Jvm.Free Jvm.Stand Jvm.LawKit Jvm.RoadKit Jvm.OwnK Bundle Jvm.Pilot.@@N@@.Jvm.D
abbrev vi (x : Int32) : Slot := .val (.int x)
abbrev vr (a : Addr) : Slot := .val (.ref a)
abbrev mn0 : MethodName := ⟨"com/example/guildtable/guildtable/table/WinnersLinePinLaw", "mag", "(I)J"⟩
abbrev mn1 : MethodName := ⟨"com/example/guildtable/guildtable/table/WinnersLinePinLaw", "ndig", "(J)I"⟩
abbrev mn2 : MethodName := ⟨"com/example/guildtable/guildtable/table/WinnersLinePinLaw", "dig", "(J)C"⟩
abbrev mn3 : MethodName := ⟨"com/example/guildtable/guildtable/table/WinnersLinePinLaw", "segLen", "(I)I"⟩
abbrev mn4 : MethodName := ⟨"java/lang/Math", "min", "(II)I"⟩
abbrev mn5 : MethodName := ⟨"java/lang/Math", "max", "(II)I"⟩
abbrev mn6 : MethodName := ⟨"java/lang/String", "coder", "()B"⟩
abbrev mn7 : MethodName := ⟨"java/lang/AbstractStringBuilder", "isLatin1", "()Z"⟩
abbrev mn8 : MethodName := ⟨"java/lang/StringLatin1", "canEncode", "(C)Z"⟩
abbrev mn9 : MethodName := ⟨"java/lang/String", "length", "()I"⟩
abbrev mn10 : MethodName := ⟨"jdk/internal/util/ArraysSupport", "newLength", "(III)I"⟩
abbrev mn11 : MethodName := ⟨"java/lang/Integer", "stringSize", "(I)I"⟩
abbrev mn12 : MethodName := ⟨"java/util/Arrays", "copyOf", "([BI)[B"⟩
abbrev mn13 : MethodName := ⟨"java/lang/AbstractStringBuilder", "newCapacity", "(I)I"⟩
abbrev mn14 : MethodName := ⟨"java/lang/AbstractStringBuilder", "ensureCapacityInternal", "(I)V"⟩
abbrev mn15 : MethodName := ⟨"java/lang/AbstractStringBuilder", "inflateIfNeededFor", "(Ljava/lang/String;)V"⟩
abbrev mn16 : MethodName := ⟨"java/lang/String", "getBytes", "([BIB)V"⟩
abbrev mn17 : MethodName := ⟨"java/lang/AbstractStringBuilder", "putStringAt", "(ILjava/lang/String;)V"⟩
abbrev mn18 : MethodName := ⟨"java/lang/AbstractStringBuilder", "append", "(Ljava/lang/String;)Ljava/lang/AbstractStringBuilder;"⟩
abbrev mn19 : MethodName := ⟨"java/lang/StringBuilder", "append", "(Ljava/lang/String;)Ljava/lang/StringBuilder;"⟩
abbrev mn20 : MethodName := ⟨"java/lang/StringBuilder", "append", "(Ljava/lang/String;)Ljava/lang/AbstractStringBuilder;"⟩
abbrev mn21 : MethodName := ⟨"java/lang/AbstractStringBuilder", "<init>", "(Ljava/lang/String;)V"⟩
abbrev mn22 : MethodName := ⟨"java/lang/StringBuilder", "<init>", "(Ljava/lang/String;)V"⟩
abbrev mn23 : MethodName := ⟨"java/lang/AbstractStringBuilder", "append", "(C)Ljava/lang/AbstractStringBuilder;"⟩
abbrev mn24 : MethodName := ⟨"java/lang/StringBuilder", "append", "(C)Ljava/lang/StringBuilder;"⟩
abbrev mn25 : MethodName := ⟨"java/lang/Integer", "getChars", "(II[B)I"⟩
abbrev mn26 : MethodName := ⟨"java/lang/AbstractStringBuilder", "append", "(I)Ljava/lang/AbstractStringBuilder;"⟩
abbrev mn27 : MethodName := ⟨"java/lang/StringBuilder", "append", "(I)Ljava/lang/StringBuilder;"⟩
abbrev mn28 : MethodName := ⟨"java/util/Arrays", "checkLength", "(II)V"⟩
abbrev mn29 : MethodName := ⟨"java/util/Arrays", "copyOfRangeByte", "([BII)[B"⟩
abbrev mn30 : MethodName := ⟨"java/util/Arrays", "copyOfRange", "([BII)[B"⟩
abbrev mn31 : MethodName := ⟨"java/lang/AbstractStringBuilder", "getValue", "()[B"⟩
abbrev mn32 : MethodName := ⟨"java/lang/AbstractStringBuilder", "length", "()I"⟩
abbrev mn33 : MethodName := ⟨"java/lang/StringBuilder", "length", "()I"⟩
abbrev mn34 : MethodName := ⟨"java/lang/String", "<init>", "(Ljava/lang/AbstractStringBuilder;Ljava/lang/Void;)V"⟩
abbrev mn35 : MethodName := ⟨"java/lang/String", "<init>", "(Ljava/lang/StringBuilder;)V"⟩
abbrev mn36 : MethodName := ⟨"java/lang/StringBuilder", "toString", "()Ljava/lang/String;"⟩
abbrev mn37 : MethodName := ⟨"java/lang/String", "isLatin1", "()Z"⟩
abbrev mn38 : MethodName := ⟨"jdk/internal/util/Preconditions", "checkIndex", "(IILjava/util/function/BiFunction;)I"⟩
abbrev mn39 : MethodName := ⟨"java/lang/String", "checkIndex", "(II)V"⟩
abbrev mn40 : MethodName := ⟨"java/lang/StringLatin1", "charAt", "([BI)C"⟩
abbrev mn41 : MethodName := ⟨"java/lang/String", "charAt", "(I)C"⟩
abbrev mn42 : MethodName := ⟨"com/example/guildtable/guildtable/table/WinnersLinePinLaw", "seg", "(Ljava/lang/String;II)Z"⟩
abbrev mn43 : MethodName := ⟨"java/lang/Number", "<init>", "()V"⟩
abbrev mn44 : MethodName := ⟨"java/util/AbstractCollection", "<init>", "()V"⟩
abbrev mn45 : MethodName := ⟨"java/lang/Integer", "<init>", "(I)V"⟩
abbrev mn46 : MethodName := ⟨"java/lang/Integer", "valueOf", "(I)Ljava/lang/Integer;"⟩
abbrev mn47 : MethodName := ⟨"java/lang/Integer", "intValue", "()I"⟩
abbrev mn48 : MethodName := ⟨"java/util/AbstractList", "<init>", "()V"⟩
abbrev mn49 : MethodName := ⟨"java/util/ArrayList", "<init>", "()V"⟩
abbrev mn50 : MethodName := ⟨"java/util/ArrayList", "grow", "(I)[Ljava/lang/Object;"⟩
abbrev mn51 : MethodName := ⟨"java/util/ArrayList", "grow", "()[Ljava/lang/Object;"⟩
abbrev mn52 : MethodName := ⟨"java/util/ArrayList", "add", "(Ljava/lang/Object;[Ljava/lang/Object;I)V"⟩
abbrev mn53 : MethodName := ⟨"java/util/ArrayList", "add", "(Ljava/lang/Object;)Z"⟩
abbrev mn54 : MethodName := ⟨"java/util/ArrayList$Itr", "<init>", "(Ljava/util/ArrayList;)V"⟩
abbrev mn55 : MethodName := ⟨"java/util/ArrayList", "iterator", "()Ljava/util/Iterator;"⟩
abbrev mn56 : MethodName := ⟨"java/util/ArrayList$Itr", "hasNext", "()Z"⟩
abbrev mn57 : MethodName := ⟨"java/util/ArrayList$Itr", "checkForComodification", "()V"⟩
abbrev mn58 : MethodName := ⟨"java/util/ArrayList$Itr", "next", "()Ljava/lang/Object;"⟩
abbrev mn59 : MethodName := ⟨"com/example/guildtable/guildtable/table/Winners", "line", "(Ljava/util/List;)Ljava/lang/String;"⟩
abbrev mn60 : MethodName := ⟨"java/util/List", "iterator", "()Ljava/util/Iterator;"⟩
abbrev mn61 : MethodName := ⟨"java/util/Iterator", "hasNext", "()Z"⟩
abbrev mn62 : MethodName := ⟨"java/util/Iterator", "next", "()Ljava/lang/Object;"⟩
abbrev mn63 : MethodName := ⟨"java/util/List", "add", "(Ljava/lang/Object;)Z"⟩
theorem tw {a0 : Array Value} {Z : State} (hw : ∀ d ∈ tables_1, d.before a0 Z = true) (i : Nat) {d : Jvm.Cond} (h : tables_1[i]? = some d) : d.before a0 Z = true := hw d (List.mem_of_getElem? h)
def magF (v : Int32) : Int64 := if v < 0 then -v.toInt64 else v.toInt64
def ndigF (m : Int64) : Int32 := if lcmpW m 10 < 0 then 1 else if lcmpW m 100 < 0 then 2 else if lcmpW m 1000 < 0 then 3 else if lcmpW m 10000 < 0 then 4 else if lcmpW m 100000 < 0 then 5 else if lcmpW m 1000000 < 0 then 6 else if lcmpW m 10000000 < 0 then 7 else if lcmpW m 100000000 < 0 then 8 else if lcmpW m 1000000000 < 0 then 9 else 10
abbrev B55 := method_2_code
theorem d55_0 : decode B55 0 = .ok (.iload_n 0, 1) := by decide +kernel
theorem d55_1 : decode B55 1 = .ok (.ifCond .ge 9, 3) := by decide +kernel
theorem d55_4 : decode B55 4 = .ok (.iload_n 0, 1) := by decide +kernel
theorem d55_5 : decode B55 5 = .ok (.i2l, 1) := by decide +kernel
theorem d55_6 : decode B55 6 = .ok (.lneg, 1) := by decide +kernel
theorem d55_7 : decode B55 7 = .ok (.goto 5, 3) := by decide +kernel
theorem d55_10 : decode B55 10 = .ok (.iload_n 0, 1) := by decide +kernel
theorem d55_11 : decode B55 11 = .ok (.i2l, 1) := by decide +kernel
theorem d55_12 : decode B55 12 = .ok (.lreturn, 1) := by decide +kernel
theorem pn0 : plainName "com/example/guildtable/guildtable/table/WinnersLinePinLaw" = true := by first | (simp [plainName, overriddenIn]; done) | decide +kernel
def Q_mag (Z : State) (v : Int32) (h0 : Heap) (n0 : Nat) (vz : Option Value) (hz : Heap) (Lz : List Loc) : Prop := vz = some (.long (magF v)) ∧ Fr n0 Lz ∧ hz = h0
abbrev rr_mag : Room := ({ frames := 0, cells := 0, slots := 0, locals := 0 } : Room)
set_option maxRecDepth 65536 in
set_option maxHeartbeats 40000000 in
theorem rm_mag (l : Launch) (Z : State) (a0 : Array Value) (hw : ∀ d ∈ tables_1, d.before a0 Z = true) (ws : List Jvm.Cond) (v : Int32) (h0 : Heap) (n0 : Nat) (Z0 : n0 ≤ h0.size)  :
    MetFree l mn0 (head1 (Jvm.Cond.code mn0 method_2_code 1 (some .long) :: ws) rr_mag) (PreK Z #[(.int v)] h0) (fun _ _ _ _ _ => True) (PosK (Q_mag Z v h0 n0) rr_mag) := by
  refine startK n0 (L := #[vi v]) (plainFor_of_name pn0) (fun _ => rfl) fun p e s m below meth c s₁ Bd hZ hh hx hby hml hown hnm hlk X0 e0 N0 => ?_
  refine EndsK.go (fun _ kz => XS.iloadN X0.here hx rfl (hb hby d55_0) rfl kz) ?_
  show EndsK p e below _ (s₁.setTop (mkF m 1 #[vi v] [(.int v)]))
  by_cases H1_1 : v < (0 : Int32)
  · refine EndsK.go (fun _ kz => XS.ifNo X0.here hx rfl (hb hby d55_1) rfl ((if0 _ _).trans (tlt H1_1).2.1) (XS.iloadN X0.here hx rfl (hb hby d55_4) rfl (XS.i2l X0.here hx rfl (hb hby d55_5) rfl (XS.lneg X0.here hx rfl (hb hby d55_6) rfl (XS.goto X0.here hx rfl (pc0 := 7) (pc' := 12) rfl (hb hby d55_7) (by decide) (by decide) kz))))) ?_
    show EndsK p e below _ (s₁.setTop (mkF m 12 #[vi v] [(.long (-v.toInt64))]))
    exact endJ X0 hx Bd.returns (hb hby d55_12) hlk ⟨(congrArg (fun z => some z) (by simp [magF, H1_1] : (.long (magF v) : Value) = (.long (-v.toInt64)))).symm, N0, e0⟩ (by decide) (by decide)
  · refine EndsK.go (fun _ kz => XS.ifYes X0.here hx rfl (pc0 := 1) (pc' := 10) rfl (hb hby d55_1) rfl ((if0 _ _).trans (flt H1_1).2.1) (by decide) (by decide) (XS.iloadN X0.here hx rfl (hb hby d55_10) rfl (XS.i2l X0.here hx rfl (hb hby d55_11) rfl kz))) ?_
    show EndsK p e below _ (s₁.setTop (mkF m 12 #[vi v] [(.long v.toInt64)]))
    exact endJ X0 hx Bd.returns (hb hby d55_12) hlk ⟨(congrArg (fun z => some z) (by simp [magF, H1_1] : (.long (magF v) : Value) = (.long v.toInt64))).symm, N0, e0⟩ (by decide) (by decide)
abbrev B56 := method_3_code
theorem d56_0 : decode B56 0 = .ok (.lload_n 0, 1) := by decide +kernel
theorem d56_1 : decode B56 1 = .ok (.ldc2_w 7, 3) := by decide +kernel
theorem d56_4 : decode B56 4 = .ok (.lcmp, 1) := by decide +kernel
theorem d56_5 : decode B56 5 = .ok (.ifCond .ge 5, 3) := by decide +kernel
theorem d56_8 : decode B56 8 = .ok (.iconst 1, 1) := by decide +kernel
theorem d56_9 : decode B56 9 = .ok (.ireturn, 1) := by decide +kernel
theorem d56_10 : decode B56 10 = .ok (.lload_n 0, 1) := by decide +kernel
theorem d56_11 : decode B56 11 = .ok (.ldc2_w 9, 3) := by decide +kernel
theorem d56_14 : decode B56 14 = .ok (.lcmp, 1) := by decide +kernel
theorem d56_15 : decode B56 15 = .ok (.ifCond .ge 5, 3) := by decide +kernel
theorem d56_18 : decode B56 18 = .ok (.iconst 2, 1) := by decide +kernel
theorem d56_19 : decode B56 19 = .ok (.ireturn, 1) := by decide +kernel
theorem d56_20 : decode B56 20 = .ok (.lload_n 0, 1) := by decide +kernel
theorem d56_21 : decode B56 21 = .ok (.ldc2_w 11, 3) := by decide +kernel
theorem d56_24 : decode B56 24 = .ok (.lcmp, 1) := by decide +kernel
theorem d56_25 : decode B56 25 = .ok (.ifCond .ge 5, 3) := by decide +kernel
theorem d56_28 : decode B56 28 = .ok (.iconst 3, 1) := by decide +kernel
theorem d56_29 : decode B56 29 = .ok (.ireturn, 1) := by decide +kernel
theorem d56_30 : decode B56 30 = .ok (.lload_n 0, 1) := by decide +kernel
theorem d56_31 : decode B56 31 = .ok (.ldc2_w 13, 3) := by decide +kernel
theorem d56_34 : decode B56 34 = .ok (.lcmp, 1) := by decide +kernel
theorem d56_35 : decode B56 35 = .ok (.ifCond .ge 5, 3) := by decide +kernel
theorem d56_38 : decode B56 38 = .ok (.iconst 4, 1) := by decide +kernel
theorem d56_39 : decode B56 39 = .ok (.ireturn, 1) := by decide +kernel
theorem d56_40 : decode B56 40 = .ok (.lload_n 0, 1) := by decide +kernel
theorem d56_41 : decode B56 41 = .ok (.ldc2_w 15, 3) := by decide +kernel
theorem d56_44 : decode B56 44 = .ok (.lcmp, 1) := by decide +kernel
theorem d56_45 : decode B56 45 = .ok (.ifCond .ge 5, 3) := by decide +kernel
theorem d56_48 : decode B56 48 = .ok (.iconst 5, 1) := by decide +kernel
theorem d56_49 : decode B56 49 = .ok (.ireturn, 1) := by decide +kernel
theorem d56_50 : decode B56 50 = .ok (.lload_n 0, 1) := by decide +kernel
theorem d56_51 : decode B56 51 = .ok (.ldc2_w 17, 3) := by decide +kernel
theorem d56_54 : decode B56 54 = .ok (.lcmp, 1) := by decide +kernel
theorem d56_55 : decode B56 55 = .ok (.ifCond .ge 6, 3) := by decide +kernel
theorem d56_58 : decode B56 58 = .ok (.bipush 6, 2) := by decide +kernel
theorem d56_60 : decode B56 60 = .ok (.ireturn, 1) := by decide +kernel
theorem d56_61 : decode B56 61 = .ok (.lload_n 0, 1) := by decide +kernel
theorem d56_62 : decode B56 62 = .ok (.ldc2_w 19, 3) := by decide +kernel
theorem d56_65 : decode B56 65 = .ok (.lcmp, 1) := by decide +kernel
theorem d56_66 : decode B56 66 = .ok (.ifCond .ge 6, 3) := by decide +kernel
theorem d56_69 : decode B56 69 = .ok (.bipush 7, 2) := by decide +kernel
theorem d56_71 : decode B56 71 = .ok (.ireturn, 1) := by decide +kernel
theorem d56_72 : decode B56 72 = .ok (.lload_n 0, 1) := by decide +kernel
theorem d56_73 : decode B56 73 = .ok (.ldc2_w 21, 3) := by decide +kernel
theorem d56_76 : decode B56 76 = .ok (.lcmp, 1) := by decide +kernel
theorem d56_77 : decode B56 77 = .ok (.ifCond .ge 6, 3) := by decide +kernel
theorem d56_80 : decode B56 80 = .ok (.bipush 8, 2) := by decide +kernel
theorem d56_82 : decode B56 82 = .ok (.ireturn, 1) := by decide +kernel
theorem d56_83 : decode B56 83 = .ok (.lload_n 0, 1) := by decide +kernel
theorem d56_84 : decode B56 84 = .ok (.ldc2_w 23, 3) := by decide +kernel
theorem d56_87 : decode B56 87 = .ok (.lcmp, 1) := by decide +kernel
theorem d56_88 : decode B56 88 = .ok (.ifCond .ge 6, 3) := by decide +kernel
theorem d56_91 : decode B56 91 = .ok (.bipush 9, 2) := by decide +kernel
theorem d56_93 : decode B56 93 = .ok (.ireturn, 1) := by decide +kernel
theorem d56_94 : decode B56 94 = .ok (.bipush 10, 2) := by decide +kernel
theorem d56_96 : decode B56 96 = .ok (.ireturn, 1) := by decide +kernel
def Q_ndig (Z : State) (v : Int64) (h0 : Heap) (n0 : Nat) (vz : Option Value) (hz : Heap) (Lz : List Loc) : Prop := vz = some (.int (ndigF v)) ∧ Fr n0 Lz ∧ hz = h0
abbrev rr_ndig : Room := ({ frames := 0, cells := 0, slots := 0, locals := 0 } : Room)
set_option maxRecDepth 65536 in
set_option maxHeartbeats 40000000 in
theorem rm_ndig (l : Launch) (Z : State) (a0 : Array Value) (hw : ∀ d ∈ tables_1, d.before a0 Z = true) (ws : List Jvm.Cond) (v : Int64) (h0 : Heap) (n0 : Nat) (Z0 : n0 ≤ h0.size)  :
    MetFree l mn1 (head1 (Jvm.Cond.code mn1 method_3_code 2 (some .int) :: ws) rr_ndig) (PreK Z #[(.long v)] h0) (fun _ _ _ _ _ => True) (PosK (Q_ndig Z v h0 n0) rr_ndig) := by
  refine startK n0 (L := #[.val (.long v), .second]) (plainFor_of_name pn0) (fun _ => rfl) fun p e s m below meth c s₁ Bd hZ hh hx hby hml hown hnm hlk X0 e0 N0 => ?_
  refine EndsK.go (fun _ kz => XS.lloadN X0.here hx rfl (hb hby d56_0) rfl (X0.ldc2J hx hown (mvT hZ (tw hw 331 rfl)) rfl (hb hby d56_1) (XS.lcmp X0.here hx rfl (hb hby d56_4) rfl kz))) ?_
  show EndsK p e below _ (s₁.setTop (mkF m 5 #[.val (.long v), .second] [(.int (lcmpW v (10 : Int64)))]))
  by_cases H5_1 : (lcmpW v (10 : Int64)) < (0 : Int32)
  · refine EndsK.go (fun _ kz => XS.ifNo X0.here hx rfl (hb hby d56_5) rfl ((if0 _ _).trans (tlt H5_1).2.1) (XS.iconst X0.here hx rfl (hb hby d56_8) kz)) ?_
    show EndsK p e below _ (s₁.setTop (mkF m 9 #[.val (.long v), .second] [(.int (1 : Int32))]))
    exact endI X0 hx Bd.returns (hb hby d56_9) hlk ⟨(congrArg (fun z => some z) (by simp [ndigF, H5_1] : (.int (ndigF v) : Value) = (.int (1 : Int32)))).symm, N0, e0⟩ (by decide) (by decide)
  · refine EndsK.go (fun _ kz => XS.ifYes X0.here hx rfl (pc0 := 5) (pc' := 10) rfl (hb hby d56_5) rfl ((if0 _ _).trans (flt H5_1).2.1) (by decide) (by decide) (XS.lloadN X0.here hx rfl (hb hby d56_10) rfl (X0.ldc2J hx hown (mvT hZ (tw hw 332 rfl)) rfl (hb hby d56_11) (XS.lcmp X0.here hx rfl (hb hby d56_14) rfl kz)))) ?_
    show EndsK p e below _ (s₁.setTop (mkF m 15 #[.val (.long v), .second] [(.int (lcmpW v (100 : Int64)))]))
    by_cases H15_2 : (lcmpW v (100 : Int64)) < (0 : Int32)
    · refine EndsK.go (fun _ kz => XS.ifNo X0.here hx rfl (hb hby d56_15) rfl ((if0 _ _).trans (tlt H15_2).2.1) (XS.iconst X0.here hx rfl (hb hby d56_18) kz)) ?_
      show EndsK p e below _ (s₁.setTop (mkF m 19 #[.val (.long v), .second] [(.int (2 : Int32))]))
      exact endI X0 hx Bd.returns (hb hby d56_19) hlk ⟨(congrArg (fun z => some z) (by simp [ndigF, H5_1, H15_2] : (.int (ndigF v) : Value) = (.int (2 : Int32)))).symm, N0, e0⟩ (by decide) (by decide)
    · refine EndsK.go (fun _ kz => XS.ifYes X0.here hx rfl (pc0 := 15) (pc' := 20) rfl (hb hby d56_15) rfl ((if0 _ _).trans (flt H15_2).2.1) (by decide) (by decide) (XS.lloadN X0.here hx rfl (hb hby d56_20) rfl (X0.ldc2J hx hown (mvT hZ (tw hw 333 rfl)) rfl (hb hby d56_21) (XS.lcmp X0.here hx rfl (hb hby d56_24) rfl kz)))) ?_
      show EndsK p e below _ (s₁.setTop (mkF m 25 #[.val (.long v), .second] [(.int (lcmpW v (1000 : Int64)))]))
      by_cases H25_3 : (lcmpW v (1000 : Int64)) < (0 : Int32)
      · refine EndsK.go (fun _ kz => XS.ifNo X0.here hx rfl (hb hby d56_25) rfl ((if0 _ _).trans (tlt H25_3).2.1) (XS.iconst X0.here hx rfl (hb hby d56_28) kz)) ?_
        show EndsK p e below _ (s₁.setTop (mkF m 29 #[.val (.long v), .second] [(.int (3 : Int32))]))
        exact endI X0 hx Bd.returns (hb hby d56_29) hlk ⟨(congrArg (fun z => some z) (by simp [ndigF, H5_1, H15_2, H25_3] : (.int (ndigF v) : Value) = (.int (3 : Int32)))).symm, N0, e0⟩ (by decide) (by decide)
      · refine EndsK.go (fun _ kz => XS.ifYes X0.here hx rfl (pc0 := 25) (pc' := 30) rfl (hb hby d56_25) rfl ((if0 _ _).trans (flt H25_3).2.1) (by decide) (by decide) (XS.lloadN X0.here hx rfl (hb hby d56_30) rfl (X0.ldc2J hx hown (mvT hZ (tw hw 355 rfl)) rfl (hb hby d56_31) (XS.lcmp X0.here hx rfl (hb hby d56_34) rfl kz)))) ?_
        show EndsK p e below _ (s₁.setTop (mkF m 35 #[.val (.long v), .second] [(.int (lcmpW v (10000 : Int64)))]))
        by_cases H35_4 : (lcmpW v (10000 : Int64)) < (0 : Int32)
        · refine EndsK.go (fun _ kz => XS.ifNo X0.here hx rfl (hb hby d56_35) rfl ((if0 _ _).trans (tlt H35_4).2.1) (XS.iconst X0.here hx rfl (hb hby d56_38) kz)) ?_
          show EndsK p e below _ (s₁.setTop (mkF m 39 #[.val (.long v), .second] [(.int (4 : Int32))]))
          exact endI X0 hx Bd.returns (hb hby d56_39) hlk ⟨(congrArg (fun z => some z) (by simp [ndigF, H5_1, H15_2, H25_3, H35_4] : (.int (ndigF v) : Value) = (.int (4 : Int32)))).symm, N0, e0⟩ (by decide) (by decide)
        · refine EndsK.go (fun _ kz => XS.ifYes X0.here hx rfl (pc0 := 35) (pc' := 40) rfl (hb hby d56_35) rfl ((if0 _ _).trans (flt H35_4).2.1) (by decide) (by decide) (XS.lloadN X0.here hx rfl (hb hby d56_40) rfl (X0.ldc2J hx hown (mvT hZ (tw hw 356 rfl)) rfl (hb hby d56_41) (XS.lcmp X0.here hx rfl (hb hby d56_44) rfl kz)))) ?_
          show EndsK p e below _ (s₁.setTop (mkF m 45 #[.val (.long v), .second] [(.int (lcmpW v (100000 : Int64)))]))
          by_cases H45_5 : (lcmpW v (100000 : Int64)) < (0 : Int32)
          · refine EndsK.go (fun _ kz => XS.ifNo X0.here hx rfl (hb hby d56_45) rfl ((if0 _ _).trans (tlt H45_5).2.1) (XS.iconst X0.here hx rfl (hb hby d56_48) kz)) ?_
            show EndsK p e below _ (s₁.setTop (mkF m 49 #[.val (.long v), .second] [(.int (5 : Int32))]))
            exact endI X0 hx Bd.returns (hb hby d56_49) hlk ⟨(congrArg (fun z => some z) (by simp [ndigF, H5_1, H15_2, H25_3, H35_4, H45_5] : (.int (ndigF v) : Value) = (.int (5 : Int32)))).symm, N0, e0⟩ (by decide) (by decide)
          · refine EndsK.go (fun _ kz => XS.ifYes X0.here hx rfl (pc0 := 45) (pc' := 50) rfl (hb hby d56_45) rfl ((if0 _ _).trans (flt H45_5).2.1) (by decide) (by decide) (XS.lloadN X0.here hx rfl (hb hby d56_50) rfl (X0.ldc2J hx hown (mvT hZ (tw hw 357 rfl)) rfl (hb hby d56_51) (XS.lcmp X0.here hx rfl (hb hby d56_54) rfl kz)))) ?_
            show EndsK p e below _ (s₁.setTop (mkF m 55 #[.val (.long v), .second] [(.int (lcmpW v (1000000 : Int64)))]))
            by_cases H55_6 : (lcmpW v (1000000 : Int64)) < (0 : Int32)
            · refine EndsK.go (fun _ kz => XS.ifNo X0.here hx rfl (hb hby d56_55) rfl ((if0 _ _).trans (tlt H55_6).2.1) (XS.bipush X0.here hx rfl (hb hby d56_58) kz)) ?_
              show EndsK p e below _ (s₁.setTop (mkF m 60 #[.val (.long v), .second] [(.int (6 : Int32))]))
              exact endI X0 hx Bd.returns (hb hby d56_60) hlk ⟨(congrArg (fun z => some z) (by simp [ndigF, H5_1, H15_2, H25_3, H35_4, H45_5, H55_6] : (.int (ndigF v) : Value) = (.int (6 : Int32)))).symm, N0, e0⟩ (by decide) (by decide)
            · refine EndsK.go (fun _ kz => XS.ifYes X0.here hx rfl (pc0 := 55) (pc' := 61) rfl (hb hby d56_55) rfl ((if0 _ _).trans (flt H55_6).2.1) (by decide) (by decide) (XS.lloadN X0.here hx rfl (hb hby d56_61) rfl (X0.ldc2J hx hown (mvT hZ (tw hw 358 rfl)) rfl (hb hby d56_62) (XS.lcmp X0.here hx rfl (hb hby d56_65) rfl kz)))) ?_
              show EndsK p e below _ (s₁.setTop (mkF m 66 #[.val (.long v), .second] [(.int (lcmpW v (10000000 : Int64)))]))
              by_cases H66_7 : (lcmpW v (10000000 : Int64)) < (0 : Int32)
              · refine EndsK.go (fun _ kz => XS.ifNo X0.here hx rfl (hb hby d56_66) rfl ((if0 _ _).trans (tlt H66_7).2.1) (XS.bipush X0.here hx rfl (hb hby d56_69) kz)) ?_
                show EndsK p e below _ (s₁.setTop (mkF m 71 #[.val (.long v), .second] [(.int (7 : Int32))]))
                exact endI X0 hx Bd.returns (hb hby d56_71) hlk ⟨(congrArg (fun z => some z) (by simp [ndigF, H5_1, H15_2, H25_3, H35_4, H45_5, H55_6, H66_7] : (.int (ndigF v) : Value) = (.int (7 : Int32)))).symm, N0, e0⟩ (by decide) (by decide)
              · refine EndsK.go (fun _ kz => XS.ifYes X0.here hx rfl (pc0 := 66) (pc' := 72) rfl (hb hby d56_66) rfl ((if0 _ _).trans (flt H66_7).2.1) (by decide) (by decide) (XS.lloadN X0.here hx rfl (hb hby d56_72) rfl (X0.ldc2J hx hown (mvT hZ (tw hw 359 rfl)) rfl (hb hby d56_73) (XS.lcmp X0.here hx rfl (hb hby d56_76) rfl kz)))) ?_
                show EndsK p e below _ (s₁.setTop (mkF m 77 #[.val (.long v), .second] [(.int (lcmpW v (100000000 : Int64)))]))
                by_cases H77_8 : (lcmpW v (100000000 : Int64)) < (0 : Int32)
                · refine EndsK.go (fun _ kz => XS.ifNo X0.here hx rfl (hb hby d56_77) rfl ((if0 _ _).trans (tlt H77_8).2.1) (XS.bipush X0.here hx rfl (hb hby d56_80) kz)) ?_
                  show EndsK p e below _ (s₁.setTop (mkF m 82 #[.val (.long v), .second] [(.int (8 : Int32))]))
                  exact endI X0 hx Bd.returns (hb hby d56_82) hlk ⟨(congrArg (fun z => some z) (by simp [ndigF, H5_1, H15_2, H25_3, H35_4, H45_5, H55_6, H66_7, H77_8] : (.int (ndigF v) : Value) = (.int (8 : Int32)))).symm, N0, e0⟩ (by decide) (by decide)
                · refine EndsK.go (fun _ kz => XS.ifYes X0.here hx rfl (pc0 := 77) (pc' := 83) rfl (hb hby d56_77) rfl ((if0 _ _).trans (flt H77_8).2.1) (by decide) (by decide) (XS.lloadN X0.here hx rfl (hb hby d56_83) rfl (X0.ldc2J hx hown (mvT hZ (tw hw 360 rfl)) rfl (hb hby d56_84) (XS.lcmp X0.here hx rfl (hb hby d56_87) rfl kz)))) ?_
                  show EndsK p e below _ (s₁.setTop (mkF m 88 #[.val (.long v), .second] [(.int (lcmpW v (1000000000 : Int64)))]))
                  by_cases H88_9 : (lcmpW v (1000000000 : Int64)) < (0 : Int32)
                  · refine EndsK.go (fun _ kz => XS.ifNo X0.here hx rfl (hb hby d56_88) rfl ((if0 _ _).trans (tlt H88_9).2.1) (XS.bipush X0.here hx rfl (hb hby d56_91) kz)) ?_
                    show EndsK p e below _ (s₁.setTop (mkF m 93 #[.val (.long v), .second] [(.int (9 : Int32))]))
                    exact endI X0 hx Bd.returns (hb hby d56_93) hlk ⟨(congrArg (fun z => some z) (by simp [ndigF, H5_1, H15_2, H25_3, H35_4, H45_5, H55_6, H66_7, H77_8, H88_9] : (.int (ndigF v) : Value) = (.int (9 : Int32)))).symm, N0, e0⟩ (by decide) (by decide)
                  · refine EndsK.go (fun _ kz => XS.ifYes X0.here hx rfl (pc0 := 88) (pc' := 94) rfl (hb hby d56_88) rfl ((if0 _ _).trans (flt H88_9).2.1) (by decide) (by decide) (XS.bipush X0.here hx rfl (hb hby d56_94) kz)) ?_
                    show EndsK p e below _ (s₁.setTop (mkF m 96 #[.val (.long v), .second] [(.int (10 : Int32))]))
                    exact endI X0 hx Bd.returns (hb hby d56_96) hlk ⟨(congrArg (fun z => some z) (by simp [ndigF, H5_1, H15_2, H25_3, H35_4, H45_5, H55_6, H66_7, H77_8, H88_9] : (.int (ndigF v) : Value) = (.int (10 : Int32)))).symm, N0, e0⟩ (by decide) (by decide)
def segLenF (v : Int32) : Int32 := (1 + (if v < 0 then 1 else 0)) + ndigF (magF v)
def digF (r : Int64) : Int32 := nar .char ((48 + (r - r / 10 * 10).toInt32).toUInt32.toUInt16.toUInt32.toInt32)
def minF (a b : Int32) : Int32 := if b < a then b else a
def maxF (a b : Int32) : Int32 := if a < b then b else a
abbrev B58 := method_5_code
theorem d58_0 : decode B58 0 = .ok (.bipush 48, 2) := by decide +kernel
theorem d58_2 : decode B58 2 = .ok (.lload_n 0, 1) := by decide +kernel
theorem d58_3 : decode B58 3 = .ok (.ldc2_w 7, 3) := by decide +kernel
theorem d58_6 : decode B58 6 = .ok (.lrem, 1) := by decide +kernel
theorem d58_7 : decode B58 7 = .ok (.l2i, 1) := by decide +kernel
theorem d58_8 : decode B58 8 = .ok (.iadd, 1) := by decide +kernel
theorem d58_9 : decode B58 9 = .ok (.i2c, 1) := by decide +kernel
theorem d58_10 : decode B58 10 = .ok (.ireturn, 1) := by decide +kernel
def Q_dig (Z : State) (r : Int64) (h0 : Heap) (n0 : Nat) (vz : Option Value) (hz : Heap) (Lz : List Loc) : Prop := vz = some (.int (digF r)) ∧ Fr n0 Lz ∧ hz = h0
abbrev rr_dig : Room := ({ frames := 0, cells := 0, slots := 0, locals := 0 } : Room)
set_option maxRecDepth 65536 in
set_option maxHeartbeats 40000000 in
theorem rm_dig (l : Launch) (Z : State) (a0 : Array Value) (hw : ∀ d ∈ tables_1, d.before a0 Z = true) (ws : List Jvm.Cond) (r : Int64) (h0 : Heap) (n0 : Nat) (Z0 : n0 ≤ h0.size)  :
    MetFree l mn2 (head1 (Jvm.Cond.code mn2 method_5_code 2 (some .char) :: ws) rr_dig) (PreK Z #[(.long r)] h0) (fun _ _ _ _ _ => True) (PosK (Q_dig Z r h0 n0) rr_dig) := by
  refine startK n0 (L := #[.val (.long r), .second]) (plainFor_of_name pn0) (fun _ => rfl) fun p e s m below meth c s₁ Bd hZ hh hx hby hml hown hnm hlk X0 e0 N0 => ?_
  refine EndsK.go (fun _ kz => XS.bipush X0.here hx rfl (hb hby d58_0) (XS.lloadN X0.here hx rfl (hb hby d58_2) rfl (X0.ldc2J hx hown (mvT hZ (tw hw 331 rfl)) rfl (hb hby d58_3) (XS.lrem X0.here hx rfl (hb hby d58_6) rfl (by decide) (XS.l2i X0.here hx rfl (hb hby d58_7) rfl (XS.iadd X0.here hx rfl (hb hby d58_8) rfl (XS.i2c X0.here hx rfl (hb hby d58_9) rfl kz))))))) ?_
  show EndsK p e below _ (s₁.setTop (mkF m 10 #[.val (.long r), .second] [(.int ((48 : Int32) + (r - r / (10 : Int64) * (10 : Int64)).toInt32).toUInt32.toUInt16.toUInt32.toInt32)]))
  exact endN X0 hx (t := .char) Bd.returns (by simp) (hb hby d58_10) hlk ⟨rfl, N0, e0⟩ (by decide) (by decide)
abbrev B54 := method_4_code
theorem d54_0 : decode B54 0 = .ok (.iconst 1, 1) := by decide +kernel
theorem d54_1 : decode B54 1 = .ok (.iload_n 0, 1) := by decide +kernel
theorem d54_2 : decode B54 2 = .ok (.ifCond .ge 7, 3) := by decide +kernel
theorem d54_5 : decode B54 5 = .ok (.iconst 1, 1) := by decide +kernel
theorem d54_6 : decode B54 6 = .ok (.goto 4, 3) := by decide +kernel
theorem d54_9 : decode B54 9 = .ok (.iconst 0, 1) := by decide +kernel
theorem d54_10 : decode B54 10 = .ok (.iadd, 1) := by decide +kernel
theorem d54_11 : decode B54 11 = .ok (.iload_n 0, 1) := by decide +kernel
theorem d54_12 : decode B54 12 = .ok (.invokestatic 25, 3) := by decide +kernel
theorem d54_15 : decode B54 15 = .ok (.invokestatic 31, 3) := by decide +kernel
theorem d54_18 : decode B54 18 = .ok (.iadd, 1) := by decide +kernel
theorem d54_19 : decode B54 19 = .ok (.ireturn, 1) := by decide +kernel
def Q_segl (Z : State) (v : Int32) (h0 : Heap) (n0 : Nat) (vz : Option Value) (hz : Heap) (Lz : List Loc) : Prop := vz = some (.int (segLenF v)) ∧ Fr n0 Lz ∧ hz = h0
abbrev rr_segl : Room := ({ frames := 1, cells := 0, slots := 0, locals := 14 } : Room)
theorem pd0 : parseMethodDescriptor "(I)J" = some ⟨[.int], some .long⟩ := by decide +kernel
theorem pd1 : parseMethodDescriptor "(J)I" = some ⟨[.long], some .int⟩ := by decide +kernel
set_option maxRecDepth 65536 in
set_option maxHeartbeats 40000000 in
theorem rm_segl (l : Launch) (Z : State) (a0 : Array Value) (hw : ∀ d ∈ tables_1, d.before a0 Z = true) (ws : List Jvm.Cond) (v : Int32) (h0 : Heap) (n0 : Nat) (Z0 : n0 ≤ h0.size)  :
    MetFree l mn3 (head1 (Jvm.Cond.code mn3 method_4_code 1 (some .int) :: ws) rr_segl) (PreK Z #[(.int v)] h0) (fun _ _ _ _ _ => True) (PosK (Q_segl Z v h0 n0) rr_segl) := by
  refine startK n0 (L := #[vi v]) (plainFor_of_name pn0) (fun _ => rfl) fun p e s m below meth c s₁ Bd hZ hh hx hby hml hown hnm hlk X0 e0 N0 => ?_
  refine EndsK.go (fun _ kz => XS.iconst X0.here hx rfl (hb hby d54_0) (XS.iloadN X0.here hx rfl (hb hby d54_1) rfl kz)) ?_
  show EndsK p e below _ (s₁.setTop (mkF m 2 #[vi v] [(.int v), (.int (1 : Int32))]))
  by_cases H2_1 : v < (0 : Int32)
  · refine EndsK.go (fun _ kz => XS.ifNo X0.here hx rfl (hb hby d54_2) rfl ((if0 _ _).trans (tlt H2_1).2.1) (XS.iconst X0.here hx rfl (hb hby d54_5) (XS.goto X0.here hx rfl (pc0 := 6) (pc' := 10) rfl (hb hby d54_6) (by decide) (by decide) (XS.iadd X0.here hx rfl (hb hby d54_10) rfl (XS.iloadN X0.here hx rfl (hb hby d54_11) rfl kz))))) ?_
    obtain ⟨_, T2, Lc2, X2, hQ2, st2⟩ := doneG X0 (Jvm.LawKit.callS X0 hx (y := mn0) hown (mvT hZ (tw hw 325 rfl)) (mvT hZ (tw hw 326 rfl)) (mvT hZ (tw hw 323 rfl)) (mvT hZ (tw hw 327 rfl)) (by decide) (backOf (W := 1) (rm_mag l Z a0 hw [] v h0 n0 Z0) hZ (tw hw 327 rfl) (tw hw 323 rfl) (by decide) (by decide)) (g := (mkF m 12 #[vi v] [(.int v), (.int (2 : Int32))])) rfl (by rw [hml]; rfl) (argsL := [(.int v)]) (rest := [(.int (2 : Int32))]) (lenOf pd0 rfl) rfl (by show 2 * 0 + _ ≤ _; exact Nat.le_of_eq rfl) (hb hby d54_12) (fun _ _ => ⟨rfl, e0, (by decide : 0 + 0 ≤ _), (by decide : 0 + 0 ≤ _)⟩))
    obtain ⟨rfl, N2, e2⟩ := hQ2
    have M2 := Fr.app N0 N2
    refine EndsK.go st2 ?_
    obtain ⟨_, T3, Lc3, X3, hQ3, st3⟩ := doneG X2 (Jvm.LawKit.callS X2 hx (y := mn1) hown (mvT hZ (tw hw 328 rfl)) (mvT hZ (tw hw 329 rfl)) (mvT hZ (tw hw 323 rfl)) (mvT hZ (tw hw 330 rfl)) (by decide) (backOf (W := 1) (rm_ndig l Z a0 hw [] (magF v) h0 n0 Z0) hZ (tw hw 330 rfl) (tw hw 323 rfl) (by decide) (by decide)) (g := (mkF m 15 #[vi v] [(.long (magF v)), (.int (2 : Int32))])) rfl (by rw [hml]; rfl) (argsL := [(.long (magF v))]) (rest := [(.int (2 : Int32))]) (lenOf pd1 rfl) rfl (by show 2 * 0 + _ ≤ _; exact Nat.le_of_eq rfl) (hb hby d54_15) (fun _ _ => ⟨rfl, e2, (by decide : 0 + 0 + 0 ≤ _), (by decide : 0 + 0 + 0 ≤ _)⟩))
    obtain ⟨rfl, N3, e3⟩ := hQ3
    have M3 := Fr.app M2 N3
    refine EndsK.go st3 ?_
    refine EndsK.go (fun _ kz => XS.iadd X3.here hx rfl (hb hby d54_18) rfl kz) ?_
    show EndsK p e below _ (T3.setTop (mkF m 19 #[vi v] [(.int ((2 : Int32) + (ndigF (magF v))))]))
    exact endI X3 hx Bd.returns (hb hby d54_19) hlk ⟨(congrArg (fun z => some z) (by simp [segLenF, H2_1] : (.int (segLenF v) : Value) = (.int ((2 : Int32) + (ndigF (magF v)))))).symm, M3, e3⟩ (by decide) (by decide)
  · refine EndsK.go (fun _ kz => XS.ifYes X0.here hx rfl (pc0 := 2) (pc' := 9) rfl (hb hby d54_2) rfl ((if0 _ _).trans (flt H2_1).2.1) (by decide) (by decide) (XS.iconst X0.here hx rfl (hb hby d54_9) (XS.iadd X0.here hx rfl (hb hby d54_10) rfl (XS.iloadN X0.here hx rfl (hb hby d54_11) rfl kz)))) ?_
    obtain ⟨_, T4, Lc4, X4, hQ4, st4⟩ := doneG X0 (Jvm.LawKit.callS X0 hx (y := mn0) hown (mvT hZ (tw hw 325 rfl)) (mvT hZ (tw hw 326 rfl)) (mvT hZ (tw hw 323 rfl)) (mvT hZ (tw hw 327 rfl)) (by decide) (backOf (W := 1) (rm_mag l Z a0 hw [] v h0 n0 Z0) hZ (tw hw 327 rfl) (tw hw 323 rfl) (by decide) (by decide)) (g := (mkF m 12 #[vi v] [(.int v), (.int (1 : Int32))])) rfl (by rw [hml]; rfl) (argsL := [(.int v)]) (rest := [(.int (1 : Int32))]) (lenOf pd0 rfl) rfl (by show 2 * 0 + _ ≤ _; exact Nat.le_of_eq rfl) (hb hby d54_12) (fun _ _ => ⟨rfl, e0, (by decide : 0 + 0 ≤ _), (by decide : 0 + 0 ≤ _)⟩))
    obtain ⟨rfl, N4, e4⟩ := hQ4
    have M4 := Fr.app N0 N4
    refine EndsK.go st4 ?_
    obtain ⟨_, T5, Lc5, X5, hQ5, st5⟩ := doneG X4 (Jvm.LawKit.callS X4 hx (y := mn1) hown (mvT hZ (tw hw 328 rfl)) (mvT hZ (tw hw 329 rfl)) (mvT hZ (tw hw 323 rfl)) (mvT hZ (tw hw 330 rfl)) (by decide) (backOf (W := 1) (rm_ndig l Z a0 hw [] (magF v) h0 n0 Z0) hZ (tw hw 330 rfl) (tw hw 323 rfl) (by decide) (by decide)) (g := (mkF m 15 #[vi v] [(.long (magF v)), (.int (1 : Int32))])) rfl (by rw [hml]; rfl) (argsL := [(.long (magF v))]) (rest := [(.int (1 : Int32))]) (lenOf pd1 rfl) rfl (by show 2 * 0 + _ ≤ _; exact Nat.le_of_eq rfl) (hb hby d54_15) (fun _ _ => ⟨rfl, e4, (by decide : 0 + 0 + 0 ≤ _), (by decide : 0 + 0 + 0 ≤ _)⟩))
    obtain ⟨rfl, N5, e5⟩ := hQ5
    have M5 := Fr.app M4 N5
    refine EndsK.go st5 ?_
    refine EndsK.go (fun _ kz => XS.iadd X5.here hx rfl (hb hby d54_18) rfl kz) ?_
    show EndsK p e below _ (T5.setTop (mkF m 19 #[vi v] [(.int ((1 : Int32) + (ndigF (magF v))))]))
    exact endI X5 hx Bd.returns (hb hby d54_19) hlk ⟨(congrArg (fun z => some z) (by simp [segLenF, H2_1] : (.int (segLenF v) : Value) = (.int ((1 : Int32) + (ndigF (magF v)))))).symm, M5, e5⟩ (by decide) (by decide)
abbrev B30 := jdk_29_method_69_code
theorem d30_0 : decode B30 0 = .ok (.iload_n 0, 1) := by decide +kernel
theorem d30_1 : decode B30 1 = .ok (.iload_n 1, 1) := by decide +kernel
theorem d30_2 : decode B30 2 = .ok (.if_icmp .gt 7, 3) := by decide +kernel
theorem d30_5 : decode B30 5 = .ok (.iload_n 0, 1) := by decide +kernel
theorem d30_6 : decode B30 6 = .ok (.goto 4, 3) := by decide +kernel
theorem d30_9 : decode B30 9 = .ok (.iload_n 1, 1) := by decide +kernel
theorem d30_10 : decode B30 10 = .ok (.ireturn, 1) := by decide +kernel
def Q_min (Z : State) (a : Int32) (b : Int32) (h0 : Heap) (n0 : Nat) (vz : Option Value) (hz : Heap) (Lz : List Loc) : Prop := vz = some (.int (minF a b)) ∧ Fr n0 Lz ∧ hz = h0
abbrev rr_min : Room := ({ frames := 0, cells := 0, slots := 0, locals := 0 } : Room)
set_option maxRecDepth 65536 in
set_option maxHeartbeats 40000000 in
theorem rm_min (l : Launch) (Z : State) (a0 : Array Value) (hw : ∀ d ∈ tables_1, d.before a0 Z = true) (ws : List Jvm.Cond) (a : Int32) (b : Int32) (h0 : Heap) (n0 : Nat) (Z0 : n0 ≤ h0.size)  :
    MetFree l mn4 (head1 (Jvm.Cond.code mn4 jdk_29_method_69_code 2 (some .int) :: ws) rr_min) (PreK Z #[(.int a), (.int b)] h0) (fun _ _ _ _ _ => True) (PosK (Q_min Z a b h0 n0) rr_min) := by
  refine startK n0 (L := #[vi a, vi b]) (Jvm.Free.JP.mathPlain rfl (by decide)) (fun _ => rfl) fun p e s m below meth c s₁ Bd hZ hh hx hby hml hown hnm hlk X0 e0 N0 => ?_
  refine EndsK.go (fun _ kz => XS.iloadN X0.here hx rfl (hb hby d30_0) rfl (XS.iloadN X0.here hx rfl (hb hby d30_1) rfl kz)) ?_
  show EndsK p e below _ (s₁.setTop (mkF m 2 #[vi a, vi b] [(.int b), (.int a)]))
  by_cases H2_1 : b < a
  · refine EndsK.go (fun _ kz => XS.icmpYes X0.here hx rfl (pc0 := 2) (pc' := 9) rfl (hb hby d30_2) rfl (tlt H2_1).2.2.1 (by decide) (by decide) (XS.iloadN X0.here hx rfl (hb hby d30_9) rfl kz)) ?_
    show EndsK p e below _ (s₁.setTop (mkF m 10 #[vi a, vi b] [(.int b)]))
    exact endI X0 hx Bd.returns (hb hby d30_10) hlk ⟨(congrArg (fun z => some z) (by simp [minF, H2_1] : (.int (minF a b) : Value) = (.int b))).symm, N0, e0⟩ (by decide) (by decide)
  · refine EndsK.go (fun _ kz => XS.icmpNo X0.here hx rfl (hb hby d30_2) rfl (flt H2_1).2.2.1 (XS.iloadN X0.here hx rfl (hb hby d30_5) rfl (XS.goto X0.here hx rfl (pc0 := 6) (pc' := 10) rfl (hb hby d30_6) (by decide) (by decide) kz))) ?_
    show EndsK p e below _ (s₁.setTop (mkF m 10 #[vi a, vi b] [(.int a)]))
    exact endI X0 hx Bd.returns (hb hby d30_10) hlk ⟨(congrArg (fun z => some z) (by simp [minF, H2_1] : (.int (minF a b) : Value) = (.int a))).symm, N0, e0⟩ (by decide) (by decide)
abbrev B43 := jdk_29_method_65_code
theorem d43_0 : decode B43 0 = .ok (.iload_n 0, 1) := by decide +kernel
theorem d43_1 : decode B43 1 = .ok (.iload_n 1, 1) := by decide +kernel
theorem d43_2 : decode B43 2 = .ok (.if_icmp .lt 7, 3) := by decide +kernel
theorem d43_5 : decode B43 5 = .ok (.iload_n 0, 1) := by decide +kernel
theorem d43_6 : decode B43 6 = .ok (.goto 4, 3) := by decide +kernel
theorem d43_9 : decode B43 9 = .ok (.iload_n 1, 1) := by decide +kernel
theorem d43_10 : decode B43 10 = .ok (.ireturn, 1) := by decide +kernel
def Q_max (Z : State) (a : Int32) (b : Int32) (h0 : Heap) (n0 : Nat) (vz : Option Value) (hz : Heap) (Lz : List Loc) : Prop := vz = some (.int (maxF a b)) ∧ Fr n0 Lz ∧ hz = h0
abbrev rr_max : Room := ({ frames := 0, cells := 0, slots := 0, locals := 0 } : Room)
set_option maxRecDepth 65536 in
set_option maxHeartbeats 40000000 in
theorem rm_max (l : Launch) (Z : State) (a0 : Array Value) (hw : ∀ d ∈ tables_1, d.before a0 Z = true) (ws : List Jvm.Cond) (a : Int32) (b : Int32) (h0 : Heap) (n0 : Nat) (Z0 : n0 ≤ h0.size)  :
    MetFree l mn5 (head1 (Jvm.Cond.code mn5 jdk_29_method_65_code 2 (some .int) :: ws) rr_max) (PreK Z #[(.int a), (.int b)] h0) (fun _ _ _ _ _ => True) (PosK (Q_max Z a b h0 n0) rr_max) := by
  refine startK n0 (L := #[vi a, vi b]) (Jvm.Free.JP.mathPlain rfl (by decide)) (fun _ => rfl) fun p e s m below meth c s₁ Bd hZ hh hx hby hml hown hnm hlk X0 e0 N0 => ?_
  refine EndsK.go (fun _ kz => XS.iloadN X0.here hx rfl (hb hby d43_0) rfl (XS.iloadN X0.here hx rfl (hb hby d43_1) rfl kz)) ?_
  show EndsK p e below _ (s₁.setTop (mkF m 2 #[vi a, vi b] [(.int b), (.int a)]))
  by_cases H2_1 : a < b
  · refine EndsK.go (fun _ kz => XS.icmpYes X0.here hx rfl (pc0 := 2) (pc' := 9) rfl (hb hby d43_2) rfl (tlt H2_1).1 (by decide) (by decide) (XS.iloadN X0.here hx rfl (hb hby d43_9) rfl kz)) ?_
    show EndsK p e below _ (s₁.setTop (mkF m 10 #[vi a, vi b] [(.int b)]))
    exact endI X0 hx Bd.returns (hb hby d43_10) hlk ⟨(congrArg (fun z => some z) (by simp [maxF, H2_1] : (.int (maxF a b) : Value) = (.int b))).symm, N0, e0⟩ (by decide) (by decide)
  · refine EndsK.go (fun _ kz => XS.icmpNo X0.here hx rfl (hb hby d43_2) rfl (flt H2_1).1 (XS.iloadN X0.here hx rfl (hb hby d43_5) rfl (XS.goto X0.here hx rfl (pc0 := 6) (pc' := 10) rfl (hb hby d43_6) (by decide) (by decide) kz))) ?_
    show EndsK p e below _ (s₁.setTop (mkF m 10 #[vi a, vi b] [(.int a)]))
    exact endI X0 hx Bd.returns (hb hby d43_10) hlk ⟨(congrArg (fun z => some z) (by simp [maxF, H2_1] : (.int (maxF a b) : Value) = (.int a))).symm, N0, e0⟩ (by decide) (by decide)
abbrev B9 := jdk_42_method_152_code
theorem d9_0 : decode B9 0 = .ok (.getstatic 38, 3) := by decide +kernel
theorem d9_3 : decode B9 3 = .ok (.ifCond .eq 10, 3) := by decide +kernel
theorem d9_6 : decode B9 6 = .ok (.aload_n 0, 1) := by decide +kernel
theorem d9_7 : decode B9 7 = .ok (.getfield 15, 3) := by decide +kernel
theorem d9_10 : decode B9 10 = .ok (.goto 4, 3) := by decide +kernel
theorem d9_14 : decode B9 14 = .ok (.ireturn, 1) := by decide +kernel
theorem pn1 : plainName "java/lang/String" = true := by first | (simp [plainName, overriddenIn]; done) | decide +kernel
def Q_coder (Z : State) (x : Addr) (zc : Int32) (h0 : Heap) (n0 : Nat) (vz : Option Value) (hz : Heap) (Lz : List Loc) : Prop := vz = some (.int 0) ∧ Fr n0 Lz ∧ hz = h0
abbrev rr_coder : Room := ({ frames := 0, cells := 0, slots := 0, locals := 0 } : Room)
set_option maxRecDepth 65536 in
set_option maxHeartbeats 40000000 in
theorem rm_coder (l : Launch) (Z : State) (a0 : Array Value) (hw : ∀ d ∈ tables_1, d.before a0 Z = true) (ws : List Jvm.Cond) (x : Addr) (zc : Int32) (h0 : Heap) (n0 : Nat) (Z0 : n0 ≤ h0.size) (SC : Sta Z h0 "java/lang/String" "COMPACT_STRINGS" "Z" (.int zc)) (hzc : ¬ (zc = (0 : Int32))) (Fc : Fld Z h0 x "java/lang/String" "coder" "B" (.int (0 : Int32))) :
    MetFree l mn6 (head1 (Jvm.Cond.code mn6 jdk_42_method_152_code 1 (some .byte) :: ws) rr_coder) (PreK Z #[(.ref x)] h0) (fun _ _ _ _ _ => True) (PosK (Q_coder Z x zc h0 n0) rr_coder) := by
  refine startK n0 (L := #[vr x]) (plainFor_of_name pn1) (fun _ => rfl) fun p e s m below meth c s₁ Bd hZ hh hx hby hml hown hnm hlk X0 e0 N0 => ?_
  obtain ⟨T1, X1, e1, st1⟩ := getS2 X0 hx hZ hown (host := "") (Or.inl (tw hw 62 rfl)) Via.refl e0 SC (g := (mkF m 0 #[vr x] [])) rfl (hb hby d9_0)
  refine EndsK.go st1 ?_
  refine EndsK.go (fun _ kz => XS.ifNo X1.here hx rfl (hb hby d9_3) rfl ((if0 _ _).trans (feq hzc).1) (XS.aloadN X1.here hx rfl (hb hby d9_6) rfl rfl kz)) ?_
  obtain ⟨T2, X2, e2, st2⟩ := getF X1 hx hZ hown (host := "") (Or.inl (tw hw 63 rfl)) Via.refl e1 Fc (g := (mkF m 7 #[vr x] [(.ref x)])) rfl rfl (hb hby d9_7)
  refine EndsK.go st2 ?_
  refine EndsK.go (fun _ kz => XS.goto X2.here hx rfl (pc0 := 10) (pc' := 14) rfl (hb hby d9_10) (by decide) (by decide) kz) ?_
  show EndsK p e below _ (T2.setTop (mkF m 14 #[vr x] [(.int (0 : Int32))]))
  exact endN X2 hx (t := .byte) Bd.returns (by simp) (hb hby d9_14) hlk ⟨rfl, N0, e2⟩ (by decide) (by decide)
abbrev B26 := jdk_68_method_68_code
theorem d26_0 : decode B26 0 = .ok (.getstatic 18, 3) := by decide +kernel
theorem d26_3 : decode B26 3 = .ok (.ifCond .eq 14, 3) := by decide +kernel
theorem d26_6 : decode B26 6 = .ok (.aload_n 0, 1) := by decide +kernel
theorem d26_7 : decode B26 7 = .ok (.getfield 22, 3) := by decide +kernel
theorem d26_10 : decode B26 10 = .ok (.ifCond .ne 7, 3) := by decide +kernel
theorem d26_13 : decode B26 13 = .ok (.iconst 1, 1) := by decide +kernel
theorem d26_14 : decode B26 14 = .ok (.goto 4, 3) := by decide +kernel
theorem d26_18 : decode B26 18 = .ok (.ireturn, 1) := by decide +kernel
theorem pn2 : plainName "java/lang/AbstractStringBuilder" = true := by first | (simp [plainName, overriddenIn]; done) | decide +kernel
def Q_isl (Z : State) (x : Addr) (zc : Int32) (h0 : Heap) (n0 : Nat) (vz : Option Value) (hz : Heap) (Lz : List Loc) : Prop := vz = some (.int 1) ∧ Fr n0 Lz ∧ hz = h0
abbrev rr_isl : Room := ({ frames := 0, cells := 0, slots := 0, locals := 0 } : Room)
set_option maxRecDepth 65536 in
set_option maxHeartbeats 40000000 in
theorem rm_isl (l : Launch) (Z : State) (a0 : Array Value) (hw : ∀ d ∈ tables_1, d.before a0 Z = true) (ws : List Jvm.Cond) (x : Addr) (zc : Int32) (h0 : Heap) (n0 : Nat) (Z0 : n0 ≤ h0.size) (SC : Sta Z h0 "java/lang/String" "COMPACT_STRINGS" "Z" (.int zc)) (hzc : ¬ (zc = (0 : Int32))) (Fc : Fld Z h0 x "java/lang/AbstractStringBuilder" "coder" "B" (.int (0 : Int32))) :
    MetFree l mn7 (head1 (Jvm.Cond.code mn7 jdk_68_method_68_code 1 (some .boolean) :: ws) rr_isl) (PreK Z #[(.ref x)] h0) (fun _ _ _ _ _ => True) (PosK (Q_isl Z x zc h0 n0) rr_isl) := by
  refine startK n0 (L := #[vr x]) (plainFor_of_name pn2) (fun _ => rfl) fun p e s m below meth c s₁ Bd hZ hh hx hby hml hown hnm hlk X0 e0 N0 => ?_
  obtain ⟨T1, X1, e1, st1⟩ := getS2 X0 hx hZ hown (host := "") (Or.inl (tw hw 101 rfl)) Via.refl e0 SC (g := (mkF m 0 #[vr x] [])) rfl (hb hby d26_0)
  refine EndsK.go st1 ?_
  refine EndsK.go (fun _ kz => XS.ifNo X1.here hx rfl (hb hby d26_3) rfl ((if0 _ _).trans (feq hzc).1) (XS.aloadN X1.here hx rfl (hb hby d26_6) rfl rfl kz)) ?_
  obtain ⟨T2, X2, e2, st2⟩ := getF X1 hx hZ hown (host := "") (Or.inl (tw hw 66 rfl)) Via.refl e1 Fc (g := (mkF m 7 #[vr x] [(.ref x)])) rfl rfl (hb hby d26_7)
  refine EndsK.go st2 ?_
  refine EndsK.go (fun _ kz => XS.ifNo X2.here hx rfl (hb hby d26_10) rfl ((if0 _ _).trans (teq (rfl : (0 : Int32) = (0 : Int32))).2) (XS.iconst X2.here hx rfl (hb hby d26_13) (XS.goto X2.here hx rfl (pc0 := 14) (pc' := 18) rfl (hb hby d26_14) (by decide) (by decide) kz))) ?_
  show EndsK p e below _ (T2.setTop (mkF m 18 #[vr x] [(.int (1 : Int32))]))
  exact endN X2 hx (t := .boolean) Bd.returns (by simp) (hb hby d26_18) hlk ⟨rfl, N0, e2⟩ (by decide) (by decide)
abbrev B49 := jdk_43_method_3_code
theorem d49_0 : decode B49 0 = .ok (.iload_n 0, 1) := by decide +kernel
theorem d49_1 : decode B49 1 = .ok (.sipush 255, 3) := by decide +kernel
theorem d49_4 : decode B49 4 = .ok (.if_icmp .gt 7, 3) := by decide +kernel
theorem d49_7 : decode B49 7 = .ok (.iconst 1, 1) := by decide +kernel
theorem d49_8 : decode B49 8 = .ok (.goto 4, 3) := by decide +kernel
theorem d49_12 : decode B49 12 = .ok (.ireturn, 1) := by decide +kernel
theorem pn3 : plainName "java/lang/StringLatin1" = true := by first | (simp [plainName, overriddenIn]; done) | decide +kernel
def Q_canE (Z : State) (ch : Int32) (h0 : Heap) (n0 : Nat) (vz : Option Value) (hz : Heap) (Lz : List Loc) : Prop := vz = some (.int 1) ∧ Fr n0 Lz ∧ hz = h0
abbrev rr_canE : Room := ({ frames := 0, cells := 0, slots := 0, locals := 0 } : Room)
set_option maxRecDepth 65536 in
set_option maxHeartbeats 40000000 in
theorem rm_canE (l : Launch) (Z : State) (a0 : Array Value) (hw : ∀ d ∈ tables_1, d.before a0 Z = true) (ws : List Jvm.Cond) (ch : Int32) (h0 : Heap) (n0 : Nat) (Z0 : n0 ≤ h0.size) (hc : ¬ (255 : Int32) < ch) :
    MetFree l mn8 (head1 (Jvm.Cond.code mn8 jdk_43_method_3_code 1 (some .boolean) :: ws) rr_canE) (PreK Z #[(.int ch)] h0) (fun _ _ _ _ _ => True) (PosK (Q_canE Z ch h0 n0) rr_canE) := by
  refine startK n0 (L := #[vi ch]) (plainFor_of_name pn3) (fun _ => rfl) fun p e s m below meth c s₁ Bd hZ hh hx hby hml hown hnm hlk X0 e0 N0 => ?_
  refine EndsK.go (fun _ kz => XS.iloadN X0.here hx rfl (hb hby d49_0) rfl (XS.sipush X0.here hx rfl (hb hby d49_1) (XS.icmpNo X0.here hx rfl (hb hby d49_4) rfl (flt hc).2.2.1 (XS.iconst X0.here hx rfl (hb hby d49_7) (XS.goto X0.here hx rfl (pc0 := 8) (pc' := 12) rfl (hb hby d49_8) (by decide) (by decide) kz))))) ?_
  show EndsK p e below _ (s₁.setTop (mkF m 12 #[vi ch] [(.int (1 : Int32))]))
  exact endN X0 hx (t := .boolean) Bd.returns (by simp) (hb hby d49_12) hlk ⟨rfl, N0, e0⟩ (by decide) (by decide)
abbrev B8 := jdk_42_method_54_code
theorem d8_0 : decode B8 0 = .ok (.aload_n 0, 1) := by decide +kernel
theorem d8_1 : decode B8 1 = .ok (.getfield 9, 3) := by decide +kernel
theorem d8_4 : decode B8 4 = .ok (.arraylength, 1) := by decide +kernel
theorem d8_5 : decode B8 5 = .ok (.aload_n 0, 1) := by decide +kernel
theorem d8_6 : decode B8 6 = .ok (.invokevirtual 335, 3) := by decide +kernel
theorem d8_9 : decode B8 9 = .ok (.ishr, 1) := by decide +kernel
theorem d8_10 : decode B8 10 = .ok (.ireturn, 1) := by decide +kernel
def Q_slen (Z : State) (x : Addr) (zc : Int32) (t : Addr) (ct : Cell) (k : Int32) (h0 : Heap) (n0 : Nat) (vz : Option Value) (hz : Heap) (Lz : List Loc) : Prop := vz = some (.int k) ∧ Fr n0 Lz ∧ hz = h0
abbrev rr_slen : Room := ({ frames := 1, cells := 0, slots := 0, locals := 14 } : Room)
theorem pd2 : parseMethodDescriptor "()B" = some ⟨[], some .byte⟩ := by decide +kernel
set_option maxRecDepth 65536 in
set_option maxHeartbeats 40000000 in
theorem rm_slen (l : Launch) (Z : State) (a0 : Array Value) (hw : ∀ d ∈ tables_1, d.before a0 Z = true) (ws : List Jvm.Cond) (x : Addr) (zc : Int32) (t : Addr) (ct : Cell) (k : Int32) (h0 : Heap) (n0 : Nat) (Z0 : n0 ≤ h0.size) (SC : Sta Z h0 "java/lang/String" "COMPACT_STRINGS" "Z" (.int zc)) (hzc : ¬ (zc = (0 : Int32))) (Ex : Exa Z h0 x "java/lang/String") (Fc : Fld Z h0 x "java/lang/String" "coder" "B" (.int (0 : Int32))) (Fv : Fld Z h0 x "java/lang/String" "value" "[B" (.ref t)) (At : Arr Z h0 t ct .byte) (zt : ct.slots.size.toInt32 = k) :
    MetFree l mn9 (head1 (Jvm.Cond.code mn9 jdk_42_method_54_code 1 (some .int) :: ws) rr_slen) (PreK Z #[(.ref x)] h0) (fun _ _ _ _ _ => True) (PosK (Q_slen Z x zc t ct k h0 n0) rr_slen) := by
  refine startK n0 (L := #[vr x]) (plainFor_of_name pn1) (fun _ => rfl) fun p e s m below meth c s₁ Bd hZ hh hx hby hml hown hnm hlk X0 e0 N0 => ?_
  refine EndsK.go (fun _ kz => XS.aloadN X0.here hx rfl (hb hby d8_0) rfl rfl kz) ?_
  obtain ⟨T1, X1, e1, st1⟩ := getF X0 hx hZ hown (host := "") (Or.inl (tw hw 56 rfl)) Via.refl e0 Fv (g := (mkF m 1 #[vr x] [(.ref x)])) rfl rfl (hb hby d8_1)
  refine EndsK.go st1 ?_
  refine EndsK.go (fun tz kz => X1.arraylength hx (by rw [e1]; exact At.1) (State.isArrayOf_alike hZ.alike At.2.1) (g := (mkF m 4 #[vr x] [(.ref t)])) rfl rfl (hb hby d8_4) tz kz) ?_
  rw [zt]
  refine EndsK.go (fun _ kz => XS.aloadN X1.here hx rfl (hb hby d8_5) rfl rfl kz) ?_
  obtain ⟨cq2, kq2, qa2, qb2, qc2⟩ := isOf hZ e1 Ex
  obtain ⟨_, T2, Lc2, X2, hQ2, st2⟩ := doneT X1 (X1.virtualBack hx (y := mn6) (z := mn6) hown (mvT hZ (tw hw 57 rfl)) (mvT hZ (tw hw 58 rfl)) (notFace_of_selects (args := #[]) (mvT hZ (tw hw 60 rfl))) (mvT hZ (tw hw 60 rfl)) (mvT hZ (tw hw 59 rfl)) (by decide) (backOf (W := 1) (rm_coder l Z a0 hw [] x zc h0 n0 Z0 SC hzc Fc) hZ (tw hw 61 rfl) (tw hw 34 rfl) (by decide) (by decide)) qa2 qc2 (g := (mkF m 6 #[vr x] [(.ref x), (.int k)])) rfl (by rw [hml]; rfl) (Steps.refl _) (argsL := []) (rest := [(.int k)]) (lenOf pd2 rfl) rfl (by show 2 * 0 + _ ≤ _; exact Nat.le_of_eq rfl) (hb hby d8_6) (fun _ _ => ⟨rfl, e1, (by decide : 0 + 0 ≤ _), (by decide : 0 + 0 ≤ _)⟩))
  obtain ⟨rfl, N2, e2⟩ := hQ2
  have M2 := Fr.app N0 N2
  refine EndsK.tr st2 ?_
  refine EndsK.go (fun _ kz => XS.ishr X2.here hx rfl (hb hby d8_9) rfl kz) ?_
  show EndsK p e below _ (T2.setTop (mkF m 10 #[vr x] [(.int (k >>> ((0 : Int32) &&& 31)))]))
  exact endI X2 hx Bd.returns (hb hby d8_10) hlk ⟨(congrArg (fun z => some (Value.int z)) (by simp : k = (k >>> ((0 : Int32) &&& 31)))).symm, M2, e2⟩ (by decide) (by decide)
abbrev B60 := jdk_48_method_27_code
theorem d60_0 : decode B60 0 = .ok (.iload_n 0, 1) := by decide +kernel
theorem d60_1 : decode B60 1 = .ok (.iload_n 1, 1) := by decide +kernel
theorem d60_2 : decode B60 2 = .ok (.iload_n 2, 1) := by decide +kernel
theorem d60_3 : decode B60 3 = .ok (.invokestatic 194, 3) := by decide +kernel
theorem d60_6 : decode B60 6 = .ok (.iadd, 1) := by decide +kernel
theorem d60_7 : decode B60 7 = .ok (.istore_n 3, 1) := by decide +kernel
theorem d60_8 : decode B60 8 = .ok (.iconst 0, 1) := by decide +kernel
theorem d60_9 : decode B60 9 = .ok (.iload_n 3, 1) := by decide +kernel
theorem d60_10 : decode B60 10 = .ok (.if_icmp .ge 11, 3) := by decide +kernel
theorem d60_13 : decode B60 13 = .ok (.iload_n 3, 1) := by decide +kernel
theorem d60_14 : decode B60 14 = .ok (.ldc 200, 2) := by decide +kernel
theorem d60_16 : decode B60 16 = .ok (.if_icmp .gt 5, 3) := by decide +kernel
theorem d60_19 : decode B60 19 = .ok (.iload_n 3, 1) := by decide +kernel
theorem d60_20 : decode B60 20 = .ok (.ireturn, 1) := by decide +kernel
theorem pn4 : plainName "jdk/internal/util/ArraysSupport" = true := by first | (simp [plainName, overriddenIn]; done) | decide +kernel
def Q_nl (Z : State) (a : Int32) (b : Int32) (d : Int32) (h0 : Heap) (n0 : Nat) (vz : Option Value) (hz : Heap) (Lz : List Loc) : Prop := vz = some (.int (a + maxF b d)) ∧ Fr n0 Lz ∧ hz = h0
abbrev rr_nl : Room := ({ frames := 1, cells := 0, slots := 0, locals := 14 } : Room)
theorem pd3 : parseMethodDescriptor "(II)I" = some ⟨[.int, .int], some .int⟩ := by decide +kernel
set_option maxRecDepth 65536 in
set_option maxHeartbeats 40000000 in
theorem rm_nl (l : Launch) (Z : State) (a0 : Array Value) (hw : ∀ d ∈ tables_1, d.before a0 Z = true) (ws : List Jvm.Cond) (a : Int32) (b : Int32) (d : Int32) (h0 : Heap) (n0 : Nat) (Z0 : n0 ≤ h0.size) (h1 : (0 : Int32) < (a + (maxF b d))) (h2 : ¬ (2147483639 : Int32) < (a + (maxF b d))) :
    MetFree l mn10 (head1 (Jvm.Cond.code mn10 jdk_48_method_27_code 4 (some .int) :: ws) rr_nl) (PreK Z #[(.int a), (.int b), (.int d)] h0) (fun _ _ _ _ _ => True) (PosK (Q_nl Z a b d h0 n0) rr_nl) := by
  refine startK n0 (L := #[vi a, vi b, vi d, .unset]) (plainFor_of_name pn4) (fun _ => rfl) fun p e s m below meth c s₁ Bd hZ hh hx hby hml hown hnm hlk X0 e0 N0 => ?_
  refine EndsK.go (fun _ kz => XS.iloadN X0.here hx rfl (hb hby d60_0) rfl (XS.iloadN X0.here hx rfl (hb hby d60_1) rfl (XS.iloadN X0.here hx rfl (hb hby d60_2) rfl kz))) ?_
  obtain ⟨_, T1, Lc1, X1, hQ1, st1⟩ := doneG X0 (Jvm.LawKit.callS X0 hx (y := mn5) hown (mvT hZ (tw hw 349 rfl)) (mvT hZ (tw hw 266 rfl)) (mvT hZ (tw hw 193 rfl)) (mvT hZ (tw hw 267 rfl)) (by decide) (backOf (W := 1) (rm_max l Z a0 hw [] b d h0 n0 Z0) hZ (tw hw 267 rfl) (tw hw 193 rfl) (by decide) (by decide)) (g := (mkF m 3 #[vi a, vi b, vi d, .unset] [(.int d), (.int b), (.int a)])) rfl (by rw [hml]; rfl) (argsL := [(.int b), (.int d)]) (rest := [(.int a)]) (lenOf pd3 rfl) rfl (by show 2 * 0 + _ ≤ _; exact Nat.le_of_eq rfl) (hb hby d60_3) (fun _ _ => ⟨rfl, e0, (by decide : 0 + 0 ≤ _), (by decide : 0 + 0 ≤ _)⟩))
  obtain ⟨rfl, N1, e1⟩ := hQ1
  have M1 := Fr.app N0 N1
  refine EndsK.go st1 ?_
  refine EndsK.go (fun _ kz => XS.iadd X1.here hx rfl (hb hby d60_6) rfl (XS.istoreN X1.here hx rfl (hb hby d60_7) rfl (l' := #[vi a, vi b, vi d, vi (a + (maxF b d))]) rfl (XS.iconst X1.here hx rfl (hb hby d60_8) (XS.iloadN X1.here hx rfl (hb hby d60_9) rfl (XS.icmpNo X1.here hx rfl (hb hby d60_10) rfl (tlt h1).2.1 (XS.iloadN X1.here hx rfl (hb hby d60_13) rfl (X1.ldcI hx hown (mvT hZ (tw hw 350 rfl)) rfl (hb hby d60_14) kz))))))) ?_
  show EndsK p e below _ (T1.setTop (mkF m 16 #[vi a, vi b, vi d, vi (a + (maxF b d))] [(.int (2147483639 : Int32)), (.int (a + (maxF b d)))]))
  refine EndsK.go (fun _ kz => XS.icmpNo X1.here hx rfl (hb hby d60_16) rfl (flt h2).2.2.1 (XS.iloadN X1.here hx rfl (hb hby d60_19) rfl kz)) ?_
  show EndsK p e below _ (T1.setTop (mkF m 20 #[vi a, vi b, vi d, vi (a + (maxF b d))] [(.int (a + (maxF b d)))]))
  exact endI X1 hx Bd.returns (hb hby d60_20) hlk ⟨rfl, M1, e1⟩ (by decide) (by decide)
def ssF (x d : Int32) : Int32 := if (-10 : Int32) < x then 1 + d else if (-100 : Int32) < x then 2 + d else if (-1000 : Int32) < x then 3 + d else if (-10000 : Int32) < x then 4 + d else if (-100000 : Int32) < x then 5 + d else if (-1000000 : Int32) < x then 6 + d else if (-10000000 : Int32) < x then 7 + d else if (-100000000 : Int32) < x then 8 + d else if (-1000000000 : Int32) < x then 9 + d else 10 + d
def ssizeF (v : Int32) : Int32 := if v < 0 then ssF v 1 else ssF (-v) 0
abbrev B52 := jdk_33_method_13_code
theorem d52_0 : decode B52 0 = .ok (.iconst 1, 1) := by decide +kernel
theorem d52_1 : decode B52 1 = .ok (.istore_n 1, 1) := by decide +kernel
theorem d52_2 : decode B52 2 = .ok (.iload_n 0, 1) := by decide +kernel
theorem d52_3 : decode B52 3 = .ok (.ifCond .lt 8, 3) := by decide +kernel
theorem d52_6 : decode B52 6 = .ok (.iconst 0, 1) := by decide +kernel
theorem d52_7 : decode B52 7 = .ok (.istore_n 1, 1) := by decide +kernel
theorem d52_8 : decode B52 8 = .ok (.iload_n 0, 1) := by decide +kernel
theorem d52_9 : decode B52 9 = .ok (.ineg, 1) := by decide +kernel
theorem d52_10 : decode B52 10 = .ok (.istore_n 0, 1) := by decide +kernel
theorem d52_11 : decode B52 11 = .ok (.bipush (-10), 2) := by decide +kernel
theorem d52_13 : decode B52 13 = .ok (.istore_n 2, 1) := by decide +kernel
theorem d52_14 : decode B52 14 = .ok (.iconst 1, 1) := by decide +kernel
theorem d52_15 : decode B52 15 = .ok (.istore_n 3, 1) := by decide +kernel
theorem d52_16 : decode B52 16 = .ok (.iload_n 3, 1) := by decide +kernel
theorem d52_17 : decode B52 17 = .ok (.bipush 10, 2) := by decide +kernel
theorem d52_19 : decode B52 19 = .ok (.if_icmp .ge 23, 3) := by decide +kernel
theorem d52_22 : decode B52 22 = .ok (.iload_n 0, 1) := by decide +kernel
theorem d52_23 : decode B52 23 = .ok (.iload_n 2, 1) := by decide +kernel
theorem d52_24 : decode B52 24 = .ok (.if_icmp .le 7, 3) := by decide +kernel
theorem d52_27 : decode B52 27 = .ok (.iload_n 3, 1) := by decide +kernel
theorem d52_28 : decode B52 28 = .ok (.iload_n 1, 1) := by decide +kernel
theorem d52_29 : decode B52 29 = .ok (.iadd, 1) := by decide +kernel
theorem d52_30 : decode B52 30 = .ok (.ireturn, 1) := by decide +kernel
theorem d52_31 : decode B52 31 = .ok (.bipush 10, 2) := by decide +kernel
theorem d52_33 : decode B52 33 = .ok (.iload_n 2, 1) := by decide +kernel
theorem d52_34 : decode B52 34 = .ok (.imul, 1) := by decide +kernel
theorem d52_35 : decode B52 35 = .ok (.istore_n 2, 1) := by decide +kernel
theorem d52_36 : decode B52 36 = .ok (.iinc 3 1, 3) := by decide +kernel
theorem d52_39 : decode B52 39 = .ok (.goto (-23), 3) := by decide +kernel
theorem d52_42 : decode B52 42 = .ok (.bipush 10, 2) := by decide +kernel
theorem d52_44 : decode B52 44 = .ok (.iload_n 1, 1) := by decide +kernel
theorem d52_45 : decode B52 45 = .ok (.iadd, 1) := by decide +kernel
theorem d52_46 : decode B52 46 = .ok (.ireturn, 1) := by decide +kernel
theorem pn5 : plainName "java/lang/Integer" = true := by first | (simp [plainName, overriddenIn]; done) | decide +kernel
def Q_ssz (Z : State) (v : Int32) (h0 : Heap) (n0 : Nat) (vz : Option Value) (hz : Heap) (Lz : List Loc) : Prop := vz = some (.int (ssizeF v)) ∧ Fr n0 Lz ∧ hz = h0
abbrev rr_ssz : Room := ({ frames := 0, cells := 0, slots := 0, locals := 0 } : Room)
set_option maxRecDepth 65536 in
set_option maxHeartbeats 40000000 in
theorem rm_ssz (l : Launch) (Z : State) (a0 : Array Value) (hw : ∀ d ∈ tables_1, d.before a0 Z = true) (ws : List Jvm.Cond) (v : Int32) (h0 : Heap) (n0 : Nat) (Z0 : n0 ≤ h0.size)  :
    MetFree l mn11 (head1 (Jvm.Cond.code mn11 jdk_33_method_13_code 4 (some .int) :: ws) rr_ssz) (PreK Z #[(.int v)] h0) (fun _ _ _ _ _ => True) (PosK (Q_ssz Z v h0 n0) rr_ssz) := by
  refine startK n0 (L := #[vi v, .unset, .unset, .unset]) (plainFor_of_name pn5) (fun _ => rfl) fun p e s m below meth c s₁ Bd hZ hh hx hby hml hown hnm hlk X0 e0 N0 => ?_
  have J11 : ∀ (x dd : Int32), ssizeF v = ssF x dd → EndsK p e below (OQ s (Q_ssz Z v h0 n0) (({ frames := 0, cells := 0, slots := 0, locals := 0 } : Room)).cells (({ frames := 0, cells := 0, slots := 0, locals := 0 } : Room)).slots) (s₁.setTop (mkF m 11 #[vi x, vi dd, .unset, .unset] [])) := by
    intro x dd hxd
    refine EndsK.go (fun _ kz => XS.bipush X0.here hx rfl (hb hby d52_11) (XS.istoreN X0.here hx rfl (hb hby d52_13) rfl (l' := #[vi x, vi dd, vi (-10 : Int32), .unset]) rfl (XS.iconst X0.here hx rfl (hb hby d52_14) (XS.istoreN X0.here hx rfl (hb hby d52_15) rfl (l' := #[vi x, vi dd, vi (-10 : Int32), vi (1 : Int32)]) rfl (XS.iloadN X0.here hx rfl (hb hby d52_16) rfl (XS.bipush X0.here hx rfl (hb hby d52_17) (XS.icmpNo X0.here hx rfl (hb hby d52_19) rfl (tlt (by decide : (1 : Int32) < (10 : Int32))).2.1 kz))))))) ?_
    show EndsK p e below _ (s₁.setTop (mkF m 22 #[vi x, vi dd, vi (-10 : Int32), vi (1 : Int32)] []))
    refine EndsK.go (fun _ kz => XS.iloadN X0.here hx rfl (hb hby d52_22) rfl (XS.iloadN X0.here hx rfl (hb hby d52_23) rfl kz)) ?_
    show EndsK p e below _ (s₁.setTop (mkF m 24 #[vi x, vi dd, vi (-10 : Int32), vi (1 : Int32)] [(.int (-10 : Int32)), (.int x)]))
    by_cases H24_1 : (-10 : Int32) < x
    · refine EndsK.go (fun _ kz => XS.icmpNo X0.here hx rfl (hb hby d52_24) rfl (tlt H24_1).2.2.2 (XS.iloadN X0.here hx rfl (hb hby d52_27) rfl (XS.iloadN X0.here hx rfl (hb hby d52_28) rfl (XS.iadd X0.here hx rfl (hb hby d52_29) rfl kz)))) ?_
      show EndsK p e below _ (s₁.setTop (mkF m 30 #[vi x, vi dd, vi (-10 : Int32), vi (1 : Int32)] [(.int ((1 : Int32) + dd))]))
      exact endI X0 hx Bd.returns (hb hby d52_30) hlk ⟨(congrArg (fun z => some (Value.int z)) (by rw [hxd]; simp [ssF, H24_1] : ssizeF v = ((1 : Int32) + dd))).symm, N0, e0⟩ (by decide) (by decide)
    · refine EndsK.go (fun _ kz => XS.icmpYes X0.here hx rfl (pc0 := 24) (pc' := 31) rfl (hb hby d52_24) rfl (flt H24_1).2.2.2 (by decide) (by decide) (XS.bipush X0.here hx rfl (hb hby d52_31) (XS.iloadN X0.here hx rfl (hb hby d52_33) rfl (XS.imul X0.here hx rfl (hb hby d52_34) rfl (XS.istoreN X0.here hx rfl (hb hby d52_35) rfl (l' := #[vi x, vi dd, vi (-100 : Int32), vi (1 : Int32)]) rfl (XS.iinc X0.here hx rfl (hb hby d52_36) rfl (l' := #[vi x, vi dd, vi (-100 : Int32), vi (2 : Int32)]) rfl (XS.goto X0.here hx rfl (pc0 := 39) (pc' := 16) rfl (hb hby d52_39) (by decide) (by decide) kz))))))) ?_
      show EndsK p e below _ (s₁.setTop (mkF m 16 #[vi x, vi dd, vi (-100 : Int32), vi (2 : Int32)] []))
      refine EndsK.go (fun _ kz => XS.iloadN X0.here hx rfl (hb hby d52_16) rfl (XS.bipush X0.here hx rfl (hb hby d52_17) (XS.icmpNo X0.here hx rfl (hb hby d52_19) rfl (tlt (by decide : (2 : Int32) < (10 : Int32))).2.1 (XS.iloadN X0.here hx rfl (hb hby d52_22) rfl (XS.iloadN X0.here hx rfl (hb hby d52_23) rfl kz))))) ?_
      show EndsK p e below _ (s₁.setTop (mkF m 24 #[vi x, vi dd, vi (-100 : Int32), vi (2 : Int32)] [(.int (-100 : Int32)), (.int x)]))
      by_cases H24_2 : (-100 : Int32) < x
      · refine EndsK.go (fun _ kz => XS.icmpNo X0.here hx rfl (hb hby d52_24) rfl (tlt H24_2).2.2.2 (XS.iloadN X0.here hx rfl (hb hby d52_27) rfl (XS.iloadN X0.here hx rfl (hb hby d52_28) rfl (XS.iadd X0.here hx rfl (hb hby d52_29) rfl kz)))) ?_
        show EndsK p e below _ (s₁.setTop (mkF m 30 #[vi x, vi dd, vi (-100 : Int32), vi (2 : Int32)] [(.int ((2 : Int32) + dd))]))
        exact endI X0 hx Bd.returns (hb hby d52_30) hlk ⟨(congrArg (fun z => some (Value.int z)) (by rw [hxd]; simp [ssF, H24_1, H24_2] : ssizeF v = ((2 : Int32) + dd))).symm, N0, e0⟩ (by decide) (by decide)
      · refine EndsK.go (fun _ kz => XS.icmpYes X0.here hx rfl (pc0 := 24) (pc' := 31) rfl (hb hby d52_24) rfl (flt H24_2).2.2.2 (by decide) (by decide) (XS.bipush X0.here hx rfl (hb hby d52_31) (XS.iloadN X0.here hx rfl (hb hby d52_33) rfl (XS.imul X0.here hx rfl (hb hby d52_34) rfl (XS.istoreN X0.here hx rfl (hb hby d52_35) rfl (l' := #[vi x, vi dd, vi (-1000 : Int32), vi (2 : Int32)]) rfl (XS.iinc X0.here hx rfl (hb hby d52_36) rfl (l' := #[vi x, vi dd, vi (-1000 : Int32), vi (3 : Int32)]) rfl (XS.goto X0.here hx rfl (pc0 := 39) (pc' := 16) rfl (hb hby d52_39) (by decide) (by decide) kz))))))) ?_
        show EndsK p e below _ (s₁.setTop (mkF m 16 #[vi x, vi dd, vi (-1000 : Int32), vi (3 : Int32)] []))
        refine EndsK.go (fun _ kz => XS.iloadN X0.here hx rfl (hb hby d52_16) rfl (XS.bipush X0.here hx rfl (hb hby d52_17) (XS.icmpNo X0.here hx rfl (hb hby d52_19) rfl (tlt (by decide : (3 : Int32) < (10 : Int32))).2.1 (XS.iloadN X0.here hx rfl (hb hby d52_22) rfl (XS.iloadN X0.here hx rfl (hb hby d52_23) rfl kz))))) ?_
        show EndsK p e below _ (s₁.setTop (mkF m 24 #[vi x, vi dd, vi (-1000 : Int32), vi (3 : Int32)] [(.int (-1000 : Int32)), (.int x)]))
        by_cases H24_3 : (-1000 : Int32) < x
        · refine EndsK.go (fun _ kz => XS.icmpNo X0.here hx rfl (hb hby d52_24) rfl (tlt H24_3).2.2.2 (XS.iloadN X0.here hx rfl (hb hby d52_27) rfl (XS.iloadN X0.here hx rfl (hb hby d52_28) rfl (XS.iadd X0.here hx rfl (hb hby d52_29) rfl kz)))) ?_
          show EndsK p e below _ (s₁.setTop (mkF m 30 #[vi x, vi dd, vi (-1000 : Int32), vi (3 : Int32)] [(.int ((3 : Int32) + dd))]))
          exact endI X0 hx Bd.returns (hb hby d52_30) hlk ⟨(congrArg (fun z => some (Value.int z)) (by rw [hxd]; simp [ssF, H24_1, H24_2, H24_3] : ssizeF v = ((3 : Int32) + dd))).symm, N0, e0⟩ (by decide) (by decide)
        · refine EndsK.go (fun _ kz => XS.icmpYes X0.here hx rfl (pc0 := 24) (pc' := 31) rfl (hb hby d52_24) rfl (flt H24_3).2.2.2 (by decide) (by decide) (XS.bipush X0.here hx rfl (hb hby d52_31) (XS.iloadN X0.here hx rfl (hb hby d52_33) rfl (XS.imul X0.here hx rfl (hb hby d52_34) rfl (XS.istoreN X0.here hx rfl (hb hby d52_35) rfl (l' := #[vi x, vi dd, vi (-10000 : Int32), vi (3 : Int32)]) rfl (XS.iinc X0.here hx rfl (hb hby d52_36) rfl (l' := #[vi x, vi dd, vi (-10000 : Int32), vi (4 : Int32)]) rfl (XS.goto X0.here hx rfl (pc0 := 39) (pc' := 16) rfl (hb hby d52_39) (by decide) (by decide) kz))))))) ?_
          show EndsK p e below _ (s₁.setTop (mkF m 16 #[vi x, vi dd, vi (-10000 : Int32), vi (4 : Int32)] []))
          refine EndsK.go (fun _ kz => XS.iloadN X0.here hx rfl (hb hby d52_16) rfl (XS.bipush X0.here hx rfl (hb hby d52_17) (XS.icmpNo X0.here hx rfl (hb hby d52_19) rfl (tlt (by decide : (4 : Int32) < (10 : Int32))).2.1 (XS.iloadN X0.here hx rfl (hb hby d52_22) rfl (XS.iloadN X0.here hx rfl (hb hby d52_23) rfl kz))))) ?_
          show EndsK p e below _ (s₁.setTop (mkF m 24 #[vi x, vi dd, vi (-10000 : Int32), vi (4 : Int32)] [(.int (-10000 : Int32)), (.int x)]))
          by_cases H24_4 : (-10000 : Int32) < x
          · refine EndsK.go (fun _ kz => XS.icmpNo X0.here hx rfl (hb hby d52_24) rfl (tlt H24_4).2.2.2 (XS.iloadN X0.here hx rfl (hb hby d52_27) rfl (XS.iloadN X0.here hx rfl (hb hby d52_28) rfl (XS.iadd X0.here hx rfl (hb hby d52_29) rfl kz)))) ?_
            show EndsK p e below _ (s₁.setTop (mkF m 30 #[vi x, vi dd, vi (-10000 : Int32), vi (4 : Int32)] [(.int ((4 : Int32) + dd))]))
            exact endI X0 hx Bd.returns (hb hby d52_30) hlk ⟨(congrArg (fun z => some (Value.int z)) (by rw [hxd]; simp [ssF, H24_1, H24_2, H24_3, H24_4] : ssizeF v = ((4 : Int32) + dd))).symm, N0, e0⟩ (by decide) (by decide)
          · refine EndsK.go (fun _ kz => XS.icmpYes X0.here hx rfl (pc0 := 24) (pc' := 31) rfl (hb hby d52_24) rfl (flt H24_4).2.2.2 (by decide) (by decide) (XS.bipush X0.here hx rfl (hb hby d52_31) (XS.iloadN X0.here hx rfl (hb hby d52_33) rfl (XS.imul X0.here hx rfl (hb hby d52_34) rfl (XS.istoreN X0.here hx rfl (hb hby d52_35) rfl (l' := #[vi x, vi dd, vi (-100000 : Int32), vi (4 : Int32)]) rfl (XS.iinc X0.here hx rfl (hb hby d52_36) rfl (l' := #[vi x, vi dd, vi (-100000 : Int32), vi (5 : Int32)]) rfl (XS.goto X0.here hx rfl (pc0 := 39) (pc' := 16) rfl (hb hby d52_39) (by decide) (by decide) kz))))))) ?_
            show EndsK p e below _ (s₁.setTop (mkF m 16 #[vi x, vi dd, vi (-100000 : Int32), vi (5 : Int32)] []))
            refine EndsK.go (fun _ kz => XS.iloadN X0.here hx rfl (hb hby d52_16) rfl (XS.bipush X0.here hx rfl (hb hby d52_17) (XS.icmpNo X0.here hx rfl (hb hby d52_19) rfl (tlt (by decide : (5 : Int32) < (10 : Int32))).2.1 (XS.iloadN X0.here hx rfl (hb hby d52_22) rfl (XS.iloadN X0.here hx rfl (hb hby d52_23) rfl kz))))) ?_
            show EndsK p e below _ (s₁.setTop (mkF m 24 #[vi x, vi dd, vi (-100000 : Int32), vi (5 : Int32)] [(.int (-100000 : Int32)), (.int x)]))
            by_cases H24_5 : (-100000 : Int32) < x
            · refine EndsK.go (fun _ kz => XS.icmpNo X0.here hx rfl (hb hby d52_24) rfl (tlt H24_5).2.2.2 (XS.iloadN X0.here hx rfl (hb hby d52_27) rfl (XS.iloadN X0.here hx rfl (hb hby d52_28) rfl (XS.iadd X0.here hx rfl (hb hby d52_29) rfl kz)))) ?_
              show EndsK p e below _ (s₁.setTop (mkF m 30 #[vi x, vi dd, vi (-100000 : Int32), vi (5 : Int32)] [(.int ((5 : Int32) + dd))]))
              exact endI X0 hx Bd.returns (hb hby d52_30) hlk ⟨(congrArg (fun z => some (Value.int z)) (by rw [hxd]; simp [ssF, H24_1, H24_2, H24_3, H24_4, H24_5] : ssizeF v = ((5 : Int32) + dd))).symm, N0, e0⟩ (by decide) (by decide)
            · refine EndsK.go (fun _ kz => XS.icmpYes X0.here hx rfl (pc0 := 24) (pc' := 31) rfl (hb hby d52_24) rfl (flt H24_5).2.2.2 (by decide) (by decide) (XS.bipush X0.here hx rfl (hb hby d52_31) (XS.iloadN X0.here hx rfl (hb hby d52_33) rfl (XS.imul X0.here hx rfl (hb hby d52_34) rfl (XS.istoreN X0.here hx rfl (hb hby d52_35) rfl (l' := #[vi x, vi dd, vi (-1000000 : Int32), vi (5 : Int32)]) rfl (XS.iinc X0.here hx rfl (hb hby d52_36) rfl (l' := #[vi x, vi dd, vi (-1000000 : Int32), vi (6 : Int32)]) rfl (XS.goto X0.here hx rfl (pc0 := 39) (pc' := 16) rfl (hb hby d52_39) (by decide) (by decide) kz))))))) ?_
              show EndsK p e below _ (s₁.setTop (mkF m 16 #[vi x, vi dd, vi (-1000000 : Int32), vi (6 : Int32)] []))
              refine EndsK.go (fun _ kz => XS.iloadN X0.here hx rfl (hb hby d52_16) rfl (XS.bipush X0.here hx rfl (hb hby d52_17) (XS.icmpNo X0.here hx rfl (hb hby d52_19) rfl (tlt (by decide : (6 : Int32) < (10 : Int32))).2.1 (XS.iloadN X0.here hx rfl (hb hby d52_22) rfl (XS.iloadN X0.here hx rfl (hb hby d52_23) rfl kz))))) ?_
              show EndsK p e below _ (s₁.setTop (mkF m 24 #[vi x, vi dd, vi (-1000000 : Int32), vi (6 : Int32)] [(.int (-1000000 : Int32)), (.int x)]))
              by_cases H24_6 : (-1000000 : Int32) < x
              · refine EndsK.go (fun _ kz => XS.icmpNo X0.here hx rfl (hb hby d52_24) rfl (tlt H24_6).2.2.2 (XS.iloadN X0.here hx rfl (hb hby d52_27) rfl (XS.iloadN X0.here hx rfl (hb hby d52_28) rfl (XS.iadd X0.here hx rfl (hb hby d52_29) rfl kz)))) ?_
                show EndsK p e below _ (s₁.setTop (mkF m 30 #[vi x, vi dd, vi (-1000000 : Int32), vi (6 : Int32)] [(.int ((6 : Int32) + dd))]))
                exact endI X0 hx Bd.returns (hb hby d52_30) hlk ⟨(congrArg (fun z => some (Value.int z)) (by rw [hxd]; simp [ssF, H24_1, H24_2, H24_3, H24_4, H24_5, H24_6] : ssizeF v = ((6 : Int32) + dd))).symm, N0, e0⟩ (by decide) (by decide)
              · refine EndsK.go (fun _ kz => XS.icmpYes X0.here hx rfl (pc0 := 24) (pc' := 31) rfl (hb hby d52_24) rfl (flt H24_6).2.2.2 (by decide) (by decide) (XS.bipush X0.here hx rfl (hb hby d52_31) (XS.iloadN X0.here hx rfl (hb hby d52_33) rfl (XS.imul X0.here hx rfl (hb hby d52_34) rfl (XS.istoreN X0.here hx rfl (hb hby d52_35) rfl (l' := #[vi x, vi dd, vi (-10000000 : Int32), vi (6 : Int32)]) rfl (XS.iinc X0.here hx rfl (hb hby d52_36) rfl (l' := #[vi x, vi dd, vi (-10000000 : Int32), vi (7 : Int32)]) rfl (XS.goto X0.here hx rfl (pc0 := 39) (pc' := 16) rfl (hb hby d52_39) (by decide) (by decide) kz))))))) ?_
                show EndsK p e below _ (s₁.setTop (mkF m 16 #[vi x, vi dd, vi (-10000000 : Int32), vi (7 : Int32)] []))
                refine EndsK.go (fun _ kz => XS.iloadN X0.here hx rfl (hb hby d52_16) rfl (XS.bipush X0.here hx rfl (hb hby d52_17) (XS.icmpNo X0.here hx rfl (hb hby d52_19) rfl (tlt (by decide : (7 : Int32) < (10 : Int32))).2.1 (XS.iloadN X0.here hx rfl (hb hby d52_22) rfl (XS.iloadN X0.here hx rfl (hb hby d52_23) rfl kz))))) ?_
                show EndsK p e below _ (s₁.setTop (mkF m 24 #[vi x, vi dd, vi (-10000000 : Int32), vi (7 : Int32)] [(.int (-10000000 : Int32)), (.int x)]))
                by_cases H24_7 : (-10000000 : Int32) < x
                · refine EndsK.go (fun _ kz => XS.icmpNo X0.here hx rfl (hb hby d52_24) rfl (tlt H24_7).2.2.2 (XS.iloadN X0.here hx rfl (hb hby d52_27) rfl (XS.iloadN X0.here hx rfl (hb hby d52_28) rfl (XS.iadd X0.here hx rfl (hb hby d52_29) rfl kz)))) ?_
                  show EndsK p e below _ (s₁.setTop (mkF m 30 #[vi x, vi dd, vi (-10000000 : Int32), vi (7 : Int32)] [(.int ((7 : Int32) + dd))]))
                  exact endI X0 hx Bd.returns (hb hby d52_30) hlk ⟨(congrArg (fun z => some (Value.int z)) (by rw [hxd]; simp [ssF, H24_1, H24_2, H24_3, H24_4, H24_5, H24_6, H24_7] : ssizeF v = ((7 : Int32) + dd))).symm, N0, e0⟩ (by decide) (by decide)
                · refine EndsK.go (fun _ kz => XS.icmpYes X0.here hx rfl (pc0 := 24) (pc' := 31) rfl (hb hby d52_24) rfl (flt H24_7).2.2.2 (by decide) (by decide) (XS.bipush X0.here hx rfl (hb hby d52_31) (XS.iloadN X0.here hx rfl (hb hby d52_33) rfl (XS.imul X0.here hx rfl (hb hby d52_34) rfl (XS.istoreN X0.here hx rfl (hb hby d52_35) rfl (l' := #[vi x, vi dd, vi (-100000000 : Int32), vi (7 : Int32)]) rfl (XS.iinc X0.here hx rfl (hb hby d52_36) rfl (l' := #[vi x, vi dd, vi (-100000000 : Int32), vi (8 : Int32)]) rfl (XS.goto X0.here hx rfl (pc0 := 39) (pc' := 16) rfl (hb hby d52_39) (by decide) (by decide) kz))))))) ?_
                  show EndsK p e below _ (s₁.setTop (mkF m 16 #[vi x, vi dd, vi (-100000000 : Int32), vi (8 : Int32)] []))
                  refine EndsK.go (fun _ kz => XS.iloadN X0.here hx rfl (hb hby d52_16) rfl (XS.bipush X0.here hx rfl (hb hby d52_17) (XS.icmpNo X0.here hx rfl (hb hby d52_19) rfl (tlt (by decide : (8 : Int32) < (10 : Int32))).2.1 (XS.iloadN X0.here hx rfl (hb hby d52_22) rfl (XS.iloadN X0.here hx rfl (hb hby d52_23) rfl kz))))) ?_
                  show EndsK p e below _ (s₁.setTop (mkF m 24 #[vi x, vi dd, vi (-100000000 : Int32), vi (8 : Int32)] [(.int (-100000000 : Int32)), (.int x)]))
                  by_cases H24_8 : (-100000000 : Int32) < x
                  · refine EndsK.go (fun _ kz => XS.icmpNo X0.here hx rfl (hb hby d52_24) rfl (tlt H24_8).2.2.2 (XS.iloadN X0.here hx rfl (hb hby d52_27) rfl (XS.iloadN X0.here hx rfl (hb hby d52_28) rfl (XS.iadd X0.here hx rfl (hb hby d52_29) rfl kz)))) ?_
                    show EndsK p e below _ (s₁.setTop (mkF m 30 #[vi x, vi dd, vi (-100000000 : Int32), vi (8 : Int32)] [(.int ((8 : Int32) + dd))]))
                    exact endI X0 hx Bd.returns (hb hby d52_30) hlk ⟨(congrArg (fun z => some (Value.int z)) (by rw [hxd]; simp [ssF, H24_1, H24_2, H24_3, H24_4, H24_5, H24_6, H24_7, H24_8] : ssizeF v = ((8 : Int32) + dd))).symm, N0, e0⟩ (by decide) (by decide)
                  · refine EndsK.go (fun _ kz => XS.icmpYes X0.here hx rfl (pc0 := 24) (pc' := 31) rfl (hb hby d52_24) rfl (flt H24_8).2.2.2 (by decide) (by decide) (XS.bipush X0.here hx rfl (hb hby d52_31) (XS.iloadN X0.here hx rfl (hb hby d52_33) rfl (XS.imul X0.here hx rfl (hb hby d52_34) rfl (XS.istoreN X0.here hx rfl (hb hby d52_35) rfl (l' := #[vi x, vi dd, vi (-1000000000 : Int32), vi (8 : Int32)]) rfl (XS.iinc X0.here hx rfl (hb hby d52_36) rfl (l' := #[vi x, vi dd, vi (-1000000000 : Int32), vi (9 : Int32)]) rfl (XS.goto X0.here hx rfl (pc0 := 39) (pc' := 16) rfl (hb hby d52_39) (by decide) (by decide) kz))))))) ?_
                    show EndsK p e below _ (s₁.setTop (mkF m 16 #[vi x, vi dd, vi (-1000000000 : Int32), vi (9 : Int32)] []))
                    refine EndsK.go (fun _ kz => XS.iloadN X0.here hx rfl (hb hby d52_16) rfl (XS.bipush X0.here hx rfl (hb hby d52_17) (XS.icmpNo X0.here hx rfl (hb hby d52_19) rfl (tlt (by decide : (9 : Int32) < (10 : Int32))).2.1 (XS.iloadN X0.here hx rfl (hb hby d52_22) rfl (XS.iloadN X0.here hx rfl (hb hby d52_23) rfl kz))))) ?_
                    show EndsK p e below _ (s₁.setTop (mkF m 24 #[vi x, vi dd, vi (-1000000000 : Int32), vi (9 : Int32)] [(.int (-1000000000 : Int32)), (.int x)]))
                    by_cases H24_9 : (-1000000000 : Int32) < x
                    · refine EndsK.go (fun _ kz => XS.icmpNo X0.here hx rfl (hb hby d52_24) rfl (tlt H24_9).2.2.2 (XS.iloadN X0.here hx rfl (hb hby d52_27) rfl (XS.iloadN X0.here hx rfl (hb hby d52_28) rfl (XS.iadd X0.here hx rfl (hb hby d52_29) rfl kz)))) ?_
                      show EndsK p e below _ (s₁.setTop (mkF m 30 #[vi x, vi dd, vi (-1000000000 : Int32), vi (9 : Int32)] [(.int ((9 : Int32) + dd))]))
                      exact endI X0 hx Bd.returns (hb hby d52_30) hlk ⟨(congrArg (fun z => some (Value.int z)) (by rw [hxd]; simp [ssF, H24_1, H24_2, H24_3, H24_4, H24_5, H24_6, H24_7, H24_8, H24_9] : ssizeF v = ((9 : Int32) + dd))).symm, N0, e0⟩ (by decide) (by decide)
                    · refine EndsK.go (fun _ kz => XS.icmpYes X0.here hx rfl (pc0 := 24) (pc' := 31) rfl (hb hby d52_24) rfl (flt H24_9).2.2.2 (by decide) (by decide) (XS.bipush X0.here hx rfl (hb hby d52_31) (XS.iloadN X0.here hx rfl (hb hby d52_33) rfl (XS.imul X0.here hx rfl (hb hby d52_34) rfl (XS.istoreN X0.here hx rfl (hb hby d52_35) rfl (l' := #[vi x, vi dd, vi (-1410065408 : Int32), vi (9 : Int32)]) rfl (XS.iinc X0.here hx rfl (hb hby d52_36) rfl (l' := #[vi x, vi dd, vi (-1410065408 : Int32), vi (10 : Int32)]) rfl (XS.goto X0.here hx rfl (pc0 := 39) (pc' := 16) rfl (hb hby d52_39) (by decide) (by decide) kz))))))) ?_
                      show EndsK p e below _ (s₁.setTop (mkF m 16 #[vi x, vi dd, vi (-1410065408 : Int32), vi (10 : Int32)] []))
                      refine EndsK.go (fun _ kz => XS.iloadN X0.here hx rfl (hb hby d52_16) rfl (XS.bipush X0.here hx rfl (hb hby d52_17) (XS.icmpYes X0.here hx rfl (pc0 := 19) (pc' := 42) rfl (hb hby d52_19) rfl (flt (by decide : ¬ ((10 : Int32) < (10 : Int32)))).2.1 (by decide) (by decide) (XS.bipush X0.here hx rfl (hb hby d52_42) (XS.iloadN X0.here hx rfl (hb hby d52_44) rfl (XS.iadd X0.here hx rfl (hb hby d52_45) rfl kz)))))) ?_
                      show EndsK p e below _ (s₁.setTop (mkF m 46 #[vi x, vi dd, vi (-1410065408 : Int32), vi (10 : Int32)] [(.int ((10 : Int32) + dd))]))
                      exact endI X0 hx Bd.returns (hb hby d52_46) hlk ⟨(congrArg (fun z => some (Value.int z)) (by rw [hxd]; simp [ssF, H24_1, H24_2, H24_3, H24_4, H24_5, H24_6, H24_7, H24_8, H24_9] : ssizeF v = ((10 : Int32) + dd))).symm, N0, e0⟩ (by decide) (by decide)
  refine EndsK.go (fun _ kz => XS.iconst X0.here hx rfl (hb hby d52_0) (XS.istoreN X0.here hx rfl (hb hby d52_1) rfl (l' := #[vi v, vi (1 : Int32), .unset, .unset]) rfl (XS.iloadN X0.here hx rfl (hb hby d52_2) rfl kz))) ?_
  show EndsK p e below _ (s₁.setTop (mkF m 3 #[vi v, vi (1 : Int32), .unset, .unset] [(.int v)]))
  by_cases H3_1 : v < (0 : Int32)
  · refine EndsK.go (fun _ kz => XS.ifYes X0.here hx rfl (pc0 := 3) (pc' := 11) rfl (hb hby d52_3) rfl ((if0 _ _).trans (tlt H3_1).1) (by decide) (by decide) kz) ?_
    exact J11 v (1 : Int32) (by unfold ssizeF; rw [if_pos H3_1])
  · refine EndsK.go (fun _ kz => XS.ifNo X0.here hx rfl (hb hby d52_3) rfl ((if0 _ _).trans (flt H3_1).1) (XS.iconst X0.here hx rfl (hb hby d52_6) (XS.istoreN X0.here hx rfl (hb hby d52_7) rfl (l' := #[vi v, vi (0 : Int32), .unset, .unset]) rfl (XS.iloadN X0.here hx rfl (hb hby d52_8) rfl (XS.ineg X0.here hx rfl (hb hby d52_9) rfl (XS.istoreN X0.here hx rfl (hb hby d52_10) rfl (l' := #[vi (-v), vi (0 : Int32), .unset, .unset]) rfl kz)))))) ?_
    exact J11 (-v) (0 : Int32) (by unfold ssizeF; rw [if_neg H3_1])
theorem on_lt {a b : Nat} (ha : a < 2 ^ 31) (hb : b < 2 ^ 31) : (Int32.ofNat a < Int32.ofNat b) ↔ a < b := by
  rw [Int32.lt_iff_toInt_lt, Int32.toInt_ofNat_small ha, Int32.toInt_ofNat_small hb]; omega
theorem on_eq {a b : Nat} (ha : a < 2 ^ 31) (hb : b < 2 ^ 31) : (Int32.ofNat a = Int32.ofNat b) ↔ a = b := by
  rw [← Int32.toInt_inj, Int32.toInt_ofNat_small ha, Int32.toInt_ofNat_small hb]; omega
theorem on_clamp {a : Nat} (ha : a < 2 ^ 31) : (Int32.ofNat a).toNatClampNeg = a := by
  show (Int32.ofNat a).toInt.toNat = a
  rw [Int32.toInt_ofNat_small ha]; rfl
theorem minF_of {a b : Nat} (ha : a < 2 ^ 31) (hb : b < 2 ^ 31) (h : a ≤ b) : minF (Int32.ofNat a) (Int32.ofNat b) = Int32.ofNat a := by
  unfold minF
  rw [if_neg (by rw [on_lt hb ha]; omega)]
theorem not_neg {a : Nat} (ha : a < 2 ^ 31) : ¬ Int32.ofNat a < 0 := by
  rw [Int32.lt_iff_toInt_lt, Int32.toInt_ofNat_small ha]
  have : (0 : Int32).toInt = 0 := rfl
  omega
theorem on_toInt {a : Nat} (ha : a < 2 ^ 31) : (Int32.ofNat a).toInt = a := Int32.toInt_ofNat_small ha
theorem on_add (a b : Nat) : Int32.ofNat a + Int32.ofNat b = Int32.ofNat (a + b) := (Int32.ofNat_add a b).symm
theorem on_succ (a : Nat) : Int32.ofNat a + (1 : Int32) = Int32.ofNat (a + 1) := (Int32.ofNat_add a 1).symm
theorem on_of {x : Int32} {k : Nat} (h : x.toInt = k) : x = Int32.ofNat k := by
  have := rng32 x
  rw [← Int32.toInt_inj, Int32.toInt_ofNat_small (by omega), h]
theorem tn_of {x : Int32} {k : Nat} (h : x.toInt = k) : x.toNatClampNeg = k := by
  show x.toInt.toNat = k
  rw [h]; rfl
def mg (v : Int32) : Nat := v.toInt.natAbs
def sg (v : Int32) : Nat := if v < 0 then 1 else 0
def dg (v : Int32) : Nat := Jvm.Free.SBG.digits (mg v)
def sl (v : Int32) : Nat := sg v + dg v
theorem mg_le (v : Int32) : mg v ≤ 2 ^ 31 := by have := rng32 v; unfold mg; omega
theorem dg_pos (v : Int32) : 1 ≤ dg v ∧ dg v ≤ 10 := Jvm.Free.SBG.digits_pos _
theorem sg_le (v : Int32) : sg v ≤ 1 := by unfold sg; split <;> omega
theorem sl_le (v : Int32) : 1 ≤ sl v ∧ sl v ≤ 11 := by have := dg_pos v; have := sg_le v; unfold sl; omega
theorem neg_iff (v : Int32) : v < 0 ↔ v.toInt < 0 := by rw [Int32.lt_iff_toInt_lt]; rfl
theorem neg_mg (v : Int32) : (if v < 0 then v else -v) = Jvm.Free.SBG.negI (mg v) := by
  have h := rng32 v
  have hn := Jvm.Free.SBG.negI_toInt (mg_le v)
  rw [← Int32.toInt_inj, hn]
  unfold mg
  split
  · rename_i q; rw [neg_iff] at q; omega
  · rename_i q; rw [neg_iff] at q
    have a := c_ineg v
    have b := rng32 (-v)
    omega
theorem magF_int (v : Int32) : (magF v).toInt = mg v := by
  have h := rng32 v
  unfold magF mg
  have i := c_i2l v
  split
  · rename_i q; rw [neg_iff] at q
    have a := c_lneg v.toInt64
    have b := rng64 (-v.toInt64)
    omega
  · rename_i q; rw [neg_iff] at q
    omega
theorem lw_of {m : Int64} {k : Nat} (h : m.toInt = k) (c : Int64) (d : Nat) (hc : c.toInt = d) : (lcmpW m c < 0) = (k < d) := by
  rw [lw_lt, Int64.lt_iff_toInt_lt, h, hc]
  apply propext; omega
theorem ndigF_eq {m : Int64} {k : Nat} (h : m.toInt = k) : ndigF m = Int32.ofNat (Jvm.Free.SBG.digits k) := by
  unfold ndigF Jvm.Free.SBG.digits
  simp only [lw_of h 10 10 rfl, lw_of h 100 100 rfl, lw_of h 1000 1000 rfl, lw_of h 10000 10000 rfl, lw_of h 100000 100000 rfl, lw_of h 1000000 1000000 rfl, lw_of h 10000000 10000000 rfl, lw_of h 100000000 100000000 rfl, lw_of h 1000000000 1000000000 rfl, apply_ite Int32.ofNat]
  rfl
theorem ndig_mag (v : Int32) : ndigF (magF v) = Int32.ofNat (dg v) := ndigF_eq (magF_int v)
theorem ngl {n : Nat} (h : n ≤ 2 ^ 31) (c : Int32) (k : Nat) (hk : k ≤ 2 ^ 31) (hc : c = Jvm.Free.SBG.negI k) : (c < Jvm.Free.SBG.negI n) = (n < k) := by
  rw [hc]; exact propext (Jvm.Free.SBG.negI_lt h k hk)
theorem ssF_eq {n : Nat} (h : n ≤ 2 ^ 31) (d : Int32) : ssF (Jvm.Free.SBG.negI n) d = Int32.ofNat (Jvm.Free.SBG.digits n) + d := by
  unfold ssF Jvm.Free.SBG.digits
  simp only [ngl h (-10) 10 (by omega) (by decide +kernel), ngl h (-100) 100 (by omega) (by decide +kernel), ngl h (-1000) 1000 (by omega) (by decide +kernel), ngl h (-10000) 10000 (by omega) (by decide +kernel), ngl h (-100000) 100000 (by omega) (by decide +kernel), ngl h (-1000000) 1000000 (by omega) (by decide +kernel), ngl h (-10000000) 10000000 (by omega) (by decide +kernel), ngl h (-100000000) 100000000 (by omega) (by decide +kernel), ngl h (-1000000000) 1000000000 (by omega) (by decide +kernel), apply_ite Int32.ofNat, apply_ite (· + d)]
  rfl
theorem ssizeF_eq (v : Int32) : ssizeF v = Int32.ofNat (sl v) := by
  have q := neg_mg v
  unfold ssizeF sl sg dg
  by_cases h : v < 0
  · rw [if_pos h] at q
    rw [if_pos h, if_pos h, q, ssF_eq (mg_le v), ← q, Nat.add_comm]
    exact on_add _ 1
  · rw [if_neg h] at q
    rw [if_neg h, if_neg h, q, ssF_eq (mg_le v), Nat.zero_add]
    exact on_add _ 0
theorem segLen_eq (v : Int32) : segLenF v = Int32.ofNat (1 + sl v) := by
  unfold segLenF
  rw [ndig_mag]
  unfold sl sg
  by_cases h : v < 0
  · rw [if_pos h, if_pos h, ← Nat.add_assoc]; exact on_add 2 _
  · rw [if_neg h, if_neg h, ← Nat.add_assoc]; exact on_add 1 _
theorem nar_char {x : Int32} {k : Nat} (h : x.toInt = k) (hk : k < 65536) : nar .char x = x := by
  have a := c_i2c x
  show x.toUInt32.toUInt16.toUInt32.toInt32 = x
  rw [← Int32.toInt_inj]
  omega
theorem nar_byte {x : Int32} {k : Nat} (h : x.toInt = k) (hk : k < 128) : nar .byte x = x := by
  have a := c_i2b x
  show x.toInt8.toInt32 = x
  rw [← Int32.toInt_inj]
  omega
theorem i2c_id {x : Int32} {k : Nat} (h : x.toInt = k) (hk : k < 65536) : x.toUInt32.toUInt16.toUInt32.toInt32 = x := nar_char h hk
theorem ldiv10 {r : Int64} {k : Nat} (h : r.toInt = k) : (r / 10).toInt = (k / 10 : Nat) := by
  have d := (c_ldiv r 10 10 rfl (by decide)).1 (by omega)
  omega
theorem w64 {x m : Int} {k : Nat} (hk : (k : Int) < 9223372036854775808) (h1 : (x - m) % 18446744073709551616 = 0) (h2 : -9223372036854775808 ≤ x ∧ x < 9223372036854775808) (hm : m = k) : x = k := by omega
theorem w32 {x m : Int} {k : Nat} (hk : (k : Int) < 2147483648) (h1 : (x - m) % 4294967296 = 0) (h2 : -2147483648 ≤ x ∧ x < 2147483648) (hm : m = k) : x = k := by omega
theorem digF_eq {r : Int64} {k : Nat} (h : r.toInt = k) : digF r = Int32.ofNat (48 + k % 10) := by
  have hk : (k : Int) < 9223372036854775808 := by have := (rng64 r).2; omega
  have d := ldiv10 h
  have e3 : (r / 10 * 10).toInt = (k / 10 * 10 : Nat) := w64 (by clear h d; omega) (c_lmul (r / 10) 10) (rng64 _) (by rw [d]; rfl)
  have e6 : (r - r / 10 * 10).toInt = (k % 10 : Nat) := w64 (by clear h d e3; omega) (c_lsub r (r / 10 * 10)) (rng64 _) (by rw [e3, h]; clear h d e3; omega)
  have e9 : (r - r / 10 * 10).toInt32.toInt = (k % 10 : Nat) := w32 (by clear h d e3 e6; omega) (c_l2i _) (rng32 _) e6
  have f3 : (48 + (r - r / 10 * 10).toInt32).toInt = (48 + k % 10 : Nat) := w32 (by clear h d e3 e6 e9; omega) (c_iadd 48 _) (rng32 _) (by rw [e9]; rfl)
  unfold digF
  rw [i2c_id f3 (by clear h d e3 e6 e9 f3; omega), nar_char f3 (by clear h d e3 e6 e9 f3; omega)]
  exact on_of f3
/-- what charAt gives of a byte -/
def chF (b : Int32) : Int32 := nar .char (nar .char ((b &&& 255).toUInt32.toUInt16.toUInt32.toInt32))
theorem chF_eq {b : Int32} {k : Nat} (h : b.toInt = k) (hk : k < 128) : chF b = b := by
  have m := c_mask b 255 8 (by decide) (by decide)
  have e : (b &&& 255).toInt = k := by omega
  unfold chF
  rw [i2c_id e (by omega), nar_char e (by omega), nar_char e (by omega), ← Int32.toInt_inj, e, h]
def Num (F : Nat → Int32) (q : Nat) (v : Int32) : Prop := (v < 0 → F q = 45) ∧ ∀ j, j < dg v → F (q + sl v - 1 - j) = Int32.ofNat (48 + mg v / 10 ^ j % 10)
def Sg (F : Nat → Int32) (p : Nat) (v : Int32) : Prop := F p = 32 ∧ Num F (p + 1) v
theorem Num.mono {F G : Nat → Int32} {q : Nat} {v : Int32} (N : Num F q v) (h : ∀ j, j < q + sl v → G j = F j) : Num G q v := by
  have := sl_le v
  have := dg_pos v
  refine ⟨fun z => (h q (by omega)).trans (N.1 z), fun j hj => ?_⟩
  have : dg v ≤ sl v := Nat.le_add_left _ _
  rw [h _ (by omega)]
  exact N.2 j hj
theorem Sg.mono {F G : Nat → Int32} {p : Nat} {v : Int32} (N : Sg F p v) (h : ∀ j, j < p + 1 + sl v → G j = F j) : Sg G p v :=
  ⟨(h p (by omega)).trans N.1, N.2.mono h⟩
theorem and3 (x : Int32) : (x &&& 3) = 0 ∨ (x &&& 3) = 1 ∨ (x &&& 3) = 2 ∨ (x &&& 3) = 3 := by
  have m := c_mask x 3 2 (by decide) (by decide)
  simp only [← Int32.toInt_inj]
  have a0 : (0 : Int32).toInt = 0 := rfl
  have a1 : (1 : Int32).toInt = 1 := rfl
  have a2 : (2 : Int32).toInt = 2 := rfl
  have a3 : (3 : Int32).toInt = 3 := rfl
  omega
theorem shr0 (x : Int32) : x >>> ((0 : Int32) &&& 31) = x := by simp
theorem shl0 (x : Int32) : x <<< ((0 : Int32) &&& 31) = x := by simp
theorem sub0 (x : Int32) : x - (0 : Int32) = x := by simp
theorem on_sub {a b : Nat} (ha : a < 2 ^ 31) (hb : b < 2 ^ 31) : (Int32.ofNat a - Int32.ofNat b).toInt = (a : Int) - b := by
  have q := c_isub (Int32.ofNat a) (Int32.ofNat b)
  have r := rng32 (Int32.ofNat a - Int32.ofNat b)
  rw [on_toInt ha, on_toInt hb] at q
  omega
theorem on_sub_pos {a b : Nat} (ha : a < 2 ^ 31) (hb : b < 2 ^ 31) : (0 : Int32) < Int32.ofNat a - Int32.ofNat b ↔ b < a := by
  rw [Int32.lt_iff_toInt_lt, on_sub ha hb]
  have : (0 : Int32).toInt = 0 := rfl
  omega
theorem maxF_small {k : Nat} (h1 : 22 < k) (h2 : k ≤ 42) : maxF (Int32.ofNat k - Int32.ofNat 22) (24 : Int32) = 24 := by
  unfold maxF
  rw [if_pos]
  rw [Int32.lt_iff_toInt_lt, on_sub (by omega) (by omega)]
  have : (24 : Int32).toInt = 24 := rfl
  omega
theorem minF_of2 {a b : Nat} (ha : a < 2 ^ 31) (hb : b < 2 ^ 31) (h : b < a) : minF (Int32.ofNat a) (Int32.ofNat b) = Int32.ofNat b := by
  unfold minF
  rw [if_pos]
  rw [Int32.lt_iff_toInt_lt, on_toInt ha, on_toInt hb]
  omega
theorem on_pred {c : Nat} (h : 1 ≤ c) : Int32.ofNat c + (-1 : Int32) = Int32.ofNat (c - 1) := by
  rw [Int32.ofNat_sub _ _ h, Int32.sub_eq_add_neg]; rfl
theorem neg100 {n : Nat} (h : n ≤ 2 ^ 31) : (-100 : Int32) < Jvm.Free.SBG.negI n ↔ n < 100 := by
  rw [show (-100 : Int32) = Jvm.Free.SBG.negI 100 by decide +kernel]; exact Jvm.Free.SBG.negI_lt h 100 (by omega)
theorem neg9 {n : Nat} (h : n ≤ 2 ^ 31) : Jvm.Free.SBG.negI n < (-9 : Int32) ↔ 9 < n := by
  rw [show (-9 : Int32) = Jvm.Free.SBG.negI 9 by decide +kernel]; exact Jvm.Free.SBG.negI_lt (by omega) n h
theorem dig100 {n : Nat} (h : 100 ≤ n) (hn : n ≤ 2 ^ 31) : Jvm.Free.SBG.digits n = 2 + Jvm.Free.SBG.digits (n / 100) := by
  have e1 : (n < 10) = False := eq_false (by omega)
  have e2 : (n < 100) = False := eq_false (by omega)
  have f1 : (n / 100 < 10) = (n < 1000) := propext (by omega)
  have f2 : (n / 100 < 100) = (n < 10000) := propext (by omega)
  have f3 : (n / 100 < 1000) = (n < 100000) := propext (by omega)
  have f4 : (n / 100 < 10000) = (n < 1000000) := propext (by omega)
  have f5 : (n / 100 < 100000) = (n < 10000000) := propext (by omega)
  have f6 : (n / 100 < 1000000) = (n < 100000000) := propext (by omega)
  have f7 : (n / 100 < 10000000) = (n < 1000000000) := propext (by omega)
  have f8 : (n / 100 < 100000000) = True := eq_true (by omega)
  unfold Jvm.Free.SBG.digits
  simp only [e1, e2, f1, f2, f3, f4, f5, f6, f7, f8, if_true, if_false, apply_ite (2 + ·)]
theorem dig1 {n : Nat} (h : ¬ 9 < n) : Jvm.Free.SBG.digits n = 1 := by
  unfold Jvm.Free.SBG.digits; rw [if_pos (by omega)]
theorem dig2 {n : Nat} (h : 9 < n) (h2 : n < 100) : Jvm.Free.SBG.digits n = 2 := by
  unfold Jvm.Free.SBG.digits; rw [if_neg (by omega), if_pos (by omega)]
/-- k digits of M stand ahead of the place e -/
def Dw (M : Nat) (F : Nat → Int32) (e k : Nat) : Prop := ∀ j, j < k → F (e - 1 - j) = Int32.ofNat (48 + M / 10 ^ j % 10)
theorem dpow (M k : Nat) : M / 10 ^ (k + 1) = M / 10 ^ k / 10 := by rw [Nat.pow_succ, Nat.div_div_eq_div_mul]
theorem Dw.one {M : Nat} {F : Nat → Int32} {e k n c : Nat} (D : Dw M F e k) (hn : n = M / 10 ^ k) (hc : c + k = e) (h : 1 ≤ c) : Dw M (fun i => if i = c - 1 then Int32.ofNat (48 + n % 10) else F i) e (k + 1) := fun j hj => by
  by_cases q : j = k
  · subst q
    show (if e - 1 - j = c - 1 then _ else _) = _
    rw [if_pos (by omega), hn]
  · show (if e - 1 - j = c - 1 then _ else _) = _
    rw [if_neg (by omega)]
    exact D j (by omega)
theorem Dw.two {M : Nat} {F : Nat → Int32} {e k n c r : Nat} (D : Dw M F e k) (hn : n = M / 10 ^ k) (hr : r % 10 = n % 10 ∧ r / 10 % 10 = n / 10 % 10 ∧ r < 100) (hc : c + k = e) (h : 2 ≤ c) : Dw M (fun i => if i = c - 1 - 1 then Int32.ofNat (48 + r / 10) else if i = c - 1 then Int32.ofNat (48 + r % 10) else F i) e (k + 2) := fun j hj => by
  have e1 := dpow M k
  by_cases q : j = k + 1
  · subst q
    show (if e - 1 - (k + 1) = c - 1 - 1 then _ else _) = _
    rw [if_pos (by omega), e1, ← hn, ← hr.2.1, Nat.mod_eq_of_lt (show r / 10 < 10 by omega)]
  · by_cases q2 : j = k
    · subst q2
      show (if e - 1 - j = c - 1 - 1 then _ else if e - 1 - j = c - 1 then _ else _) = _
      rw [if_neg (by omega), if_pos (by omega), hr.1, hn]
    · show (if e - 1 - j = c - 1 - 1 then _ else if e - 1 - j = c - 1 then _ else _) = _
      rw [if_neg (by omega), if_neg (by omega)]
      exact D j (by omega)
theorem d100 {M k n : Nat} (hn : n = M / 10 ^ k) : n / 100 = M / 10 ^ (k + 2) := by
  rw [dpow M (k + 1), dpow M k, ← hn]; omega
/-- nothing but the places from c on, ahead of e, has turned -/
def Kp (f F : Nat → Int32) (c : Nat) : Prop := ∀ j, j < c → F j = f j
theorem Kp.one {f F : Nat → Int32} {c : Nat} (K : Kp f F c) (x : Int32) (h : 1 ≤ c) : Kp f (fun i => if i = c - 1 then x else F i) (c - 1) := fun j hj => by
  show (if j = c - 1 then _ else _) = _
  rw [if_neg (by omega)]; exact K j (by omega)
theorem Kp.two {f F : Nat → Int32} {c : Nat} (K : Kp f F c) (x y : Int32) (h : 2 ≤ c) : Kp f (fun i => if i = c - 1 - 1 then x else if i = c - 1 then y else F i) (c - 1 - 1) := (K.one y (by omega)).one x (by omega)
theorem num_pos {v : Int32} {F : Nat → Int32} {q : Nat} (hv : ¬ v < 0) (D : Dw (mg v) F (q + sl v) (dg v)) : Num F q v := ⟨fun z => absurd z hv, fun j hj => D j hj⟩
theorem num_neg {v : Int32} {F : Nat → Int32} {q : Nat} (hv : v < 0) (D : Dw (mg v) F (q + sl v) (dg v)) : Num (fun i => if i = q then 45 else F i) q v := by
  have hs : sl v = 1 + dg v := by unfold sl sg; rw [if_pos hv]
  refine ⟨fun _ => if_pos rfl, fun j hj => ?_⟩
  show (if q + sl v - 1 - j = q then _ else _) = _
  rw [if_neg (by omega)]
  exact D j hj
def JS (Z : State) (h : Heap) (zc : Int32) (o d : Addr) (u : Value) : Prop := (Sta Z h "java/lang/String" "COMPACT_STRINGS" "Z" (.int zc)) ∧ (¬ (zc = (0 : Int32))) ∧ (Sta Z h "java/lang/Integer" "DigitOnes" "[B" (.ref o)) ∧ (Byt Z h o 100 (fun r => Int32.ofNat (48 + r % 10))) ∧ (Sta Z h "java/lang/Integer" "DigitTens" "[B" (.ref d)) ∧ (Byt Z h d 100 (fun r => Int32.ofNat (48 + r / 10))) ∧ (Sta Z h "jdk/internal/util/Preconditions" "SIOOBE_FORMATTER" "Ljava/util/function/BiFunction;" u) ∧ (u.isRef = true)
theorem JS.SC {Z : State} {h : Heap} {zc : Int32} {o d : Addr} {u : Value} (J : JS Z h zc o d u) : Sta Z h "java/lang/String" "COMPACT_STRINGS" "Z" (.int zc) := J.1
theorem JS.hzc {Z : State} {h : Heap} {zc : Int32} {o d : Addr} {u : Value} (J : JS Z h zc o d u) : ¬ (zc = (0 : Int32)) := J.2.1
theorem JS.SO {Z : State} {h : Heap} {zc : Int32} {o d : Addr} {u : Value} (J : JS Z h zc o d u) : Sta Z h "java/lang/Integer" "DigitOnes" "[B" (.ref o) := J.2.2.1
theorem JS.BO {Z : State} {h : Heap} {zc : Int32} {o d : Addr} {u : Value} (J : JS Z h zc o d u) : Byt Z h o 100 (fun r => Int32.ofNat (48 + r % 10)) := J.2.2.2.1
theorem JS.ST {Z : State} {h : Heap} {zc : Int32} {o d : Addr} {u : Value} (J : JS Z h zc o d u) : Sta Z h "java/lang/Integer" "DigitTens" "[B" (.ref d) := J.2.2.2.2.1
theorem JS.BT {Z : State} {h : Heap} {zc : Int32} {o d : Addr} {u : Value} (J : JS Z h zc o d u) : Byt Z h d 100 (fun r => Int32.ofNat (48 + r / 10)) := J.2.2.2.2.2.1
theorem JS.SF {Z : State} {h : Heap} {zc : Int32} {o d : Addr} {u : Value} (J : JS Z h zc o d u) : Sta Z h "jdk/internal/util/Preconditions" "SIOOBE_FORMATTER" "Ljava/util/function/BiFunction;" u := J.2.2.2.2.2.2.1
theorem JS.hu {Z : State} {h : Heap} {zc : Int32} {o d : Addr} {u : Value} (J : JS Z h zc o d u) : u.isRef = true := J.2.2.2.2.2.2.2
theorem JS.ext {Z : State} {h h' : Heap} {zc : Int32} {o d : Addr} {u : Value} (J : JS Z h zc o d u) (E : Ext h h') : JS Z h' zc o d u := ⟨J.SC.ext E, J.hzc, J.SO.ext E, J.BO.ext E, J.ST.ext E, J.BT.ext E, J.SF.ext E, J.hu⟩
def SBt (Z : State) (h : Heap) (x t : Addr) (N : Nat) (f : Nat → Int32) (n : Nat) : Prop := Exa Z h x "java/lang/StringBuilder" ∧ Fld Z h x "java/lang/AbstractStringBuilder" "value" "[B" (.ref t) ∧ Fld Z h x "java/lang/AbstractStringBuilder" "coder" "B" (.int (0 : Int32)) ∧ Fld Z h x "java/lang/AbstractStringBuilder" "count" "I" (.int (Int32.ofNat n)) ∧ Byt Z h t N f ∧ Exa Z h t "[B" ∧ (N = 22 ∨ N = 46) ∧ x ≠ t ∧ n ≤ N
theorem SBt.keep {Z : State} {h h' : Heap} {x t : Addr} {N : Nat} {f : Nat → Int32} {n : Nat} {ws : List Addr} (S : SBt Z h x t N f n) (K : Keep h h' ws) (q1 : x ∉ ws) (q2 : t ∉ ws) : SBt Z h' x t N f n := by
  obtain ⟨a, b, c, d, e, f, g⟩ := S
  exact ⟨a.keep K, b.keep K q1, c.keep K q1, d.keep K q1, e.keep K q2, f.keep K, g⟩
theorem SBt.ext {Z : State} {h h' : Heap} {x t : Addr} {N : Nat} {f : Nat → Int32} {n : Nat} (S : SBt Z h x t N f n) (E : Ext h h') : SBt Z h' x t N f n := by
  obtain ⟨a, b, c, d, e, f, g⟩ := S
  exact ⟨a.ext E, b.ext E, c.ext E, d.ext E, e.ext E, f.ext E, g⟩
abbrev B61 := jdk_65_method_121_code
theorem d61_0 : decode B61 0 = .ok (.iload_n 1, 1) := by decide +kernel
theorem d61_1 : decode B61 1 = .ok (.aload_n 0, 1) := by decide +kernel
theorem d61_2 : decode B61 2 = .ok (.arraylength, 1) := by decide +kernel
theorem d61_3 : decode B61 3 = .ok (.if_icmp .ne 11, 3) := by decide +kernel
theorem d61_14 : decode B61 14 = .ok (.iload_n 1, 1) := by decide +kernel
theorem d61_15 : decode B61 15 = .ok (.newarray .byte, 2) := by decide +kernel
theorem d61_17 : decode B61 17 = .ok (.astore_n 2, 1) := by decide +kernel
theorem d61_18 : decode B61 18 = .ok (.aload_n 0, 1) := by decide +kernel
theorem d61_19 : decode B61 19 = .ok (.iconst 0, 1) := by decide +kernel
theorem d61_20 : decode B61 20 = .ok (.aload_n 2, 1) := by decide +kernel
theorem d61_21 : decode B61 21 = .ok (.iconst 0, 1) := by decide +kernel
theorem d61_22 : decode B61 22 = .ok (.aload_n 0, 1) := by decide +kernel
theorem d61_23 : decode B61 23 = .ok (.arraylength, 1) := by decide +kernel
theorem d61_24 : decode B61 24 = .ok (.iload_n 1, 1) := by decide +kernel
theorem d61_25 : decode B61 25 = .ok (.invokestatic 304, 3) := by decide +kernel
theorem d61_28 : decode B61 28 = .ok (.invokestatic 150, 3) := by decide +kernel
theorem d61_31 : decode B61 31 = .ok (.aload_n 2, 1) := by decide +kernel
theorem d61_32 : decode B61 32 = .ok (.areturn, 1) := by decide +kernel
theorem pn6 : plainName "java/util/Arrays" = true := by first | (simp [plainName, overriddenIn]; done) | decide +kernel
def Q_cpo (Z : State) (t : Addr) (N : Nat) (f : Nat → Int32) (k : Nat) (h0 : Heap) (n0 : Nat) (vz : Option Value) (hz : Heap) (Lz : List Loc) : Prop := ∃ b : Addr, vz = some (.ref b) ∧ Fr n0 Lz ∧ Ext h0 hz ∧ h0.size ≤ b ∧ Byt Z hz b k (fun j => if 0 ≤ j ∧ j < 0 + N then f (j - 0) else 0) ∧ Exa Z hz b "[B"
abbrev rr_cpo : Room := ({ frames := 1, cells := 1, slots := 64, locals := 40 } : Room)
set_option maxRecDepth 65536 in
set_option maxHeartbeats 40000000 in
theorem rm_cpo (l : Launch) (Z : State) (a0 : Array Value) (hw : ∀ d ∈ tables_1, d.before a0 Z = true) (ws : List Jvm.Cond) (t : Addr) (N : Nat) (f : Nat → Int32) (k : Nat) (h0 : Heap) (n0 : Nat) (Z0 : n0 ≤ h0.size) (B0 : Byt Z h0 t N f) (hNk : N < k) (hk : k ≤ 64) :
    MetFree l mn12 (head1 (Jvm.Cond.code mn12 jdk_65_method_121_code 3 (some (.array .byte)) :: ws) rr_cpo) (PreK Z #[(.ref t), (.int (Int32.ofNat k))] h0) (fun _ _ _ _ _ => True) (PosK (Q_cpo Z t N f k h0 n0) rr_cpo) := by
  refine startK n0 (L := #[vr t, vi (Int32.ofNat k), .unset]) (plainFor_of_name pn6) (fun _ => rfl) fun p e s m below meth c s₁ Bd hZ hh hx hby hml hown hnm hlk X0 e0 N0 => ?_
  have hk31 : k < 2 ^ 31 := by omega
  have hN31 : N < 2 ^ 31 := by omega
  have K0 : Keep h0 h0 [] := Keep.refl h0 []
  refine EndsK.go (fun _ kz => XS.iloadN X0.here hx rfl (hb hby d61_0) rfl (XS.aloadN X0.here hx rfl (hb hby d61_1) rfl rfl kz)) ?_
  obtain ⟨ca1, Aa1, za1, la1, Ha1⟩ := id B0
  refine EndsK.go (fun tz kz => X0.arraylength hx (by rw [e0]; exact Aa1.1) (State.isArrayOf_alike hZ.alike Aa1.2.1) (g := (mkF m 2 #[vr t, vi (Int32.ofNat k), .unset] [(.ref t), (.int (Int32.ofNat k))])) rfl rfl (hb hby d61_2) tz kz) ?_
  rw [(show ca1.slots.size.toInt32 = Int32.ofNat (N) from by rw [za1])]
  refine EndsK.go (fun _ kz => XS.icmpYes X0.here hx rfl (pc0 := 3) (pc' := 14) rfl (hb hby d61_3) rfl (feq (fun q => absurd ((on_eq hk31 hN31).mp q) (by omega))).2 (by decide) (by decide) (XS.iloadN X0.here hx rfl (hb hby d61_14) rfl kz)) ?_
  obtain ⟨T2, h2, X2, e2, E2, B2, Eb2, st2⟩ := newB X0 hx hZ (tw hw 36 rfl) e0 (g := (mkF m 15 #[vr t, vi (Int32.ofNat k), .unset] [(.int (Int32.ofNat k))])) rfl (hb hby d61_15) rfl (cap := 64) hk (by decide) (by decide) (by decide)
  obtain ⟨b, g2⟩ : ∃ z, z = h0.size := ⟨_, rfl⟩
  rw [← g2] at B2 Eb2 st2
  refine EndsK.go st2 ?_
  have B2_t := B0.ext E2
  have K2 := K0.ext E2
  have sz_b : h0.size ≤ b := by rw [g2]; exact K0.1
  have ne_t_b : t ≠ b := Nat.ne_of_lt (by rw [g2]; exact B0.lt)
  have Z2 : n0 ≤ h2.size := Nat.le_trans Z0 E2.1
  have G2 : n0 ≤ b := by rw [g2]; exact Z0
  refine EndsK.go (fun _ kz => XS.astoreN X2.here hx rfl (hb hby d61_17) rfl rfl (l' := #[vr t, vi (Int32.ofNat k), vr b]) rfl (XS.aloadN X2.here hx rfl (hb hby d61_18) rfl rfl (XS.iconst X2.here hx rfl (hb hby d61_19) (XS.aloadN X2.here hx rfl (hb hby d61_20) rfl rfl (XS.iconst X2.here hx rfl (hb hby d61_21) (XS.aloadN X2.here hx rfl (hb hby d61_22) rfl rfl kz)))))) ?_
  obtain ⟨ca3, Aa3, za3, la3, Ha3⟩ := id B2_t
  refine EndsK.go (fun tz kz => X2.arraylength hx (by rw [e2]; exact Aa3.1) (State.isArrayOf_alike hZ.alike Aa3.2.1) (g := (mkF m 23 #[vr t, vi (Int32.ofNat k), vr b] [(.ref t), (.int (0 : Int32)), (.ref b), (.int (0 : Int32)), (.ref t)])) rfl rfl (hb hby d61_23) tz kz) ?_
  rw [(show ca3.slots.size.toInt32 = Int32.ofNat (N) from by rw [za3])]
  refine EndsK.go (fun _ kz => XS.iloadN X2.here hx rfl (hb hby d61_24) rfl kz) ?_
  obtain ⟨_, T4, Lc4, X4, hQ4, st4⟩ := doneG X2 (Jvm.LawKit.callS X2 hx (y := mn4) hown (mvT hZ (tw hw 191 rfl)) (mvT hZ (tw hw 192 rfl)) (mvT hZ (tw hw 193 rfl)) (mvT hZ (tw hw 194 rfl)) (by decide) (backOf (W := 4) (rm_min l Z a0 hw [] (Int32.ofNat (N)) (Int32.ofNat k) h2 n0 Z2) hZ (tw hw 194 rfl) (tw hw 193 rfl) (by decide) (by decide)) (g := (mkF m 25 #[vr t, vi (Int32.ofNat k), vr b] [(.int (Int32.ofNat k)), (.int (Int32.ofNat (N))), (.int (0 : Int32)), (.ref b), (.int (0 : Int32)), (.ref t)])) rfl (by rw [hml]; rfl) (argsL := [(.int (Int32.ofNat (N))), (.int (Int32.ofNat k))]) (rest := [(.int (0 : Int32)), (.ref b), (.int (0 : Int32)), (.ref t)]) (lenOf pd3 rfl) rfl (by show 2 * 0 + _ ≤ _; exact Nat.le_of_eq rfl) (hb hby d61_25) (fun _ _ => ⟨rfl, e2, (by decide : 0 + 1 + 0 ≤ _), (by decide : 0 + 64 + 0 ≤ _)⟩))
  obtain ⟨rfl, N4, e4⟩ := hQ4
  have M4 := Fr.app N0 N4
  refine EndsK.go st4 ?_
  refine EndsK.start (congrArg (fun z_ => (mkF m 28 #[vr t, vi (Int32.ofNat k), vr b] [(.int z_), (.int (0 : Int32)), (.ref b), (.int (0 : Int32)), (.ref t)])) (minF_of hN31 hk31 (Nat.le_of_lt hNk) : (minF (Int32.ofNat (N)) (Int32.ofNat k)) = (Int32.ofNat N))) ?_
  obtain ⟨T5, h5, X5, e5, Kc5, B5, st5⟩ := copyB X4 hx hZ hown (tw hw 195 rfl) (tw hw 110 rfl) (tw hw 108 rfl) (tw hw 109 rfl) e4 (q := 0) (n := N) B2_t B2 (Nat.le_refl _) (by omega) (g := (mkF m 28 #[vr t, vi (Int32.ofNat k), vr b] [(.int (Int32.ofNat N)), (.int (0 : Int32)), (.ref b), (.int (0 : Int32)), (.ref t)])) rfl (by rw [hml]; rfl) rfl (hb hby d61_28) (by decide) (by show 2 * 0 + _ ≤ _; decide)
  refine EndsK.go st5 ?_
  have N5 := Fr.app M4 (fun y hy => by rw [copyLocs_base hy]; exact G2 : Fr n0 (copyLocs b 0 N))
  have K5 := K2.trans Kc5 (allS (Or.inr sz_b) all0)
  have Z5 : n0 ≤ h5.size := Nat.le_trans Z2 Kc5.1
  have B5_t := B2_t.keep Kc5 (ninS ne_t_b nin0)
  have E5_b := Eb2.keep Kc5
  refine EndsK.go (fun _ kz => XS.aloadN X5.here hx rfl (hb hby d61_31) rfl rfl kz) ?_
  show EndsK p e below _ (T5.setTop (mkF m 32 #[vr t, vi (Int32.ofNat k), vr b] [(.ref b)]))
  exact endR X5 hx Bd.returns rfl rfl (hb hby d61_32) hlk ⟨b, rfl, N5, by rw [e5]; exact ext_kept (ext_refl h0) K5 all0, sz_b, by rw [e5]; exact B5, by rw [e5]; exact E5_b⟩ (by decide) (by decide)
abbrev B59 := jdk_68_method_10_code
theorem d59_0 : decode B59 0 = .ok (.aload_n 0, 1) := by decide +kernel
theorem d59_1 : decode B59 1 = .ok (.getfield 15, 3) := by decide +kernel
theorem d59_4 : decode B59 4 = .ok (.arraylength, 1) := by decide +kernel
theorem d59_5 : decode B59 5 = .ok (.istore_n 2, 1) := by decide +kernel
theorem d59_6 : decode B59 6 = .ok (.iload_n 1, 1) := by decide +kernel
theorem d59_7 : decode B59 7 = .ok (.aload_n 0, 1) := by decide +kernel
theorem d59_8 : decode B59 8 = .ok (.getfield 22, 3) := by decide +kernel
theorem d59_11 : decode B59 11 = .ok (.ishl, 1) := by decide +kernel
theorem d59_12 : decode B59 12 = .ok (.istore_n 3, 1) := by decide +kernel
theorem d59_13 : decode B59 13 = .ok (.iload_n 3, 1) := by decide +kernel
theorem d59_14 : decode B59 14 = .ok (.iload_n 2, 1) := by decide +kernel
theorem d59_15 : decode B59 15 = .ok (.isub, 1) := by decide +kernel
theorem d59_16 : decode B59 16 = .ok (.istore 4, 2) := by decide +kernel
theorem d59_18 : decode B59 18 = .ok (.iload_n 2, 1) := by decide +kernel
theorem d59_19 : decode B59 19 = .ok (.iload 4, 2) := by decide +kernel
theorem d59_21 : decode B59 21 = .ok (.iload_n 2, 1) := by decide +kernel
theorem d59_22 : decode B59 22 = .ok (.iconst 2, 1) := by decide +kernel
theorem d59_23 : decode B59 23 = .ok (.aload_n 0, 1) := by decide +kernel
theorem d59_24 : decode B59 24 = .ok (.getfield 22, 3) := by decide +kernel
theorem d59_27 : decode B59 27 = .ok (.ishl, 1) := by decide +kernel
theorem d59_28 : decode B59 28 = .ok (.iadd, 1) := by decide +kernel
theorem d59_29 : decode B59 29 = .ok (.invokestatic 114, 3) := by decide +kernel
theorem d59_32 : decode B59 32 = .ok (.istore 5, 2) := by decide +kernel
theorem d59_34 : decode B59 34 = .ok (.iload 5, 2) := by decide +kernel
theorem d59_36 : decode B59 36 = .ok (.ldc 39, 2) := by decide +kernel
theorem d59_38 : decode B59 38 = .ok (.if_icmp .ne 13, 3) := by decide +kernel
theorem d59_51 : decode B59 51 = .ok (.iload 5, 2) := by decide +kernel
theorem d59_53 : decode B59 53 = .ok (.aload_n 0, 1) := by decide +kernel
theorem d59_54 : decode B59 54 = .ok (.getfield 22, 3) := by decide +kernel
theorem d59_57 : decode B59 57 = .ok (.ishr, 1) := by decide +kernel
theorem d59_58 : decode B59 58 = .ok (.ireturn, 1) := by decide +kernel
def Q_ncap (Z : State) (x : Addr) (t : Addr) (f : Nat → Int32) (k : Nat) (h0 : Heap) (n0 : Nat) (vz : Option Value) (hz : Heap) (Lz : List Loc) : Prop := vz = some (.int 46) ∧ Fr n0 Lz ∧ hz = h0
abbrev rr_ncap : Room := ({ frames := 2, cells := 0, slots := 0, locals := 40 } : Room)
theorem pd4 : parseMethodDescriptor "(III)I" = some ⟨[.int, .int, .int], some .int⟩ := by decide +kernel
set_option maxRecDepth 65536 in
set_option maxHeartbeats 40000000 in
theorem rm_ncap (l : Launch) (Z : State) (a0 : Array Value) (hw : ∀ d ∈ tables_1, d.before a0 Z = true) (ws : List Jvm.Cond) (x : Addr) (t : Addr) (f : Nat → Int32) (k : Nat) (h0 : Heap) (n0 : Nat) (Z0 : n0 ≤ h0.size) (Fv : Fld Z h0 x "java/lang/AbstractStringBuilder" "value" "[B" (.ref t)) (Fc : Fld Z h0 x "java/lang/AbstractStringBuilder" "coder" "B" (.int (0 : Int32))) (B0 : Byt Z h0 t 22 f) (hk1 : 22 < k) (hk2 : k ≤ 42) :
    MetFree l mn13 (head1 (Jvm.Cond.code mn13 jdk_68_method_10_code 6 (some .int) :: ws) rr_ncap) (PreK Z #[(.ref x), (.int (Int32.ofNat k))] h0) (fun _ _ _ _ _ => True) (PosK (Q_ncap Z x t f k h0 n0) rr_ncap) := by
  refine startK n0 (L := #[vr x, vi (Int32.ofNat k), .unset, .unset, .unset, .unset]) (plainFor_of_name pn2) (fun _ => rfl) fun p e s m below meth c s₁ Bd hZ hh hx hby hml hown hnm hlk X0 e0 N0 => ?_
  have hm : maxF ((Int32.ofNat k) - (Int32.ofNat (22))) (24 : Int32) = 24 := maxF_small hk1 hk2
  refine EndsK.go (fun _ kz => XS.aloadN X0.here hx rfl (hb hby d59_0) rfl rfl kz) ?_
  obtain ⟨T1, X1, e1, st1⟩ := getF X0 hx hZ hown (host := "") (Or.inl (tw hw 68 rfl)) Via.refl e0 Fv (g := (mkF m 1 #[vr x, vi (Int32.ofNat k), .unset, .unset, .unset, .unset] [(.ref x)])) rfl rfl (hb hby d59_1)
  refine EndsK.go st1 ?_
  obtain ⟨ca2, Aa2, za2, la2, Ha2⟩ := id B0
  refine EndsK.go (fun tz kz => X1.arraylength hx (by rw [e1]; exact Aa2.1) (State.isArrayOf_alike hZ.alike Aa2.2.1) (g := (mkF m 4 #[vr x, vi (Int32.ofNat k), .unset, .unset, .unset, .unset] [(.ref t)])) rfl rfl (hb hby d59_4) tz kz) ?_
  rw [(show ca2.slots.size.toInt32 = Int32.ofNat (22) from by rw [za2])]
  refine EndsK.go (fun _ kz => XS.istoreN X1.here hx rfl (hb hby d59_5) rfl (l' := #[vr x, vi (Int32.ofNat k), vi (Int32.ofNat (22)), .unset, .unset, .unset]) rfl (XS.iloadN X1.here hx rfl (hb hby d59_6) rfl (XS.aloadN X1.here hx rfl (hb hby d59_7) rfl rfl kz))) ?_
  obtain ⟨T3, X3, e3, st3⟩ := getF X1 hx hZ hown (host := "") (Or.inl (tw hw 66 rfl)) Via.refl e1 Fc (g := (mkF m 8 #[vr x, vi (Int32.ofNat k), vi (Int32.ofNat (22)), .unset, .unset, .unset] [(.ref x), (.int (Int32.ofNat k))])) rfl rfl (hb hby d59_8)
  refine EndsK.go st3 ?_
  refine EndsK.go (fun _ kz => XS.ishl X3.here hx rfl (hb hby d59_11) rfl kz) ?_
  refine EndsK.start (congrArg (fun z_ => (mkF m 12 #[vr x, vi (Int32.ofNat k), vi (Int32.ofNat (22)), .unset, .unset, .unset] [(.int z_)])) (shl0 _ : ((Int32.ofNat k) <<< ((0 : Int32) &&& 31)) = (Int32.ofNat k))) ?_
  refine EndsK.go (fun _ kz => XS.istoreN X3.here hx rfl (hb hby d59_12) rfl (l' := #[vr x, vi (Int32.ofNat k), vi (Int32.ofNat (22)), vi (Int32.ofNat k), .unset, .unset]) rfl (XS.iloadN X3.here hx rfl (hb hby d59_13) rfl (XS.iloadN X3.here hx rfl (hb hby d59_14) rfl (XS.isub X3.here hx rfl (hb hby d59_15) rfl (XS.istore X3.here hx rfl (hb hby d59_16) rfl (l' := #[vr x, vi (Int32.ofNat k), vi (Int32.ofNat (22)), vi (Int32.ofNat k), vi ((Int32.ofNat k) - (Int32.ofNat (22))), .unset]) rfl (XS.iloadN X3.here hx rfl (hb hby d59_18) rfl (XS.iload X3.here hx rfl (hb hby d59_19) rfl kz))))))) ?_
  show EndsK p e below _ (T3.setTop (mkF m 21 #[vr x, vi (Int32.ofNat k), vi (Int32.ofNat (22)), vi (Int32.ofNat k), vi ((Int32.ofNat k) - (Int32.ofNat (22))), .unset] [(.int ((Int32.ofNat k) - (Int32.ofNat (22)))), (.int (Int32.ofNat (22)))]))
  refine EndsK.go (fun _ kz => XS.iloadN X3.here hx rfl (hb hby d59_21) rfl (XS.iconst X3.here hx rfl (hb hby d59_22) (XS.aloadN X3.here hx rfl (hb hby d59_23) rfl rfl kz))) ?_
  obtain ⟨T4, X4, e4, st4⟩ := getF X3 hx hZ hown (host := "") (Or.inl (tw hw 66 rfl)) Via.refl e3 Fc (g := (mkF m 24 #[vr x, vi (Int32.ofNat k), vi (Int32.ofNat (22)), vi (Int32.ofNat k), vi ((Int32.ofNat k) - (Int32.ofNat (22))), .unset] [(.ref x), (.int (2 : Int32)), (.int (Int32.ofNat (22))), (.int ((Int32.ofNat k) - (Int32.ofNat (22)))), (.int (Int32.ofNat (22)))])) rfl rfl (hb hby d59_24)
  refine EndsK.go st4 ?_
  refine EndsK.go (fun _ kz => XS.ishl X4.here hx rfl (hb hby d59_27) rfl (XS.iadd X4.here hx rfl (hb hby d59_28) rfl kz)) ?_
  refine EndsK.start (congrArg (fun z_ => (mkF m 29 #[vr x, vi (Int32.ofNat k), vi (Int32.ofNat (22)), vi (Int32.ofNat k), vi ((Int32.ofNat k) - (Int32.ofNat (22))), .unset] [(.int z_), (.int ((Int32.ofNat k) - (Int32.ofNat (22)))), (.int (Int32.ofNat (22)))])) (by decide : ((Int32.ofNat (22)) + ((2 : Int32) <<< ((0 : Int32) &&& 31))) = (24 : Int32))) ?_
  obtain ⟨_, T5, Lc5, X5, hQ5, st5⟩ := doneG X4 (Jvm.LawKit.callS X4 hx (y := mn10) hown (mvT hZ (tw hw 345 rfl)) (mvT hZ (tw hw 346 rfl)) (mvT hZ (tw hw 347 rfl)) (mvT hZ (tw hw 348 rfl)) (by decide) (backOf (W := 0) (rm_nl l Z a0 hw [] (Int32.ofNat (22)) ((Int32.ofNat k) - (Int32.ofNat (22))) (24 : Int32) h0 n0 Z0 (by rw [hm]; decide) (by rw [hm]; decide)) hZ (tw hw 348 rfl) (tw hw 347 rfl) (by decide) (by decide)) (g := (mkF m 29 #[vr x, vi (Int32.ofNat k), vi (Int32.ofNat (22)), vi (Int32.ofNat k), vi ((Int32.ofNat k) - (Int32.ofNat (22))), .unset] [(.int (24 : Int32)), (.int ((Int32.ofNat k) - (Int32.ofNat (22)))), (.int (Int32.ofNat (22)))])) rfl (by rw [hml]; rfl) (argsL := [(.int (Int32.ofNat (22))), (.int ((Int32.ofNat k) - (Int32.ofNat (22)))), (.int (24 : Int32))]) (rest := []) (lenOf pd4 rfl) rfl (by show 2 * 0 + _ ≤ _; exact Nat.le_of_eq rfl) (hb hby d59_29) (fun _ _ => ⟨rfl, e4, (by decide : 0 + 0 ≤ _), (by decide : 0 + 0 ≤ _)⟩))
  obtain ⟨rfl, N5, e5⟩ := hQ5
  have M5 := Fr.app N0 N5
  refine EndsK.go st5 ?_
  refine EndsK.start (congrArg (fun z_ => (mkF m 32 #[vr x, vi (Int32.ofNat k), vi (Int32.ofNat (22)), vi (Int32.ofNat k), vi ((Int32.ofNat k) - (Int32.ofNat (22))), .unset] [(.int z_)])) (by rw [hm]; rfl : ((Int32.ofNat (22)) + maxF ((Int32.ofNat k) - (Int32.ofNat (22))) (24 : Int32)) = (46 : Int32))) ?_
  refine EndsK.go (fun _ kz => XS.istore X5.here hx rfl (hb hby d59_32) rfl (l' := #[vr x, vi (Int32.ofNat k), vi (Int32.ofNat (22)), vi (Int32.ofNat k), vi ((Int32.ofNat k) - (Int32.ofNat (22))), vi (46 : Int32)]) rfl (XS.iload X5.here hx rfl (hb hby d59_34) rfl (X5.ldcI hx hown (mvT hZ (tw hw 351 rfl)) rfl (hb hby d59_36) (XS.icmpYes X5.here hx rfl (pc0 := 38) (pc' := 51) rfl (hb hby d59_38) rfl (feq (by decide : ¬ ((46 : Int32) = (2147483647 : Int32)))).2 (by decide) (by decide) (XS.iload X5.here hx rfl (hb hby d59_51) rfl (XS.aloadN X5.here hx rfl (hb hby d59_53) rfl rfl kz)))))) ?_
  obtain ⟨T6, X6, e6, st6⟩ := getF X5 hx hZ hown (host := "") (Or.inl (tw hw 66 rfl)) Via.refl e5 Fc (g := (mkF m 54 #[vr x, vi (Int32.ofNat k), vi (Int32.ofNat (22)), vi (Int32.ofNat k), vi ((Int32.ofNat k) - (Int32.ofNat (22))), vi (46 : Int32)] [(.ref x), (.int (46 : Int32))])) rfl rfl (hb hby d59_54)
  refine EndsK.go st6 ?_
  refine EndsK.go (fun _ kz => XS.ishr X6.here hx rfl (hb hby d59_57) rfl kz) ?_
  show EndsK p e below _ (T6.setTop (mkF m 58 #[vr x, vi (Int32.ofNat k), vi (Int32.ofNat (22)), vi (Int32.ofNat k), vi ((Int32.ofNat k) - (Int32.ofNat (22))), vi (46 : Int32)] [(.int ((46 : Int32) >>> ((0 : Int32) &&& 31)))]))
  exact endI X6 hx Bd.returns (hb hby d59_58) hlk ⟨(congrArg (fun z => some (Value.int z)) (by decide : (46 : Int32) = ((46 : Int32) >>> ((0 : Int32) &&& 31)))).symm, M5, e6⟩ (by decide) (by decide)
abbrev B13 := jdk_68_method_9_code
theorem d13_0 : decode B13 0 = .ok (.aload_n 0, 1) := by decide +kernel
theorem d13_1 : decode B13 1 = .ok (.getfield 15, 3) := by decide +kernel
theorem d13_4 : decode B13 4 = .ok (.arraylength, 1) := by decide +kernel
theorem d13_5 : decode B13 5 = .ok (.aload_n 0, 1) := by decide +kernel
theorem d13_6 : decode B13 6 = .ok (.getfield 22, 3) := by decide +kernel
theorem d13_9 : decode B13 9 = .ok (.ishr, 1) := by decide +kernel
theorem d13_10 : decode B13 10 = .ok (.istore_n 2, 1) := by decide +kernel
theorem d13_11 : decode B13 11 = .ok (.iload_n 1, 1) := by decide +kernel
theorem d13_12 : decode B13 12 = .ok (.iload_n 2, 1) := by decide +kernel
theorem d13_13 : decode B13 13 = .ok (.isub, 1) := by decide +kernel
theorem d13_14 : decode B13 14 = .ok (.ifCond .le 24, 3) := by decide +kernel
theorem d13_17 : decode B13 17 = .ok (.aload_n 0, 1) := by decide +kernel
theorem d13_18 : decode B13 18 = .ok (.aload_n 0, 1) := by decide +kernel
theorem d13_19 : decode B13 19 = .ok (.getfield 15, 3) := by decide +kernel
theorem d13_22 : decode B13 22 = .ok (.aload_n 0, 1) := by decide +kernel
theorem d13_23 : decode B13 23 = .ok (.iload_n 1, 1) := by decide +kernel
theorem d13_24 : decode B13 24 = .ok (.invokevirtual 104, 3) := by decide +kernel
theorem d13_27 : decode B13 27 = .ok (.aload_n 0, 1) := by decide +kernel
theorem d13_28 : decode B13 28 = .ok (.getfield 22, 3) := by decide +kernel
theorem d13_31 : decode B13 31 = .ok (.ishl, 1) := by decide +kernel
theorem d13_32 : decode B13 32 = .ok (.invokestatic 108, 3) := by decide +kernel
theorem d13_35 : decode B13 35 = .ok (.putfield 15, 3) := by decide +kernel
theorem d13_38 : decode B13 38 = .ok (.return_, 1) := by decide +kernel
def Q_ensN (Z : State) (x : Addr) (t : Addr) (N : Nat) (f : Nat → Int32) (n : Nat) (k : Nat) (h0 : Heap) (n0 : Nat) (vz : Option Value) (hz : Heap) (Lz : List Loc) : Prop := vz = none ∧ Fr n0 Lz ∧ hz = h0
abbrev rr_ensN : Room := ({ frames := 3, cells := 1, slots := 64, locals := 57 } : Room)
set_option maxRecDepth 65536 in
set_option maxHeartbeats 40000000 in
theorem rm_ensN (l : Launch) (Z : State) (a0 : Array Value) (hw : ∀ d ∈ tables_1, d.before a0 Z = true) (ws : List Jvm.Cond) (x : Addr) (t : Addr) (N : Nat) (f : Nat → Int32) (n : Nat) (k : Nat) (h0 : Heap) (n0 : Nat) (Z0 : n0 ≤ h0.size) (S0 : SBt Z h0 x t N f n) (hkN : k ≤ N) :
    MetFree l mn14 (head1 (Jvm.Cond.code mn14 jdk_68_method_9_code 3 none :: ws) rr_ensN) (PreK Z #[(.ref x), (.int (Int32.ofNat k))] h0) (fun _ _ _ _ _ => True) (PosK (Q_ensN Z x t N f n k h0 n0) rr_ensN) := by
  refine startK n0 (L := #[vr x, vi (Int32.ofNat k), .unset]) (plainFor_of_name pn2) (fun _ => rfl) fun p e s m below meth c s₁ Bd hZ hh hx hby hml hown hnm hlk X0 e0 N0 => ?_
  obtain ⟨Ex, Fv, Fc, Fn, B0, Et, hN, nxt, hnN⟩ := id S0
  have K0 : Keep h0 h0 [x] := Keep.refl h0 [x]
  refine EndsK.go (fun _ kz => XS.aloadN X0.here hx rfl (hb hby d13_0) rfl rfl kz) ?_
  obtain ⟨T1, X1, e1, st1⟩ := getF X0 hx hZ hown (host := "") (Or.inl (tw hw 68 rfl)) Via.refl e0 Fv (g := (mkF m 1 #[vr x, vi (Int32.ofNat k), .unset] [(.ref x)])) rfl rfl (hb hby d13_1)
  refine EndsK.go st1 ?_
  obtain ⟨ca2, Aa2, za2, la2, Ha2⟩ := id B0
  refine EndsK.go (fun tz kz => X1.arraylength hx (by rw [e1]; exact Aa2.1) (State.isArrayOf_alike hZ.alike Aa2.2.1) (g := (mkF m 4 #[vr x, vi (Int32.ofNat k), .unset] [(.ref t)])) rfl rfl (hb hby d13_4) tz kz) ?_
  rw [(show ca2.slots.size.toInt32 = Int32.ofNat (N) from by rw [za2])]
  refine EndsK.go (fun _ kz => XS.aloadN X1.here hx rfl (hb hby d13_5) rfl rfl kz) ?_
  obtain ⟨T3, X3, e3, st3⟩ := getF X1 hx hZ hown (host := "") (Or.inl (tw hw 66 rfl)) Via.refl e1 Fc (g := (mkF m 6 #[vr x, vi (Int32.ofNat k), .unset] [(.ref x), (.int (Int32.ofNat (N)))])) rfl rfl (hb hby d13_6)
  refine EndsK.go st3 ?_
  refine EndsK.go (fun _ kz => XS.ishr X3.here hx rfl (hb hby d13_9) rfl kz) ?_
  refine EndsK.start (congrArg (fun z_ => (mkF m 10 #[vr x, vi (Int32.ofNat k), .unset] [(.int z_)])) (shr0 _ : ((Int32.ofNat (N)) >>> ((0 : Int32) &&& 31)) = (Int32.ofNat (N)))) ?_
  refine EndsK.go (fun _ kz => XS.istoreN X3.here hx rfl (hb hby d13_10) rfl (l' := #[vr x, vi (Int32.ofNat k), vi (Int32.ofNat (N))]) rfl (XS.iloadN X3.here hx rfl (hb hby d13_11) rfl (XS.iloadN X3.here hx rfl (hb hby d13_12) rfl (XS.isub X3.here hx rfl (hb hby d13_13) rfl (XS.ifYes X3.here hx rfl (pc0 := 14) (pc' := 38) rfl (hb hby d13_14) rfl ((if0 _ _).trans (flt (fun q => absurd ((on_sub_pos (by omega) (by omega)).mp q) (by omega))).2.2.2) (by decide) (by decide) kz))))) ?_
  show EndsK p e below _ (T3.setTop (mkF m 38 #[vr x, vi (Int32.ofNat k), vi (Int32.ofNat (N))] []))
  exact endV X3 hx Bd.returns (hb hby d13_38) hlk ⟨rfl, N0, e3⟩ (by decide) (by decide)
def Q_ens (Z : State) (x : Addr) (t : Addr) (N : Nat) (f : Nat → Int32) (n : Nat) (k : Nat) (h0 : Heap) (n0 : Nat) (vz : Option Value) (hz : Heap) (Lz : List Loc) : Prop := ∃ (t' : Addr) (N' : Nat) (F : Nat → Int32), vz = none ∧ Fr n0 Lz ∧ Keep h0 hz [x] ∧ (t' = t ∨ h0.size ≤ t') ∧ SBt Z hz x t' N' F n ∧ k ≤ N' ∧ (∀ j, j < N → F j = f j)
abbrev rr_ens : Room := ({ frames := 3, cells := 1, slots := 64, locals := 70 } : Room)
theorem pd5 : parseMethodDescriptor "(I)I" = some ⟨[.int], some .int⟩ := by decide +kernel
theorem pd6 : parseMethodDescriptor "([BI)[B" = some ⟨[(.array .byte), .int], some (.array .byte)⟩ := by decide +kernel
set_option maxRecDepth 65536 in
set_option maxHeartbeats 40000000 in
theorem rm_ens (l : Launch) (Z : State) (a0 : Array Value) (hw : ∀ d ∈ tables_1, d.before a0 Z = true) (ws : List Jvm.Cond) (x : Addr) (t : Addr) (N : Nat) (f : Nat → Int32) (n : Nat) (k : Nat) (h0 : Heap) (n0 : Nat) (Z0 : n0 ≤ h0.size) (S0 : SBt Z h0 x t N f n) (gx : n0 ≤ x) (hk : k ≤ 42) :
    MetFree l mn14 (head1 (Jvm.Cond.code mn14 jdk_68_method_9_code 3 none :: ws) rr_ens) (PreK Z #[(.ref x), (.int (Int32.ofNat k))] h0) (fun _ _ _ _ _ => True) (PosK (Q_ens Z x t N f n k h0 n0) rr_ens) := by
  refine startK n0 (L := #[vr x, vi (Int32.ofNat k), .unset]) (plainFor_of_name pn2) (fun _ => rfl) fun p e s m below meth c s₁ Bd hZ hh hx hby hml hown hnm hlk X0 e0 N0 => ?_
  obtain ⟨Ex, Fv, Fc, Fn, B0, Et, hN, nxt, hnN⟩ := id S0
  have K0 : Keep h0 h0 [x] := Keep.refl h0 [x]
  by_cases hkN : k ≤ N
  · refine EndsK.go (fun _ kz => XS.aloadN X0.here hx rfl (hb hby d13_0) rfl rfl kz) ?_
    obtain ⟨T1, X1, e1, st1⟩ := getF X0 hx hZ hown (host := "") (Or.inl (tw hw 68 rfl)) Via.refl e0 Fv (g := (mkF m 1 #[vr x, vi (Int32.ofNat k), .unset] [(.ref x)])) rfl rfl (hb hby d13_1)
    refine EndsK.go st1 ?_
    obtain ⟨ca2, Aa2, za2, la2, Ha2⟩ := id B0
    refine EndsK.go (fun tz kz => X1.arraylength hx (by rw [e1]; exact Aa2.1) (State.isArrayOf_alike hZ.alike Aa2.2.1) (g := (mkF m 4 #[vr x, vi (Int32.ofNat k), .unset] [(.ref t)])) rfl rfl (hb hby d13_4) tz kz) ?_
    rw [(show ca2.slots.size.toInt32 = Int32.ofNat (N) from by rw [za2])]
    refine EndsK.go (fun _ kz => XS.aloadN X1.here hx rfl (hb hby d13_5) rfl rfl kz) ?_
    obtain ⟨T3, X3, e3, st3⟩ := getF X1 hx hZ hown (host := "") (Or.inl (tw hw 66 rfl)) Via.refl e1 Fc (g := (mkF m 6 #[vr x, vi (Int32.ofNat k), .unset] [(.ref x), (.int (Int32.ofNat (N)))])) rfl rfl (hb hby d13_6)
    refine EndsK.go st3 ?_
    refine EndsK.go (fun _ kz => XS.ishr X3.here hx rfl (hb hby d13_9) rfl kz) ?_
    refine EndsK.start (congrArg (fun z_ => (mkF m 10 #[vr x, vi (Int32.ofNat k), .unset] [(.int z_)])) (shr0 _ : ((Int32.ofNat (N)) >>> ((0 : Int32) &&& 31)) = (Int32.ofNat (N)))) ?_
    refine EndsK.go (fun _ kz => XS.istoreN X3.here hx rfl (hb hby d13_10) rfl (l' := #[vr x, vi (Int32.ofNat k), vi (Int32.ofNat (N))]) rfl (XS.iloadN X3.here hx rfl (hb hby d13_11) rfl (XS.iloadN X3.here hx rfl (hb hby d13_12) rfl (XS.isub X3.here hx rfl (hb hby d13_13) rfl (XS.ifYes X3.here hx rfl (pc0 := 14) (pc' := 38) rfl (hb hby d13_14) rfl ((if0 _ _).trans (flt (fun q => absurd ((on_sub_pos (by omega) (by omega)).mp q) (by omega))).2.2.2) (by decide) (by decide) kz))))) ?_
    show EndsK p e below _ (T3.setTop (mkF m 38 #[vr x, vi (Int32.ofNat k), vi (Int32.ofNat (N))] []))
    exact endV X3 hx Bd.returns (hb hby d13_38) hlk ⟨t, N, f, rfl, N0, by rw [e3]; exact K0, Or.inl rfl, by rw [e3]; exact S0, hkN, fun _ _ => rfl⟩ (by decide) (by decide)
  · have hN22 : N = 22 := by omega
    subst hN22
    refine EndsK.go (fun _ kz => XS.aloadN X0.here hx rfl (hb hby d13_0) rfl rfl kz) ?_
    obtain ⟨T1, X1, e1, st1⟩ := getF X0 hx hZ hown (host := "") (Or.inl (tw hw 68 rfl)) Via.refl e0 Fv (g := (mkF m 1 #[vr x, vi (Int32.ofNat k), .unset] [(.ref x)])) rfl rfl (hb hby d13_1)
    refine EndsK.go st1 ?_
    obtain ⟨ca2, Aa2, za2, la2, Ha2⟩ := id B0
    refine EndsK.go (fun tz kz => X1.arraylength hx (by rw [e1]; exact Aa2.1) (State.isArrayOf_alike hZ.alike Aa2.2.1) (g := (mkF m 4 #[vr x, vi (Int32.ofNat k), .unset] [(.ref t)])) rfl rfl (hb hby d13_4) tz kz) ?_
    rw [(show ca2.slots.size.toInt32 = Int32.ofNat (22) from by rw [za2])]
    refine EndsK.go (fun _ kz => XS.aloadN X1.here hx rfl (hb hby d13_5) rfl rfl kz) ?_
    obtain ⟨T3, X3, e3, st3⟩ := getF X1 hx hZ hown (host := "") (Or.inl (tw hw 66 rfl)) Via.refl e1 Fc (g := (mkF m 6 #[vr x, vi (Int32.ofNat k), .unset] [(.ref x), (.int (Int32.ofNat (22)))])) rfl rfl (hb hby d13_6)
    refine EndsK.go st3 ?_
    refine EndsK.go (fun _ kz => XS.ishr X3.here hx rfl (hb hby d13_9) rfl kz) ?_
    refine EndsK.start (congrArg (fun z_ => (mkF m 10 #[vr x, vi (Int32.ofNat k), .unset] [(.int z_)])) (shr0 _ : ((Int32.ofNat (22)) >>> ((0 : Int32) &&& 31)) = (Int32.ofNat (22)))) ?_
    refine EndsK.go (fun _ kz => XS.istoreN X3.here hx rfl (hb hby d13_10) rfl (l' := #[vr x, vi (Int32.ofNat k), vi (Int32.ofNat (22))]) rfl (XS.iloadN X3.here hx rfl (hb hby d13_11) rfl (XS.iloadN X3.here hx rfl (hb hby d13_12) rfl (XS.isub X3.here hx rfl (hb hby d13_13) rfl (XS.ifNo X3.here hx rfl (hb hby d13_14) rfl ((if0 _ _).trans (tlt ((on_sub_pos (by omega) (by omega)).mpr (by omega))).2.2.2) (XS.aloadN X3.here hx rfl (hb hby d13_17) rfl rfl (XS.aloadN X3.here hx rfl (hb hby d13_18) rfl rfl kz))))))) ?_
    show EndsK p e below _ (T3.setTop (mkF m 19 #[vr x, vi (Int32.ofNat k), vi (Int32.ofNat (22))] [(.ref x), (.ref x)]))
    obtain ⟨T4, X4, e4, st4⟩ := getF X3 hx hZ hown (host := "") (Or.inl (tw hw 68 rfl)) Via.refl e3 Fv (g := (mkF m 19 #[vr x, vi (Int32.ofNat k), vi (Int32.ofNat (22))] [(.ref x), (.ref x)])) rfl rfl (hb hby d13_19)
    refine EndsK.go st4 ?_
    refine EndsK.go (fun _ kz => XS.aloadN X4.here hx rfl (hb hby d13_22) rfl rfl (XS.iloadN X4.here hx rfl (hb hby d13_23) rfl kz)) ?_
    obtain ⟨cq5, kq5, qa5, qb5, qc5⟩ := isOf hZ e4 Ex
    obtain ⟨_, T5, Lc5, X5, hQ5, st5⟩ := doneT X4 (X4.virtualBack hx (y := mn13) (z := mn13) hown (mvT hZ (tw hw 340 rfl)) (declares_of (mvT hZ (tw hw 341 rfl)) (mvT hZ (tw hw 344 rfl))) (notFace_of_selects (args := #[]) (mvT hZ (tw hw 343 rfl))) (mvT hZ (tw hw 343 rfl)) (mvT hZ (tw hw 341 rfl)) (by decide) (backOf (W := 2) (rm_ncap l Z a0 hw [] x t f k h0 n0 Z0 Fv Fc B0 (by omega) hk) hZ (tw hw 344 rfl) (tw hw 48 rfl) (by decide) (by decide)) qa5 qc5 (g := (mkF m 24 #[vr x, vi (Int32.ofNat k), vi (Int32.ofNat (22))] [(.int (Int32.ofNat k)), (.ref x), (.ref t), (.ref x)])) rfl (by rw [hml]; rfl) (Steps.refl _) (argsL := [(.int (Int32.ofNat k))]) (rest := [(.ref t), (.ref x)]) (lenOf pd5 rfl) rfl (by show 2 * 0 + _ ≤ _; exact Nat.le_of_eq rfl) (hb hby d13_24) (fun _ _ => ⟨rfl, e4, (by decide : 0 + 0 ≤ _), (by decide : 0 + 0 ≤ _)⟩))
    obtain ⟨rfl, N5, e5⟩ := hQ5
    have M5 := Fr.app N0 N5
    refine EndsK.tr st5 ?_
    refine EndsK.go (fun _ kz => XS.aloadN X5.here hx rfl (hb hby d13_27) rfl rfl kz) ?_
    obtain ⟨T6, X6, e6, st6⟩ := getF X5 hx hZ hown (host := "") (Or.inl (tw hw 66 rfl)) Via.refl e5 Fc (g := (mkF m 28 #[vr x, vi (Int32.ofNat k), vi (Int32.ofNat (22))] [(.ref x), (.int (46 : Int32)), (.ref t), (.ref x)])) rfl rfl (hb hby d13_28)
    refine EndsK.go st6 ?_
    refine EndsK.go (fun _ kz => XS.ishl X6.here hx rfl (hb hby d13_31) rfl kz) ?_
    refine EndsK.start (congrArg (fun z_ => (mkF m 32 #[vr x, vi (Int32.ofNat k), vi (Int32.ofNat (22))] [(.int z_), (.ref t), (.ref x)])) (shl0 _ : ((46 : Int32) <<< ((0 : Int32) &&& 31)) = (Int32.ofNat (46)))) ?_
    obtain ⟨_, T7, Lc7, X7, hQ7, st7⟩ := doneG X6 (Jvm.LawKit.callS X6 hx (y := mn12) hown (mvT hZ (tw hw 352 rfl)) (mvT hZ (tw hw 353 rfl)) (mvT hZ (tw hw 183 rfl)) (mvT hZ (tw hw 354 rfl)) (by decide) (backOf (W := 1) (rm_cpo l Z a0 hw [] t 22 f 46 h0 n0 Z0 B0 (by decide) (by decide)) hZ (tw hw 354 rfl) (tw hw 183 rfl) (by decide) (by decide)) (g := (mkF m 32 #[vr x, vi (Int32.ofNat k), vi (Int32.ofNat (22))] [(.int (Int32.ofNat (46))), (.ref t), (.ref x)])) rfl (by rw [hml]; rfl) (argsL := [(.ref t), (.int (Int32.ofNat (46)))]) (rest := [(.ref x)]) (lenOf pd6 rfl) rfl (by show 2 * 0 + _ ≤ _; exact Nat.le_of_eq rfl) (hb hby d13_32) (fun _ _ => ⟨rfl, e6, (by decide : 0 + 0 + 1 ≤ _), (by decide : 0 + 0 + 64 ≤ _)⟩))
    obtain ⟨b7, rfl, N7, E7, q_s7, B7, Eb7⟩ := hQ7
    have M7 := Fr.app M5 N7
    obtain ⟨h7, e7⟩ : ∃ z, T7.heap = z := ⟨_, rfl⟩
    rw [e7] at E7 B7 Eb7
    have Z7 : n0 ≤ h7.size := Nat.le_trans Z0 E7.1
    have K7 := K0.ext E7
    have E7_x := Ex.ext E7
    have F7_value_x := Fv.ext E7
    have F7_coder_x := Fc.ext E7
    have F7_count_x := Fn.ext E7
    have B7_t := B0.ext E7
    have E7_t := Et.ext E7
    have nb7 : x ≠ b7 := Nat.ne_of_lt (Nat.lt_of_lt_of_le Ex.lt q_s7)
    refine EndsK.go st7 ?_
    obtain ⟨T8, h8, X8, e8, W8, st8⟩ := putF X7 hx hZ hown (host := "") (Or.inl (tw hw 68 rfl)) Via.refl e7 F7_value_x E7_x (Or.inl (tw hw 69 rfl)) (tw hw 31 rfl) (ty := (.array .byte)) (by decide) rfl rfl (g := (mkF m 35 #[vr x, vi (Int32.ofNat k), vi (Int32.ofNat (22))] [(.ref b7), (.ref x)])) rfl rfl (hb hby d13_35)
    refine EndsK.go st8 ?_
    have N8 := Fr.snoc X8 M7 gx
    have E8_x := E7_x.wr W8
    have F8_value := F7_value_x.same W8
    have F8_coder_x := F7_coder_x.other W8 (Or.inr (slot_ne (Or.inl (tw hw 67 rfl)) (Or.inl (tw hw 69 rfl)) (by decide) (t := .byte) (t' := (.array .byte)) (by decide) (by decide)))
    have F8_count_x := F7_count_x.other W8 (Or.inr (slot_ne (Or.inl (tw hw 85 rfl)) (Or.inl (tw hw 69 rfl)) (by decide) (t := .int) (t' := (.array .byte)) (by decide) (by decide)))
    have B8_t := B7_t.other W8 (Ne.symm nxt)
    have E8_t := E7_t.wr W8
    have B8_b7 := B7.other W8 (Ne.symm nb7)
    have E8_b7 := Eb7.wr W8
    have Z8 : n0 ≤ h8.size := Nat.le_trans Z7 (Nat.le_of_eq W8.size.symm)
    have K8 := K7.wr W8 (Or.inl (List.mem_singleton.mpr rfl))
    show EndsK p e below _ (T8.setTop (mkF m 38 #[vr x, vi (Int32.ofNat k), vi (Int32.ofNat (22))] []))
    exact endV X8 hx Bd.returns (hb hby d13_38) hlk ⟨b7, 46, (fun j => if 0 ≤ j ∧ j < 0 + 22 then f (j - 0) else 0), rfl, N8, by rw [e8]; exact K8, Or.inr q_s7, by rw [e8]; exact ⟨E8_x, F8_value, F8_coder_x, F8_count_x, B8_b7, E8_b7, Or.inr rfl, nb7, by omega⟩, by omega, fun j hj => (show (if 0 ≤ j ∧ j < 0 + 22 then f (j - 0) else (0 : Int32)) = f j from if_pos (by omega))⟩ (by decide) (by decide)
abbrev B15 := jdk_68_method_71_code
theorem d15_0 : decode B15 0 = .ok (.getstatic 18, 3) := by decide +kernel
theorem d15_3 : decode B15 3 = .ok (.ifCond .eq 18, 3) := by decide +kernel
theorem d15_6 : decode B15 6 = .ok (.aload_n 0, 1) := by decide +kernel
theorem d15_7 : decode B15 7 = .ok (.getfield 22, 3) := by decide +kernel
theorem d15_10 : decode B15 10 = .ok (.aload_n 1, 1) := by decide +kernel
theorem d15_11 : decode B15 11 = .ok (.invokevirtual 40, 3) := by decide +kernel
theorem d15_14 : decode B15 14 = .ok (.if_icmp .eq 7, 3) := by decide +kernel
theorem d15_21 : decode B15 21 = .ok (.return_, 1) := by decide +kernel
def Q_infl (Z : State) (x : Addr) (y : Addr) (zc : Int32) (h0 : Heap) (n0 : Nat) (vz : Option Value) (hz : Heap) (Lz : List Loc) : Prop := vz = none ∧ Fr n0 Lz ∧ hz = h0
abbrev rr_infl : Room := ({ frames := 1, cells := 0, slots := 0, locals := 20 } : Room)
set_option maxRecDepth 65536 in
set_option maxHeartbeats 40000000 in
theorem rm_infl (l : Launch) (Z : State) (a0 : Array Value) (hw : ∀ d ∈ tables_1, d.before a0 Z = true) (ws : List Jvm.Cond) (x : Addr) (y : Addr) (zc : Int32) (h0 : Heap) (n0 : Nat) (Z0 : n0 ≤ h0.size) (SC : Sta Z h0 "java/lang/String" "COMPACT_STRINGS" "Z" (.int zc)) (hzc : ¬ (zc = (0 : Int32))) (Fc : Fld Z h0 x "java/lang/AbstractStringBuilder" "coder" "B" (.int (0 : Int32))) (Es : Exa Z h0 y "java/lang/String") (Fsc : Fld Z h0 y "java/lang/String" "coder" "B" (.int (0 : Int32))) :
    MetFree l mn15 (head1 (Jvm.Cond.code mn15 jdk_68_method_71_code 2 none :: ws) rr_infl) (PreK Z #[(.ref x), (.ref y)] h0) (fun _ _ _ _ _ => True) (PosK (Q_infl Z x y zc h0 n0) rr_infl) := by
  refine startK n0 (L := #[vr x, vr y]) (plainFor_of_name pn2) (fun _ => rfl) fun p e s m below meth c s₁ Bd hZ hh hx hby hml hown hnm hlk X0 e0 N0 => ?_
  obtain ⟨T1, X1, e1, st1⟩ := getS2 X0 hx hZ hown (host := "") (Or.inl (tw hw 101 rfl)) Via.refl e0 SC (g := (mkF m 0 #[vr x, vr y] [])) rfl (hb hby d15_0)
  refine EndsK.go st1 ?_
  refine EndsK.go (fun _ kz => XS.ifNo X1.here hx rfl (hb hby d15_3) rfl ((if0 _ _).trans (feq hzc).1) (XS.aloadN X1.here hx rfl (hb hby d15_6) rfl rfl kz)) ?_
  obtain ⟨T2, X2, e2, st2⟩ := getF X1 hx hZ hown (host := "") (Or.inl (tw hw 66 rfl)) Via.refl e1 Fc (g := (mkF m 7 #[vr x, vr y] [(.ref x)])) rfl rfl (hb hby d15_7)
  refine EndsK.go st2 ?_
  refine EndsK.go (fun _ kz => XS.aloadN X2.here hx rfl (hb hby d15_10) rfl rfl kz) ?_
  obtain ⟨cq3, kq3, qa3, qb3, qc3⟩ := isOf hZ e2 Es
  obtain ⟨_, T3, Lc3, X3, hQ3, st3⟩ := doneT X2 (X2.virtualBack hx (y := mn6) (z := mn6) hown (mvT hZ (tw hw 65 rfl)) (mvT hZ (tw hw 58 rfl)) (notFace_of_selects (args := #[]) (mvT hZ (tw hw 60 rfl))) (mvT hZ (tw hw 60 rfl)) (mvT hZ (tw hw 59 rfl)) (by decide) (backOf (W := 1) (rm_coder l Z a0 hw [] y zc h0 n0 Z0 SC hzc Fsc) hZ (tw hw 61 rfl) (tw hw 34 rfl) (by decide) (by decide)) qa3 qc3 (g := (mkF m 11 #[vr x, vr y] [(.ref y), (.int (0 : Int32))])) rfl (by rw [hml]; rfl) (Steps.refl _) (argsL := []) (rest := [(.int (0 : Int32))]) (lenOf pd2 rfl) rfl (by show 2 * 0 + _ ≤ _; exact Nat.le_of_eq rfl) (hb hby d15_11) (fun _ _ => ⟨rfl, e2, (by decide : 0 + 0 ≤ _), (by decide : 0 + 0 ≤ _)⟩))
  obtain ⟨rfl, N3, e3⟩ := hQ3
  have M3 := Fr.app N0 N3
  refine EndsK.tr st3 ?_
  refine EndsK.go (fun _ kz => XS.icmpYes X3.here hx rfl (pc0 := 14) (pc' := 21) rfl (hb hby d15_14) rfl (teq (rfl : (0 : Int32) = (0 : Int32))).1 (by decide) (by decide) kz) ?_
  show EndsK p e below _ (T3.setTop (mkF m 21 #[vr x, vr y] []))
  exact endV X3 hx Bd.returns (hb hby d15_21) hlk ⟨rfl, M3, e3⟩ (by decide) (by decide)
abbrev B16 := jdk_42_method_147_code
theorem d16_0 : decode B16 0 = .ok (.aload_n 0, 1) := by decide +kernel
theorem d16_1 : decode B16 1 = .ok (.invokevirtual 335, 3) := by decide +kernel
theorem d16_4 : decode B16 4 = .ok (.iload_n 3, 1) := by decide +kernel
theorem d16_5 : decode B16 5 = .ok (.if_icmp .ne 23, 3) := by decide +kernel
theorem d16_8 : decode B16 8 = .ok (.aload_n 0, 1) := by decide +kernel
theorem d16_9 : decode B16 9 = .ok (.getfield 9, 3) := by decide +kernel
theorem d16_12 : decode B16 12 = .ok (.iconst 0, 1) := by decide +kernel
theorem d16_13 : decode B16 13 = .ok (.aload_n 1, 1) := by decide +kernel
theorem d16_14 : decode B16 14 = .ok (.iload_n 2, 1) := by decide +kernel
theorem d16_15 : decode B16 15 = .ok (.iload_n 3, 1) := by decide +kernel
theorem d16_16 : decode B16 16 = .ok (.ishl, 1) := by decide +kernel
theorem d16_17 : decode B16 17 = .ok (.aload_n 0, 1) := by decide +kernel
theorem d16_18 : decode B16 18 = .ok (.getfield 9, 3) := by decide +kernel
theorem d16_21 : decode B16 21 = .ok (.arraylength, 1) := by decide +kernel
theorem d16_22 : decode B16 22 = .ok (.invokestatic 212, 3) := by decide +kernel
theorem d16_25 : decode B16 25 = .ok (.goto 18, 3) := by decide +kernel
theorem d16_43 : decode B16 43 = .ok (.return_, 1) := by decide +kernel
def Q_gby (Z : State) (y : Addr) (ty : Addr) (gs : Nat → Int32) (t : Addr) (f : Nat → Int32) (zc : Int32) (h0 : Heap) (n0 : Nat) (vz : Option Value) (hz : Heap) (Lz : List Loc) : Prop := vz = none ∧ Fr n0 Lz ∧ Keep h0 hz [t] ∧ Byt Z hz t 22 (fun j => if 0 ≤ j ∧ j < 0 + 6 then gs (j - 0) else f j)
abbrev rr_gby : Room := ({ frames := 1, cells := 0, slots := 0, locals := 40 } : Room)
set_option maxRecDepth 65536 in
set_option maxHeartbeats 40000000 in
theorem rm_gby (l : Launch) (Z : State) (a0 : Array Value) (hw : ∀ d ∈ tables_1, d.before a0 Z = true) (ws : List Jvm.Cond) (y : Addr) (ty : Addr) (gs : Nat → Int32) (t : Addr) (f : Nat → Int32) (zc : Int32) (h0 : Heap) (n0 : Nat) (Z0 : n0 ≤ h0.size) (SC : Sta Z h0 "java/lang/String" "COMPACT_STRINGS" "Z" (.int zc)) (hzc : ¬ (zc = (0 : Int32))) (Es : Exa Z h0 y "java/lang/String") (Fsc : Fld Z h0 y "java/lang/String" "coder" "B" (.int (0 : Int32))) (Fsv : Fld Z h0 y "java/lang/String" "value" "[B" (.ref ty)) (Bs : Byt Z h0 ty 6 gs) (B0 : Byt Z h0 t 22 f) (gt : n0 ≤ t) (nyt : ty ≠ t) :
    MetFree l mn16 (head1 (Jvm.Cond.code mn16 jdk_42_method_147_code 4 none :: ws) rr_gby) (PreK Z #[(.ref y), (.ref t), (.int (0 : Int32)), (.int (0 : Int32))] h0) (fun _ _ _ _ _ => True) (PosK (Q_gby Z y ty gs t f zc h0 n0) rr_gby) := by
  refine startK n0 (L := #[vr y, vr t, vi (0 : Int32), vi (0 : Int32)]) (plainFor_of_name pn1) (fun _ => rfl) fun p e s m below meth c s₁ Bd hZ hh hx hby hml hown hnm hlk X0 e0 N0 => ?_
  have K0 : Keep h0 h0 [t] := Keep.refl h0 [t]
  refine EndsK.go (fun _ kz => XS.aloadN X0.here hx rfl (hb hby d16_0) rfl rfl kz) ?_
  obtain ⟨cq1, kq1, qa1, qb1, qc1⟩ := isOf hZ e0 Es
  obtain ⟨_, T1, Lc1, X1, hQ1, st1⟩ := doneT X0 (X0.virtualBack hx (y := mn6) (z := mn6) hown (mvT hZ (tw hw 57 rfl)) (mvT hZ (tw hw 58 rfl)) (notFace_of_selects (args := #[]) (mvT hZ (tw hw 60 rfl))) (mvT hZ (tw hw 60 rfl)) (mvT hZ (tw hw 59 rfl)) (by decide) (backOf (W := 0) (rm_coder l Z a0 hw [] y zc h0 n0 Z0 SC hzc Fsc) hZ (tw hw 61 rfl) (tw hw 34 rfl) (by decide) (by decide)) qa1 qc1 (g := (mkF m 1 #[vr y, vr t, vi (0 : Int32), vi (0 : Int32)] [(.ref y)])) rfl (by rw [hml]; rfl) (Steps.refl _) (argsL := []) (rest := []) (lenOf pd2 rfl) rfl (by show 2 * 0 + _ ≤ _; exact Nat.le_of_eq rfl) (hb hby d16_1) (fun _ _ => ⟨rfl, e0, (by decide : 0 + 0 ≤ _), (by decide : 0 + 0 ≤ _)⟩))
  obtain ⟨rfl, N1, e1⟩ := hQ1
  have M1 := Fr.app N0 N1
  refine EndsK.tr st1 ?_
  refine EndsK.go (fun _ kz => XS.iloadN X1.here hx rfl (hb hby d16_4) rfl (XS.icmpNo X1.here hx rfl (hb hby d16_5) rfl (teq (rfl : (0 : Int32) = (0 : Int32))).2 (XS.aloadN X1.here hx rfl (hb hby d16_8) rfl rfl kz))) ?_
  obtain ⟨T2, X2, e2, st2⟩ := getF X1 hx hZ hown (host := "") (Or.inl (tw hw 56 rfl)) Via.refl e1 Fsv (g := (mkF m 9 #[vr y, vr t, vi (0 : Int32), vi (0 : Int32)] [(.ref y)])) rfl rfl (hb hby d16_9)
  refine EndsK.go st2 ?_
  refine EndsK.go (fun _ kz => XS.iconst X2.here hx rfl (hb hby d16_12) (XS.aloadN X2.here hx rfl (hb hby d16_13) rfl rfl (XS.iloadN X2.here hx rfl (hb hby d16_14) rfl (XS.iloadN X2.here hx rfl (hb hby d16_15) rfl (XS.ishl X2.here hx rfl (hb hby d16_16) rfl kz))))) ?_
  refine EndsK.start (congrArg (fun z_ => (mkF m 17 #[vr y, vr t, vi (0 : Int32), vi (0 : Int32)] [(.int z_), (.ref t), (.int (0 : Int32)), (.ref ty)])) (by decide : ((0 : Int32) <<< ((0 : Int32) &&& 31)) = (0 : Int32))) ?_
  refine EndsK.go (fun _ kz => XS.aloadN X2.here hx rfl (hb hby d16_17) rfl rfl kz) ?_
  obtain ⟨T3, X3, e3, st3⟩ := getF X2 hx hZ hown (host := "") (Or.inl (tw hw 56 rfl)) Via.refl e2 Fsv (g := (mkF m 18 #[vr y, vr t, vi (0 : Int32), vi (0 : Int32)] [(.ref y), (.int (0 : Int32)), (.ref t), (.int (0 : Int32)), (.ref ty)])) rfl rfl (hb hby d16_18)
  refine EndsK.go st3 ?_
  obtain ⟨ca4, Aa4, za4, la4, Ha4⟩ := id Bs
  refine EndsK.go (fun tz kz => X3.arraylength hx (by rw [e3]; exact Aa4.1) (State.isArrayOf_alike hZ.alike Aa4.2.1) (g := (mkF m 21 #[vr y, vr t, vi (0 : Int32), vi (0 : Int32)] [(.ref ty), (.int (0 : Int32)), (.ref t), (.int (0 : Int32)), (.ref ty)])) rfl rfl (hb hby d16_21) tz kz) ?_
  rw [(show ca4.slots.size.toInt32 = Int32.ofNat (6) from by rw [za4])]
  obtain ⟨T5, h5, X5, e5, Kc5, B5, st5⟩ := copyB X3 hx hZ hown (tw hw 107 rfl) (tw hw 110 rfl) (tw hw 108 rfl) (tw hw 109 rfl) e3 (q := 0) (n := 6) Bs B0 (Nat.le_refl _) (by decide) (g := (mkF m 22 #[vr y, vr t, vi (0 : Int32), vi (0 : Int32)] [(.int (Int32.ofNat (6))), (.int (0 : Int32)), (.ref t), (.int (0 : Int32)), (.ref ty)])) rfl (by rw [hml]; rfl) rfl (hb hby d16_22) (by decide) (by show 2 * 0 + _ ≤ _; decide)
  refine EndsK.go st5 ?_
  have N5 := Fr.app M1 (fun y hy => by rw [copyLocs_base hy]; exact gt : Fr n0 (copyLocs t 0 6))
  have K5 := K0.trans Kc5 (allS (Or.inl (List.mem_singleton.mpr rfl)) all0)
  have Z5 : n0 ≤ h5.size := Nat.le_trans Z0 Kc5.1
  have B5_ty := Bs.keep Kc5 (ninS nyt nin0)
  refine EndsK.go (fun _ kz => XS.goto X5.here hx rfl (pc0 := 25) (pc' := 43) rfl (hb hby d16_25) (by decide) (by decide) kz) ?_
  show EndsK p e below _ (T5.setTop (mkF m 43 #[vr y, vr t, vi (0 : Int32), vi (0 : Int32)] []))
  exact endV X5 hx Bd.returns (hb hby d16_43) hlk ⟨rfl, N5, by rw [e5]; exact K5, by rw [e5]; exact B5⟩ (by decide) (by decide)
abbrev B14 := jdk_68_method_73_code
theorem d14_0 : decode B14 0 = .ok (.aload_n 0, 1) := by decide +kernel
theorem d14_1 : decode B14 1 = .ok (.aload_n 2, 1) := by decide +kernel
theorem d14_2 : decode B14 2 = .ok (.invokevirtual 397, 3) := by decide +kernel
theorem d14_5 : decode B14 5 = .ok (.aload_n 2, 1) := by decide +kernel
theorem d14_6 : decode B14 6 = .ok (.aload_n 0, 1) := by decide +kernel
theorem d14_7 : decode B14 7 = .ok (.getfield 15, 3) := by decide +kernel
theorem d14_10 : decode B14 10 = .ok (.iload_n 1, 1) := by decide +kernel
theorem d14_11 : decode B14 11 = .ok (.aload_n 0, 1) := by decide +kernel
theorem d14_12 : decode B14 12 = .ok (.getfield 22, 3) := by decide +kernel
theorem d14_15 : decode B14 15 = .ok (.invokevirtual 399, 3) := by decide +kernel
theorem d14_18 : decode B14 18 = .ok (.return_, 1) := by decide +kernel
def Q_pst (Z : State) (y : Addr) (ty : Addr) (gs : Nat → Int32) (x : Addr) (t : Addr) (f : Nat → Int32) (zc : Int32) (h0 : Heap) (n0 : Nat) (vz : Option Value) (hz : Heap) (Lz : List Loc) : Prop := vz = none ∧ Fr n0 Lz ∧ Keep h0 hz [t] ∧ Byt Z hz t 22 (fun j => if 0 ≤ j ∧ j < 0 + 6 then gs (j - 0) else f j)
abbrev rr_pst : Room := ({ frames := 2, cells := 0, slots := 0, locals := 70 } : Room)
theorem pd7 : parseMethodDescriptor "(Ljava/lang/String;)V" = some ⟨[(.object "java/lang/String")], none⟩ := by decide +kernel
theorem pd8 : parseMethodDescriptor "([BIB)V" = some ⟨[(.array .byte), .int, .byte], none⟩ := by decide +kernel
set_option maxRecDepth 65536 in
set_option maxHeartbeats 40000000 in
theorem rm_pst (l : Launch) (Z : State) (a0 : Array Value) (hw : ∀ d ∈ tables_1, d.before a0 Z = true) (ws : List Jvm.Cond) (y : Addr) (ty : Addr) (gs : Nat → Int32) (x : Addr) (t : Addr) (f : Nat → Int32) (zc : Int32) (h0 : Heap) (n0 : Nat) (Z0 : n0 ≤ h0.size) (SC : Sta Z h0 "java/lang/String" "COMPACT_STRINGS" "Z" (.int zc)) (hzc : ¬ (zc = (0 : Int32))) (Es : Exa Z h0 y "java/lang/String") (Fsc : Fld Z h0 y "java/lang/String" "coder" "B" (.int (0 : Int32))) (Fsv : Fld Z h0 y "java/lang/String" "value" "[B" (.ref ty)) (Bs : Byt Z h0 ty 6 gs) (S0 : SBt Z h0 x t 22 f 0) (gt : n0 ≤ t) (nyt : ty ≠ t) :
    MetFree l mn17 (head1 (Jvm.Cond.code mn17 jdk_68_method_73_code 3 none :: ws) rr_pst) (PreK Z #[(.ref x), (.int (0 : Int32)), (.ref y)] h0) (fun _ _ _ _ _ => True) (PosK (Q_pst Z y ty gs x t f zc h0 n0) rr_pst) := by
  refine startK n0 (L := #[vr x, vi (0 : Int32), vr y]) (plainFor_of_name pn2) (fun _ => rfl) fun p e s m below meth c s₁ Bd hZ hh hx hby hml hown hnm hlk X0 e0 N0 => ?_
  obtain ⟨Ex, Fv, Fc, Fn, B0, Et, hN, nxt, hnN⟩ := id S0
  refine EndsK.go (fun _ kz => XS.aloadN X0.here hx rfl (hb hby d14_0) rfl rfl (XS.aloadN X0.here hx rfl (hb hby d14_1) rfl rfl kz)) ?_
  obtain ⟨cq1, kq1, qa1, qb1, qc1⟩ := isOf hZ e0 Ex
  obtain ⟨_, T1, Lc1, X1, hQ1, st1⟩ := doneT X0 (X0.virtualBack hx (y := mn15) (z := mn15) hown (mvT hZ (tw hw 96 rfl)) (declares_of (mvT hZ (tw hw 97 rfl)) (mvT hZ (tw hw 100 rfl))) (notFace_of_selects (args := #[]) (mvT hZ (tw hw 99 rfl))) (mvT hZ (tw hw 99 rfl)) (mvT hZ (tw hw 97 rfl)) (by decide) (backOf (W := 0) (rm_infl l Z a0 hw [] x y zc h0 n0 Z0 SC hzc Fc Es Fsc) hZ (tw hw 100 rfl) (tw hw 48 rfl) (by decide) (by decide)) qa1 qc1 (g := (mkF m 2 #[vr x, vi (0 : Int32), vr y] [(.ref y), (.ref x)])) rfl (by rw [hml]; rfl) (Steps.refl _) (argsL := [(.ref y)]) (rest := []) (lenOf pd7 rfl) rfl (by show 2 * 0 + _ ≤ _; exact Nat.le_of_eq rfl) (hb hby d14_2) (fun _ _ => ⟨rfl, e0, (by decide : 0 + 0 ≤ _), (by decide : 0 + 0 ≤ _)⟩))
  obtain ⟨rfl, N1, e1⟩ := hQ1
  have M1 := Fr.app N0 N1
  refine EndsK.tr st1 ?_
  refine EndsK.go (fun _ kz => XS.aloadN X1.here hx rfl (hb hby d14_5) rfl rfl (XS.aloadN X1.here hx rfl (hb hby d14_6) rfl rfl kz)) ?_
  obtain ⟨T2, X2, e2, st2⟩ := getF X1 hx hZ hown (host := "") (Or.inl (tw hw 68 rfl)) Via.refl e1 Fv (g := (mkF m 7 #[vr x, vi (0 : Int32), vr y] [(.ref x), (.ref y)])) rfl rfl (hb hby d14_7)
  refine EndsK.go st2 ?_
  refine EndsK.go (fun _ kz => XS.iloadN X2.here hx rfl (hb hby d14_10) rfl (XS.aloadN X2.here hx rfl (hb hby d14_11) rfl rfl kz)) ?_
  obtain ⟨T3, X3, e3, st3⟩ := getF X2 hx hZ hown (host := "") (Or.inl (tw hw 66 rfl)) Via.refl e2 Fc (g := (mkF m 12 #[vr x, vi (0 : Int32), vr y] [(.ref x), (.int (0 : Int32)), (.ref t), (.ref y)])) rfl rfl (hb hby d14_12)
  refine EndsK.go st3 ?_
  obtain ⟨cq4, kq4, qa4, qb4, qc4⟩ := isOf hZ e3 Es
  obtain ⟨_, T4, Lc4, X4, hQ4, st4⟩ := doneT X3 (X3.virtualBack hx (y := mn16) (z := mn16) hown (mvT hZ (tw hw 102 rfl)) (mvT hZ (tw hw 103 rfl)) (notFace_of_selects (args := #[]) (mvT hZ (tw hw 105 rfl))) (mvT hZ (tw hw 105 rfl)) (mvT hZ (tw hw 104 rfl)) (by decide) (backOf (W := 0) (rm_gby l Z a0 hw [] y ty gs t f zc h0 n0 Z0 SC hzc Es Fsc Fsv Bs B0 gt nyt) hZ (tw hw 106 rfl) (tw hw 34 rfl) (by decide) (by decide)) qa4 qc4 (g := (mkF m 15 #[vr x, vi (0 : Int32), vr y] [(.int (0 : Int32)), (.int (0 : Int32)), (.ref t), (.ref y)])) rfl (by rw [hml]; rfl) (Steps.refl _) (argsL := [(.ref t), (.int (0 : Int32)), (.int (0 : Int32))]) (rest := []) (lenOf pd8 rfl) rfl (by show 2 * 0 + _ ≤ _; exact Nat.le_of_eq rfl) (hb hby d14_15) (fun _ _ => ⟨rfl, e3, (by decide : 0 + 0 + 0 ≤ _), (by decide : 0 + 0 + 0 ≤ _)⟩))
  obtain ⟨rfl, N4, Kc4, B4⟩ := hQ4
  have M4 := Fr.app M1 N4
  obtain ⟨h4, e4⟩ : ∃ z, T4.heap = z := ⟨_, rfl⟩
  rw [e4] at Kc4 B4
  have Z4 : n0 ≤ h4.size := Nat.le_trans Z0 Kc4.1
  have F4_x_value := Fv.keep Kc4 (ninS nxt nin0)
  have F4_x_coder := Fc.keep Kc4 (ninS nxt nin0)
  refine EndsK.tr st4 ?_
  show EndsK p e below _ (T4.setTop (mkF m 18 #[vr x, vi (0 : Int32), vr y] []))
  exact endV X4 hx Bd.returns (hb hby d14_18) hlk ⟨rfl, M4, by rw [e4]; exact Kc4, by rw [e4]; exact B4⟩ (by decide) (by decide)
abbrev B12 := jdk_68_method_22_code
theorem d12_0 : decode B12 0 = .ok (.aload_n 1, 1) := by decide +kernel
theorem d12_1 : decode B12 1 = .ok (.ifnonnull 8, 3) := by decide +kernel
theorem d12_9 : decode B12 9 = .ok (.aload_n 1, 1) := by decide +kernel
theorem d12_10 : decode B12 10 = .ok (.invokevirtual 32, 3) := by decide +kernel
theorem d12_13 : decode B12 13 = .ok (.istore_n 2, 1) := by decide +kernel
theorem d12_14 : decode B12 14 = .ok (.aload_n 0, 1) := by decide +kernel
theorem d12_15 : decode B12 15 = .ok (.aload_n 0, 1) := by decide +kernel
theorem d12_16 : decode B12 16 = .ok (.getfield 79, 3) := by decide +kernel
theorem d12_19 : decode B12 19 = .ok (.iload_n 2, 1) := by decide +kernel
theorem d12_20 : decode B12 20 = .ok (.iadd, 1) := by decide +kernel
theorem d12_21 : decode B12 21 = .ok (.invokevirtual 100, 3) := by decide +kernel
theorem d12_24 : decode B12 24 = .ok (.aload_n 0, 1) := by decide +kernel
theorem d12_25 : decode B12 25 = .ok (.aload_n 0, 1) := by decide +kernel
theorem d12_26 : decode B12 26 = .ok (.getfield 79, 3) := by decide +kernel
theorem d12_29 : decode B12 29 = .ok (.aload_n 1, 1) := by decide +kernel
theorem d12_30 : decode B12 30 = .ok (.invokevirtual 208, 3) := by decide +kernel
theorem d12_33 : decode B12 33 = .ok (.aload_n 0, 1) := by decide +kernel
theorem d12_34 : decode B12 34 = .ok (.dup, 1) := by decide +kernel
theorem d12_35 : decode B12 35 = .ok (.getfield 79, 3) := by decide +kernel
theorem d12_38 : decode B12 38 = .ok (.iload_n 2, 1) := by decide +kernel
theorem d12_39 : decode B12 39 = .ok (.iadd, 1) := by decide +kernel
theorem d12_40 : decode B12 40 = .ok (.putfield 79, 3) := by decide +kernel
theorem d12_43 : decode B12 43 = .ok (.aload_n 0, 1) := by decide +kernel
theorem d12_44 : decode B12 44 = .ok (.areturn, 1) := by decide +kernel
def Q_apS (Z : State) (y : Addr) (ty : Addr) (gs : Nat → Int32) (x : Addr) (t : Addr) (f : Nat → Int32) (zc : Int32) (h0 : Heap) (n0 : Nat) (vz : Option Value) (hz : Heap) (Lz : List Loc) : Prop := vz = some (.ref x) ∧ Fr n0 Lz ∧ Keep h0 hz [x, t] ∧ SBt Z hz x t 22 (fun j => if 0 ≤ j ∧ j < 0 + 6 then gs (j - 0) else f j) 6
abbrev rr_apS : Room := ({ frames := 4, cells := 1, slots := 64, locals := 90 } : Room)
theorem pd9 : parseMethodDescriptor "()I" = some ⟨[], some .int⟩ := by decide +kernel
theorem pd10 : parseMethodDescriptor "(I)V" = some ⟨[.int], none⟩ := by decide +kernel
theorem pd11 : parseMethodDescriptor "(ILjava/lang/String;)V" = some ⟨[.int, (.object "java/lang/String")], none⟩ := by decide +kernel
set_option maxRecDepth 65536 in
set_option maxHeartbeats 40000000 in
theorem rm_apS (l : Launch) (Z : State) (a0 : Array Value) (hw : ∀ d ∈ tables_1, d.before a0 Z = true) (ws : List Jvm.Cond) (y : Addr) (ty : Addr) (gs : Nat → Int32) (x : Addr) (t : Addr) (f : Nat → Int32) (zc : Int32) (h0 : Heap) (n0 : Nat) (Z0 : n0 ≤ h0.size) (SC : Sta Z h0 "java/lang/String" "COMPACT_STRINGS" "Z" (.int zc)) (hzc : ¬ (zc = (0 : Int32))) (Es : Exa Z h0 y "java/lang/String") (Fsc : Fld Z h0 y "java/lang/String" "coder" "B" (.int (0 : Int32))) (Fsv : Fld Z h0 y "java/lang/String" "value" "[B" (.ref ty)) (Bs : Byt Z h0 ty 6 gs) (S0 : SBt Z h0 x t 22 f 0) (gx : n0 ≤ x) (gt : n0 ≤ t) (nyt : ty ≠ t) :
    MetFree l mn18 (head1 (Jvm.Cond.code mn18 jdk_68_method_22_code 3 (some (.object "java/lang/AbstractStringBuilder")) :: ws) rr_apS) (PreK Z #[(.ref x), (.ref y)] h0) (fun _ _ _ _ _ => True) (PosK (Q_apS Z y ty gs x t f zc h0 n0) rr_apS) := by
  refine startK n0 (L := #[vr x, vr y, .unset]) (plainFor_of_name pn2) (fun _ => rfl) fun p e s m below meth c s₁ Bd hZ hh hx hby hml hown hnm hlk X0 e0 N0 => ?_
  obtain ⟨Ex, Fv, Fc, Fn, B0, Et, hN, nxt, hnN⟩ := id S0
  have K0 : Keep h0 h0 [x, t] := Keep.refl h0 [x, t]
  obtain ⟨cy, Ay, zy, ly, Hy⟩ := id Bs
  refine EndsK.go (fun _ kz => XS.aloadN X0.here hx rfl (hb hby d12_0) rfl rfl (XS.ifnonnullYes X0.here hx rfl (pc0 := 1) (pc' := 9) rfl (hb hby d12_1) rfl (by decide) (by decide) (XS.aloadN X0.here hx rfl (hb hby d12_9) rfl rfl kz))) ?_
  obtain ⟨cq1, kq1, qa1, qb1, qc1⟩ := isOf hZ e0 Es
  obtain ⟨_, T1, Lc1, X1, hQ1, st1⟩ := doneT X0 (X0.virtualBack hx (y := mn9) (z := mn9) hown (mvT hZ (tw hw 51 rfl)) (mvT hZ (tw hw 52 rfl)) (notFace_of_selects (args := #[]) (mvT hZ (tw hw 54 rfl))) (mvT hZ (tw hw 54 rfl)) (mvT hZ (tw hw 53 rfl)) (by decide) (backOf (W := 0) (rm_slen l Z a0 hw [] y zc ty cy (6 : Int32) h0 n0 Z0 SC hzc Es Fsc Fsv Ay (by rw [zy]; rfl)) hZ (tw hw 55 rfl) (tw hw 34 rfl) (by decide) (by decide)) qa1 qc1 (g := (mkF m 10 #[vr x, vr y, .unset] [(.ref y)])) rfl (by rw [hml]; rfl) (Steps.refl _) (argsL := []) (rest := []) (lenOf pd9 rfl) rfl (by show 2 * 0 + _ ≤ _; exact Nat.le_of_eq rfl) (hb hby d12_10) (fun _ _ => ⟨rfl, e0, (by decide : 0 + 0 ≤ _), (by decide : 0 + 0 ≤ _)⟩))
  obtain ⟨rfl, N1, e1⟩ := hQ1
  have M1 := Fr.app N0 N1
  refine EndsK.tr st1 ?_
  refine EndsK.go (fun _ kz => XS.istoreN X1.here hx rfl (hb hby d12_13) rfl (l' := #[vr x, vr y, vi (6 : Int32)]) rfl (XS.aloadN X1.here hx rfl (hb hby d12_14) rfl rfl (XS.aloadN X1.here hx rfl (hb hby d12_15) rfl rfl kz))) ?_
  obtain ⟨T2, X2, e2, st2⟩ := getF X1 hx hZ hown (host := "") (Or.inl (tw hw 84 rfl)) Via.refl e1 Fn (g := (mkF m 16 #[vr x, vr y, vi (6 : Int32)] [(.ref x), (.ref x)])) rfl rfl (hb hby d12_16)
  refine EndsK.go st2 ?_
  refine EndsK.go (fun _ kz => XS.iloadN X2.here hx rfl (hb hby d12_19) rfl (XS.iadd X2.here hx rfl (hb hby d12_20) rfl kz)) ?_
  refine EndsK.start (congrArg (fun z_ => (mkF m 21 #[vr x, vr y, vi (6 : Int32)] [(.int z_), (.ref x)])) (by decide : ((Int32.ofNat 0) + (6 : Int32)) = (Int32.ofNat 6))) ?_
  obtain ⟨cq3, kq3, qa3, qb3, qc3⟩ := isOf hZ e2 Ex
  obtain ⟨_, T3, Lc3, X3, hQ3, st3⟩ := doneT X2 (X2.virtualBack hx (y := mn14) (z := mn14) hown (mvT hZ (tw hw 86 rfl)) (declares_of (mvT hZ (tw hw 87 rfl)) (mvT hZ (tw hw 90 rfl))) (notFace_of_selects (args := #[]) (mvT hZ (tw hw 89 rfl))) (mvT hZ (tw hw 89 rfl)) (mvT hZ (tw hw 87 rfl)) (by decide) (backOf (W := 0) (rm_ensN l Z a0 hw [] x t 22 f 0 6 h0 n0 Z0 S0 (by decide)) hZ (tw hw 90 rfl) (tw hw 48 rfl) (by decide) (by decide)) qa3 qc3 (g := (mkF m 21 #[vr x, vr y, vi (6 : Int32)] [(.int (Int32.ofNat 6)), (.ref x)])) rfl (by rw [hml]; rfl) (Steps.refl _) (argsL := [(.int (Int32.ofNat 6))]) (rest := []) (lenOf pd10 rfl) rfl (by show 2 * 0 + _ ≤ _; exact Nat.le_of_eq rfl) (hb hby d12_21) (fun _ _ => ⟨rfl, e2, (by decide : 0 + 0 + 1 ≤ _), (by decide : 0 + 0 + 64 ≤ _)⟩))
  obtain ⟨rfl, N3, e3⟩ := hQ3
  have M3 := Fr.app M1 N3
  refine EndsK.tr st3 ?_
  refine EndsK.go (fun _ kz => XS.aloadN X3.here hx rfl (hb hby d12_24) rfl rfl (XS.aloadN X3.here hx rfl (hb hby d12_25) rfl rfl kz)) ?_
  obtain ⟨T4, X4, e4, st4⟩ := getF X3 hx hZ hown (host := "") (Or.inl (tw hw 84 rfl)) Via.refl e3 Fn (g := (mkF m 26 #[vr x, vr y, vi (6 : Int32)] [(.ref x), (.ref x)])) rfl rfl (hb hby d12_26)
  refine EndsK.go st4 ?_
  refine EndsK.go (fun _ kz => XS.aloadN X4.here hx rfl (hb hby d12_29) rfl rfl kz) ?_
  refine EndsK.start (congrArg (fun z_ => (mkF m 30 #[vr x, vr y, vi (6 : Int32)] [(.ref y), (.int z_), (.ref x)])) (rfl : (Int32.ofNat 0) = (0 : Int32))) ?_
  obtain ⟨cq5, kq5, qa5, qb5, qc5⟩ := isOf hZ e4 Ex
  obtain ⟨_, T5, Lc5, X5, hQ5, st5⟩ := doneT X4 (X4.virtualBack hx (y := mn17) (z := mn17) hown (mvT hZ (tw hw 91 rfl)) (declares_of (mvT hZ (tw hw 92 rfl)) (mvT hZ (tw hw 95 rfl))) (notFace_of_selects (args := #[]) (mvT hZ (tw hw 94 rfl))) (mvT hZ (tw hw 94 rfl)) (mvT hZ (tw hw 92 rfl)) (by decide) (backOf (W := 0) (rm_pst l Z a0 hw [] y ty gs x t f zc h0 n0 Z0 SC hzc Es Fsc Fsv Bs S0 gt nyt) hZ (tw hw 95 rfl) (tw hw 48 rfl) (by decide) (by decide)) qa5 qc5 (g := (mkF m 30 #[vr x, vr y, vi (6 : Int32)] [(.ref y), (.int (0 : Int32)), (.ref x)])) rfl (by rw [hml]; rfl) (Steps.refl _) (argsL := [(.int (0 : Int32)), (.ref y)]) (rest := []) (lenOf pd11 rfl) rfl (by show 2 * 0 + _ ≤ _; exact Nat.le_of_eq rfl) (hb hby d12_30) (fun _ _ => ⟨rfl, e4, (by decide : 0 + 0 + 1 + 0 ≤ _), (by decide : 0 + 0 + 64 + 0 ≤ _)⟩))
  obtain ⟨rfl, N5, Kc5, B5⟩ := hQ5
  have M5 := Fr.app M3 N5
  obtain ⟨h5, e5⟩ : ∃ z, T5.heap = z := ⟨_, rfl⟩
  rw [e5] at Kc5 B5
  have Z5 : n0 ≤ h5.size := Nat.le_trans Z0 Kc5.1
  have K5 := K0.trans Kc5 (allS (Or.inl (List.mem_cons_of_mem _ (List.mem_singleton.mpr rfl))) all0)
  have E5_x := Ex.keep Kc5
  have F5_x_value := Fv.keep Kc5 (ninS nxt nin0)
  have F5_x_coder := Fc.keep Kc5 (ninS nxt nin0)
  have F5_x_count := Fn.keep Kc5 (ninS nxt nin0)
  have E5_t := Et.keep Kc5
  refine EndsK.tr st5 ?_
  refine EndsK.go (fun _ kz => XS.aloadN X5.here hx rfl (hb hby d12_33) rfl rfl (XS.dup X5.here hx rfl (hb hby d12_34) rfl rfl kz)) ?_
  obtain ⟨T6, X6, e6, st6⟩ := getF X5 hx hZ hown (host := "") (Or.inl (tw hw 84 rfl)) Via.refl e5 F5_x_count (g := (mkF m 35 #[vr x, vr y, vi (6 : Int32)] [(.ref x), (.ref x)])) rfl rfl (hb hby d12_35)
  refine EndsK.go st6 ?_
  refine EndsK.go (fun _ kz => XS.iloadN X6.here hx rfl (hb hby d12_38) rfl (XS.iadd X6.here hx rfl (hb hby d12_39) rfl kz)) ?_
  refine EndsK.start (congrArg (fun z_ => (mkF m 40 #[vr x, vr y, vi (6 : Int32)] [(.int z_), (.ref x)])) (by decide : ((Int32.ofNat 0) + (6 : Int32)) = (Int32.ofNat 6))) ?_
  obtain ⟨T7, h7, X7, e7, W7, st7⟩ := putF X6 hx hZ hown (host := "") (Or.inl (tw hw 84 rfl)) Via.refl e6 F5_x_count E5_x (Or.inl (tw hw 85 rfl)) (tw hw 31 rfl) (ty := .int) (by decide) rfl rfl (g := (mkF m 40 #[vr x, vr y, vi (6 : Int32)] [(.int (Int32.ofNat 6)), (.ref x)])) rfl rfl (hb hby d12_40)
  refine EndsK.go st7 ?_
  have N7 := Fr.snoc X7 M5 gx
  have E7_x := E5_x.wr W7
  have F7_value_x := F5_x_value.other W7 (Or.inr (slot_ne (Or.inl (tw hw 69 rfl)) (Or.inl (tw hw 85 rfl)) (by decide) (t := (.array .byte)) (t' := .int) (by decide) (by decide)))
  have F7_coder_x := F5_x_coder.other W7 (Or.inr (slot_ne (Or.inl (tw hw 67 rfl)) (Or.inl (tw hw 85 rfl)) (by decide) (t := .byte) (t' := .int) (by decide) (by decide)))
  have F7_count := F5_x_count.same W7
  have E7_t := E5_t.wr W7
  have B7_t := B5.other W7 (Ne.symm nxt)
  have Z7 : n0 ≤ h7.size := Nat.le_trans Z5 (Nat.le_of_eq W7.size.symm)
  have K7 := K5.wr W7 (Or.inl (List.mem_cons_self))
  refine EndsK.go (fun _ kz => XS.aloadN X7.here hx rfl (hb hby d12_43) rfl rfl kz) ?_
  show EndsK p e below _ (T7.setTop (mkF m 44 #[vr x, vr y, vi (6 : Int32)] [(.ref x)]))
  exact endR X7 hx Bd.returns rfl rfl (hb hby d12_44) hlk ⟨rfl, N7, by rw [e7]; exact K7, by rw [e7]; exact ⟨E7_x, F7_value_x, F7_coder_x, F7_count, B7_t, E7_t, Or.inl rfl, nxt, by decide⟩⟩ (by decide) (by decide)
abbrev B11 := jdk_67_method_7_code
theorem d11_0 : decode B11 0 = .ok (.aload_n 0, 1) := by decide +kernel
theorem d11_1 : decode B11 1 = .ok (.aload_n 1, 1) := by decide +kernel
theorem d11_2 : decode B11 2 = .ok (.invokespecial 29, 3) := by decide +kernel
theorem d11_5 : decode B11 5 = .ok (.pop, 1) := by decide +kernel
theorem d11_6 : decode B11 6 = .ok (.aload_n 0, 1) := by decide +kernel
theorem d11_7 : decode B11 7 = .ok (.areturn, 1) := by decide +kernel
theorem pn7 : plainName "java/lang/StringBuilder" = true := by first | (simp [plainName, overriddenIn]; done) | decide +kernel
def Q_apS2 (Z : State) (y : Addr) (ty : Addr) (gs : Nat → Int32) (x : Addr) (t : Addr) (f : Nat → Int32) (zc : Int32) (h0 : Heap) (n0 : Nat) (vz : Option Value) (hz : Heap) (Lz : List Loc) : Prop := vz = some (.ref x) ∧ Fr n0 Lz ∧ Keep h0 hz [x, t] ∧ SBt Z hz x t 22 (fun j => if 0 ≤ j ∧ j < 0 + 6 then gs (j - 0) else f j) 6
abbrev rr_apS2 : Room := ({ frames := 5, cells := 1, slots := 64, locals := 105 } : Room)
theorem pd12 : parseMethodDescriptor "(Ljava/lang/String;)Ljava/lang/AbstractStringBuilder;" = some ⟨[(.object "java/lang/String")], some (.object "java/lang/AbstractStringBuilder")⟩ := by decide +kernel
set_option maxRecDepth 65536 in
set_option maxHeartbeats 40000000 in
theorem rm_apS2 (l : Launch) (Z : State) (a0 : Array Value) (hw : ∀ d ∈ tables_1, d.before a0 Z = true) (ws : List Jvm.Cond) (y : Addr) (ty : Addr) (gs : Nat → Int32) (x : Addr) (t : Addr) (f : Nat → Int32) (zc : Int32) (h0 : Heap) (n0 : Nat) (Z0 : n0 ≤ h0.size) (SC : Sta Z h0 "java/lang/String" "COMPACT_STRINGS" "Z" (.int zc)) (hzc : ¬ (zc = (0 : Int32))) (Es : Exa Z h0 y "java/lang/String") (Fsc : Fld Z h0 y "java/lang/String" "coder" "B" (.int (0 : Int32))) (Fsv : Fld Z h0 y "java/lang/String" "value" "[B" (.ref ty)) (Bs : Byt Z h0 ty 6 gs) (S0 : SBt Z h0 x t 22 f 0) (gx : n0 ≤ x) (gt : n0 ≤ t) (nyt : ty ≠ t) :
    MetFree l mn19 (head1 (Jvm.Cond.code mn19 jdk_67_method_7_code 2 (some (.object "java/lang/StringBuilder")) :: ws) rr_apS2) (PreK Z #[(.ref x), (.ref y)] h0) (fun _ _ _ _ _ => True) (PosK (Q_apS2 Z y ty gs x t f zc h0 n0) rr_apS2) := by
  refine startK n0 (L := #[vr x, vr y]) (plainFor_of_name pn7) (fun _ => rfl) fun p e s m below meth c s₁ Bd hZ hh hx hby hml hown hnm hlk X0 e0 N0 => ?_
  have Ex := S0.1
  refine EndsK.go (fun _ kz => XS.aloadN X0.here hx rfl (hb hby d11_0) rfl rfl (XS.aloadN X0.here hx rfl (hb hby d11_1) rfl rfl kz)) ?_
  obtain ⟨_, T1, Lc1, X1, hQ1, st1⟩ := doneT X0 (superBack X0 hx hZ (K := "java/lang/StringBuilder") (y := mn18) hown (tw hw 81 rfl) (same_of (tw hw 72 rfl) (tw hw 89 rfl) rfl (by decide)) (tw hw 72 rfl) (tw hw 82 rfl) (by decide) (backOf (W := 0) (rm_apS l Z a0 hw [] y ty gs x t f zc h0 n0 Z0 SC hzc Es Fsc Fsv Bs S0 gx gt nyt) hZ (tw hw 83 rfl) (tw hw 48 rfl) (by decide) (by decide)) e0 (a := x) (Ins.self Ex) (g := (mkF m 2 #[vr x, vr y] [(.ref y), (.ref x)])) rfl (by rw [hml]; rfl) (tw hw 83 rfl) (argsL := [(.ref y)]) (rest := []) (lenOf pd12 rfl) rfl (by show 2 * 0 + _ ≤ _; exact Nat.le_of_eq rfl) (hb hby d11_2) (fun _ _ => ⟨rfl, e0, (by decide : 0 + 1 ≤ _), (by decide : 0 + 64 ≤ _)⟩))
  obtain ⟨rfl, N1, Kc1, S1⟩ := hQ1
  have M1 := Fr.app N0 N1
  obtain ⟨h1, e1⟩ : ∃ z, T1.heap = z := ⟨_, rfl⟩
  rw [e1] at Kc1 S1
  have Z1 : n0 ≤ h1.size := Nat.le_trans Z0 Kc1.1
  refine EndsK.tr st1 ?_
  refine EndsK.go (fun _ kz => XS.pop X1.here hx rfl (hb hby d11_5) rfl rfl (XS.aloadN X1.here hx rfl (hb hby d11_6) rfl rfl kz)) ?_
  show EndsK p e below _ (T1.setTop (mkF m 7 #[vr x, vr y] [(.ref x)]))
  exact endR X1 hx Bd.returns rfl rfl (hb hby d11_7) hlk ⟨rfl, M1, by rw [e1]; exact Kc1, by rw [e1]; exact S1⟩ (by decide) (by decide)
abbrev B10 := jdk_67_method_80_code
theorem d10_0 : decode B10 0 = .ok (.aload_n 0, 1) := by decide +kernel
theorem d10_1 : decode B10 1 = .ok (.aload_n 1, 1) := by decide +kernel
theorem d10_2 : decode B10 2 = .ok (.invokevirtual 23, 3) := by decide +kernel
theorem d10_5 : decode B10 5 = .ok (.areturn, 1) := by decide +kernel
def Q_apS3 (Z : State) (y : Addr) (ty : Addr) (gs : Nat → Int32) (x : Addr) (t : Addr) (f : Nat → Int32) (zc : Int32) (h0 : Heap) (n0 : Nat) (vz : Option Value) (hz : Heap) (Lz : List Loc) : Prop := vz = some (.ref x) ∧ Fr n0 Lz ∧ Keep h0 hz [x, t] ∧ SBt Z hz x t 22 (fun j => if 0 ≤ j ∧ j < 0 + 6 then gs (j - 0) else f j) 6
abbrev rr_apS3 : Room := ({ frames := 6, cells := 1, slots := 64, locals := 120 } : Room)
theorem pd13 : parseMethodDescriptor "(Ljava/lang/String;)Ljava/lang/StringBuilder;" = some ⟨[(.object "java/lang/String")], some (.object "java/lang/StringBuilder")⟩ := by decide +kernel
set_option maxRecDepth 65536 in
set_option maxHeartbeats 40000000 in
theorem rm_apS3 (l : Launch) (Z : State) (a0 : Array Value) (hw : ∀ d ∈ tables_1, d.before a0 Z = true) (ws : List Jvm.Cond) (y : Addr) (ty : Addr) (gs : Nat → Int32) (x : Addr) (t : Addr) (f : Nat → Int32) (zc : Int32) (h0 : Heap) (n0 : Nat) (Z0 : n0 ≤ h0.size) (SC : Sta Z h0 "java/lang/String" "COMPACT_STRINGS" "Z" (.int zc)) (hzc : ¬ (zc = (0 : Int32))) (Es : Exa Z h0 y "java/lang/String") (Fsc : Fld Z h0 y "java/lang/String" "coder" "B" (.int (0 : Int32))) (Fsv : Fld Z h0 y "java/lang/String" "value" "[B" (.ref ty)) (Bs : Byt Z h0 ty 6 gs) (S0 : SBt Z h0 x t 22 f 0) (gx : n0 ≤ x) (gt : n0 ≤ t) (nyt : ty ≠ t) :
    MetFree l mn20 (head1 (Jvm.Cond.code mn20 jdk_67_method_80_code 2 (some (.object "java/lang/AbstractStringBuilder")) :: ws) rr_apS3) (PreK Z #[(.ref x), (.ref y)] h0) (fun _ _ _ _ _ => True) (PosK (Q_apS3 Z y ty gs x t f zc h0 n0) rr_apS3) := by
  refine startK n0 (L := #[vr x, vr y]) (plainFor_of_name pn7) (fun _ => rfl) fun p e s m below meth c s₁ Bd hZ hh hx hby hml hown hnm hlk X0 e0 N0 => ?_
  have Ex := S0.1
  refine EndsK.go (fun _ kz => XS.aloadN X0.here hx rfl (hb hby d10_0) rfl rfl (XS.aloadN X0.here hx rfl (hb hby d10_1) rfl rfl kz)) ?_
  obtain ⟨cq1, kq1, qa1, qb1, qc1⟩ := isOf hZ e0 Ex
  obtain ⟨_, T1, Lc1, X1, hQ1, st1⟩ := doneT X0 (X0.virtualBack hx (y := mn19) (z := mn19) hown (mvT hZ (tw hw 76 rfl)) (mvT hZ (tw hw 77 rfl)) (notFace_of_selects (args := #[]) (mvT hZ (tw hw 79 rfl))) (mvT hZ (tw hw 79 rfl)) (mvT hZ (tw hw 78 rfl)) (by decide) (backOf (W := 0) (rm_apS2 l Z a0 hw [] y ty gs x t f zc h0 n0 Z0 SC hzc Es Fsc Fsv Bs S0 gx gt nyt) hZ (tw hw 80 rfl) (tw hw 32 rfl) (by decide) (by decide)) qa1 qc1 (g := (mkF m 2 #[vr x, vr y] [(.ref y), (.ref x)])) rfl (by rw [hml]; rfl) (Steps.refl _) (argsL := [(.ref y)]) (rest := []) (lenOf pd13 rfl) rfl (by show 2 * 0 + _ ≤ _; exact Nat.le_of_eq rfl) (hb hby d10_2) (fun _ _ => ⟨rfl, e0, (by decide : 0 + 1 ≤ _), (by decide : 0 + 64 ≤ _)⟩))
  obtain ⟨rfl, N1, Kc1, S1⟩ := hQ1
  have M1 := Fr.app N0 N1
  obtain ⟨h1, e1⟩ : ∃ z, T1.heap = z := ⟨_, rfl⟩
  rw [e1] at Kc1 S1
  have Z1 : n0 ≤ h1.size := Nat.le_trans Z0 Kc1.1
  refine EndsK.tr st1 ?_
  show EndsK p e below _ (T1.setTop (mkF m 5 #[vr x, vr y] [(.ref x)]))
  exact endR X1 hx Bd.returns rfl rfl (hb hby d10_5) hlk ⟨rfl, M1, by rw [e1]; exact Kc1, by rw [e1]; exact S1⟩ (by decide) (by decide)
abbrev B7 := jdk_68_method_3_code
theorem d7_0 : decode B7 0 = .ok (.aload_n 0, 1) := by decide +kernel
theorem d7_1 : decode B7 1 = .ok (.invokespecial 3, 3) := by decide +kernel
theorem d7_4 : decode B7 4 = .ok (.aload_n 1, 1) := by decide +kernel
theorem d7_5 : decode B7 5 = .ok (.invokevirtual 32, 3) := by decide +kernel
theorem d7_8 : decode B7 8 = .ok (.istore_n 2, 1) := by decide +kernel
theorem d7_9 : decode B7 9 = .ok (.iload_n 2, 1) := by decide +kernel
theorem d7_10 : decode B7 10 = .ok (.ldc 38, 2) := by decide +kernel
theorem d7_12 : decode B7 12 = .ok (.if_icmp .ge 10, 3) := by decide +kernel
theorem d7_15 : decode B7 15 = .ok (.iload_n 2, 1) := by decide +kernel
theorem d7_16 : decode B7 16 = .ok (.bipush 16, 2) := by decide +kernel
theorem d7_18 : decode B7 18 = .ok (.iadd, 1) := by decide +kernel
theorem d7_19 : decode B7 19 = .ok (.goto 5, 3) := by decide +kernel
theorem d7_24 : decode B7 24 = .ok (.istore_n 3, 1) := by decide +kernel
theorem d7_25 : decode B7 25 = .ok (.aload_n 1, 1) := by decide +kernel
theorem d7_26 : decode B7 26 = .ok (.invokevirtual 40, 3) := by decide +kernel
theorem d7_29 : decode B7 29 = .ok (.istore 4, 2) := by decide +kernel
theorem d7_31 : decode B7 31 = .ok (.aload_n 0, 1) := by decide +kernel
theorem d7_32 : decode B7 32 = .ok (.iload 4, 2) := by decide +kernel
theorem d7_34 : decode B7 34 = .ok (.putfield 22, 3) := by decide +kernel
theorem d7_37 : decode B7 37 = .ok (.aload_n 0, 1) := by decide +kernel
theorem d7_38 : decode B7 38 = .ok (.iload 4, 2) := by decide +kernel
theorem d7_40 : decode B7 40 = .ok (.ifCond .ne 9, 3) := by decide +kernel
theorem d7_43 : decode B7 43 = .ok (.iload_n 3, 1) := by decide +kernel
theorem d7_44 : decode B7 44 = .ok (.newarray .byte, 2) := by decide +kernel
theorem d7_46 : decode B7 46 = .ok (.goto 7, 3) := by decide +kernel
theorem d7_53 : decode B7 53 = .ok (.putfield 15, 3) := by decide +kernel
theorem d7_56 : decode B7 56 = .ok (.aload_n 0, 1) := by decide +kernel
theorem d7_57 : decode B7 57 = .ok (.aload_n 1, 1) := by decide +kernel
theorem d7_58 : decode B7 58 = .ok (.invokevirtual 43, 3) := by decide +kernel
theorem d7_61 : decode B7 61 = .ok (.pop, 1) := by decide +kernel
theorem d7_62 : decode B7 62 = .ok (.return_, 1) := by decide +kernel
def Q_asbI (Z : State) (y : Addr) (ty : Addr) (gs : Nat → Int32) (x : Addr) (zc : Int32) (h0 : Heap) (n0 : Nat) (vz : Option Value) (hz : Heap) (Lz : List Loc) : Prop := ∃ (t : Addr) (F : Nat → Int32), vz = none ∧ Fr n0 Lz ∧ Keep h0 hz [x] ∧ h0.size ≤ t ∧ SBt Z hz x t 22 F 6 ∧ (∀ j, j < 6 → F j = gs j)
abbrev rr_asbI : Room := ({ frames := 7, cells := 2, slots := 90, locals := 136 } : Room)
set_option maxRecDepth 65536 in
set_option maxHeartbeats 40000000 in
theorem rm_asbI (l : Launch) (Z : State) (a0 : Array Value) (hw : ∀ d ∈ tables_1, d.before a0 Z = true) (ws : List Jvm.Cond) (y : Addr) (ty : Addr) (gs : Nat → Int32) (x : Addr) (zc : Int32) (h0 : Heap) (n0 : Nat) (Z0 : n0 ≤ h0.size) (SC : Sta Z h0 "java/lang/String" "COMPACT_STRINGS" "Z" (.int zc)) (hzc : ¬ (zc = (0 : Int32))) (Es : Exa Z h0 y "java/lang/String") (Fsc : Fld Z h0 y "java/lang/String" "coder" "B" (.int (0 : Int32))) (Fsv : Fld Z h0 y "java/lang/String" "value" "[B" (.ref ty)) (Bs : Byt Z h0 ty 6 gs) (Ex : Exa Z h0 x "java/lang/StringBuilder") (Fv : Fld Z h0 x "java/lang/AbstractStringBuilder" "value" "[B" .null) (Fc : Fld Z h0 x "java/lang/AbstractStringBuilder" "coder" "B" (.int (0 : Int32))) (Fn : Fld Z h0 x "java/lang/AbstractStringBuilder" "count" "I" (.int (0 : Int32))) (gx : n0 ≤ x) (nyx : y ≠ x) (ntx : ty ≠ x) :
    MetFree l mn21 (head1 (Jvm.Cond.code mn21 jdk_68_method_3_code 5 none :: ws) rr_asbI) (PreK Z #[(.ref x), (.ref y)] h0) (fun _ _ _ _ _ => True) (PosK (Q_asbI Z y ty gs x zc h0 n0) rr_asbI) := by
  refine startK n0 (L := #[vr x, vr y, .unset, .unset, .unset]) (plainFor_of_name pn2) (fun _ => rfl) fun p e s m below meth c s₁ Bd hZ hh hx hby hml hown hnm hlk X0 e0 N0 => ?_
  have K0 : Keep h0 h0 [x] := Keep.refl h0 [x]
  obtain ⟨cy, Ay, zy, ly, Hy⟩ := id Bs
  refine EndsK.go (fun _ kz => XS.aloadN X0.here hx rfl (hb hby d7_0) rfl rfl kz) ?_
  obtain ⟨T1, X1, e1, st1⟩ := initO X0 hx hZ hown (tw hw 50 rfl) (tw hw 19 rfl) (tw hw 20 rfl) e0 (g := (mkF m 1 #[vr x, vr y, .unset, .unset, .unset] [(.ref x)])) rfl (by rw [hml]; rfl) rfl (hb hby d7_1) (by decide) (W := 0) (by show 2 * 0 + _ ≤ _; exact Nat.le_of_eq rfl) (by decide)
  refine EndsK.go st1 ?_
  refine EndsK.go (fun _ kz => XS.aloadN X1.here hx rfl (hb hby d7_4) rfl rfl kz) ?_
  obtain ⟨cq2, kq2, qa2, qb2, qc2⟩ := isOf hZ e1 Es
  obtain ⟨_, T2, Lc2, X2, hQ2, st2⟩ := doneT X1 (X1.virtualBack hx (y := mn9) (z := mn9) hown (mvT hZ (tw hw 51 rfl)) (mvT hZ (tw hw 52 rfl)) (notFace_of_selects (args := #[]) (mvT hZ (tw hw 54 rfl))) (mvT hZ (tw hw 54 rfl)) (mvT hZ (tw hw 53 rfl)) (by decide) (backOf (W := 0) (rm_slen l Z a0 hw [] y zc ty cy (6 : Int32) h0 n0 Z0 SC hzc Es Fsc Fsv Ay (by rw [zy]; rfl)) hZ (tw hw 55 rfl) (tw hw 34 rfl) (by decide) (by decide)) qa2 qc2 (g := (mkF m 5 #[vr x, vr y, .unset, .unset, .unset] [(.ref y)])) rfl (by rw [hml]; rfl) (Steps.refl _) (argsL := []) (rest := []) (lenOf pd9 rfl) rfl (by show 2 * 0 + _ ≤ _; exact Nat.le_of_eq rfl) (hb hby d7_5) (fun _ _ => ⟨rfl, e1, (by decide : 0 + 0 ≤ _), (by decide : 0 + 0 ≤ _)⟩))
  obtain ⟨rfl, N2, e2⟩ := hQ2
  have M2 := Fr.app N0 N2
  refine EndsK.tr st2 ?_
  refine EndsK.go (fun _ kz => XS.istoreN X2.here hx rfl (hb hby d7_8) rfl (l' := #[vr x, vr y, vi (6 : Int32), .unset, .unset]) rfl (XS.iloadN X2.here hx rfl (hb hby d7_9) rfl (X2.ldcI hx hown (mvT hZ (tw hw 64 rfl)) rfl (hb hby d7_10) (XS.icmpNo X2.here hx rfl (hb hby d7_12) rfl (tlt (by decide : (6 : Int32) < (2147483631 : Int32))).2.1 (XS.iloadN X2.here hx rfl (hb hby d7_15) rfl (XS.bipush X2.here hx rfl (hb hby d7_16) (XS.iadd X2.here hx rfl (hb hby d7_18) rfl kz))))))) ?_
  show EndsK p e below _ (T2.setTop (mkF m 19 #[vr x, vr y, vi (6 : Int32), .unset, .unset] [(.int (22 : Int32))]))
  refine EndsK.go (fun _ kz => XS.goto X2.here hx rfl (pc0 := 19) (pc' := 24) rfl (hb hby d7_19) (by decide) (by decide) (XS.istoreN X2.here hx rfl (hb hby d7_24) rfl (l' := #[vr x, vr y, vi (6 : Int32), vi (22 : Int32), .unset]) rfl (XS.aloadN X2.here hx rfl (hb hby d7_25) rfl rfl kz))) ?_
  obtain ⟨cq3, kq3, qa3, qb3, qc3⟩ := isOf hZ e2 Es
  obtain ⟨_, T3, Lc3, X3, hQ3, st3⟩ := doneT X2 (X2.virtualBack hx (y := mn6) (z := mn6) hown (mvT hZ (tw hw 65 rfl)) (mvT hZ (tw hw 58 rfl)) (notFace_of_selects (args := #[]) (mvT hZ (tw hw 60 rfl))) (mvT hZ (tw hw 60 rfl)) (mvT hZ (tw hw 59 rfl)) (by decide) (backOf (W := 0) (rm_coder l Z a0 hw [] y zc h0 n0 Z0 SC hzc Fsc) hZ (tw hw 61 rfl) (tw hw 34 rfl) (by decide) (by decide)) qa3 qc3 (g := (mkF m 26 #[vr x, vr y, vi (6 : Int32), vi (22 : Int32), .unset] [(.ref y)])) rfl (by rw [hml]; rfl) (Steps.refl _) (argsL := []) (rest := []) (lenOf pd2 rfl) rfl (by show 2 * 0 + _ ≤ _; exact Nat.le_of_eq rfl) (hb hby d7_26) (fun _ _ => ⟨rfl, e2, (by decide : 0 + 0 + 0 ≤ _), (by decide : 0 + 0 + 0 ≤ _)⟩))
  obtain ⟨rfl, N3, e3⟩ := hQ3
  have M3 := Fr.app M2 N3
  refine EndsK.tr st3 ?_
  refine EndsK.go (fun _ kz => XS.istore X3.here hx rfl (hb hby d7_29) rfl (l' := #[vr x, vr y, vi (6 : Int32), vi (22 : Int32), vi (0 : Int32)]) rfl (XS.aloadN X3.here hx rfl (hb hby d7_31) rfl rfl (XS.iload X3.here hx rfl (hb hby d7_32) rfl kz))) ?_
  obtain ⟨T4, h4, X4, e4, W4, st4⟩ := putF X3 hx hZ hown (host := "") (Or.inl (tw hw 66 rfl)) Via.refl e3 Fc Ex (Or.inl (tw hw 67 rfl)) (tw hw 31 rfl) (ty := .byte) (by decide) rfl rfl (g := (mkF m 34 #[vr x, vr y, vi (6 : Int32), vi (22 : Int32), vi (0 : Int32)] [(.int (0 : Int32)), (.ref x)])) rfl rfl (hb hby d7_34)
  refine EndsK.go st4 ?_
  have N4 := Fr.snoc X4 M3 gx
  have E4_y := Es.wr W4
  have F4_coder_y := Fsc.other W4 (Or.inl nyx)
  have F4_value_y := Fsv.other W4 (Or.inl nyx)
  have B4_ty := Bs.other W4 ntx
  have S4_COMPACT_STRINGS := SC.wr W4
  have E4_x := Ex.wr W4
  have F4_value_x := Fv.other W4 (Or.inr (slot_ne (Or.inl (tw hw 69 rfl)) (Or.inl (tw hw 67 rfl)) (by decide) (t := (.array .byte)) (t' := .byte) (by decide) (by decide)))
  have F4_coder := Fc.same W4
  have F4_count_x := Fn.other W4 (Or.inr (slot_ne (Or.inl (tw hw 85 rfl)) (Or.inl (tw hw 67 rfl)) (by decide) (t := .int) (t' := .byte) (by decide) (by decide)))
  have Z4 : n0 ≤ h4.size := Nat.le_trans Z0 (Nat.le_of_eq W4.size.symm)
  have K4 := K0.wr W4 (Or.inl (List.mem_singleton.mpr rfl))
  refine EndsK.go (fun _ kz => XS.aloadN X4.here hx rfl (hb hby d7_37) rfl rfl (XS.iload X4.here hx rfl (hb hby d7_38) rfl (XS.ifNo X4.here hx rfl (hb hby d7_40) rfl ((if0 _ _).trans (teq (rfl : (0 : Int32) = (0 : Int32))).2) (XS.iloadN X4.here hx rfl (hb hby d7_43) rfl kz)))) ?_
  refine EndsK.start (congrArg (fun z_ => (mkF m 44 #[vr x, vr y, vi (6 : Int32), vi (22 : Int32), vi (0 : Int32)] [(.int z_), (.ref x)])) (rfl : (22 : Int32) = (Int32.ofNat 22))) ?_
  obtain ⟨T5, h5, X5, e5, E5, B5, Eb5, st5⟩ := newB X4 hx hZ (tw hw 36 rfl) e4 (g := (mkF m 44 #[vr x, vr y, vi (6 : Int32), vi (22 : Int32), vi (0 : Int32)] [(.int (Int32.ofNat 22)), (.ref x)])) rfl (hb hby d7_44) rfl (cap := 22) (Nat.le_refl _) (by decide) (by decide) (by decide)
  obtain ⟨b, g5⟩ : ∃ z, z = h4.size := ⟨_, rfl⟩
  rw [← g5] at B5 Eb5 st5
  refine EndsK.go st5 ?_
  have E5_y := E4_y.ext E5
  have F5_coder_y := F4_coder_y.ext E5
  have F5_value_y := F4_value_y.ext E5
  have B5_ty := B4_ty.ext E5
  have S5_COMPACT_STRINGS := S4_COMPACT_STRINGS.ext E5
  have E5_x := E4_x.ext E5
  have F5_value_x := F4_value_x.ext E5
  have F5_coder_x := F4_coder.ext E5
  have F5_count_x := F4_count_x.ext E5
  have K5 := K4.ext E5
  have sz_b : h0.size ≤ b := by rw [g5]; exact K4.1
  have ne_y_b : y ≠ b := Nat.ne_of_lt (by rw [g5]; exact E4_y.lt)
  have ne_ty_b : ty ≠ b := Nat.ne_of_lt (by rw [g5]; exact B4_ty.lt)
  have ne_x_b : x ≠ b := Nat.ne_of_lt (by rw [g5]; exact E4_x.lt)
  have Z5 : n0 ≤ h5.size := Nat.le_trans Z4 E5.1
  have G5 : n0 ≤ b := by rw [g5]; exact Z4
  refine EndsK.go (fun _ kz => XS.goto X5.here hx rfl (pc0 := 46) (pc' := 53) rfl (hb hby d7_46) (by decide) (by decide) kz) ?_
  obtain ⟨T6, h6, X6, e6, W6, st6⟩ := putF X5 hx hZ hown (host := "") (Or.inl (tw hw 68 rfl)) Via.refl e5 F5_value_x E5_x (Or.inl (tw hw 69 rfl)) (tw hw 31 rfl) (ty := (.array .byte)) (by decide) rfl rfl (g := (mkF m 53 #[vr x, vr y, vi (6 : Int32), vi (22 : Int32), vi (0 : Int32)] [(.ref b), (.ref x)])) rfl rfl (hb hby d7_53)
  refine EndsK.go st6 ?_
  have N6 := Fr.snoc X6 N4 gx
  have E6_y := E5_y.wr W6
  have F6_coder_y := F5_coder_y.other W6 (Or.inl nyx)
  have F6_value_y := F5_value_y.other W6 (Or.inl nyx)
  have B6_ty := B5_ty.other W6 ntx
  have S6_COMPACT_STRINGS := S5_COMPACT_STRINGS.wr W6
  have E6_x := E5_x.wr W6
  have F6_value := F5_value_x.same W6
  have F6_coder_x := F5_coder_x.other W6 (Or.inr (slot_ne (Or.inl (tw hw 67 rfl)) (Or.inl (tw hw 69 rfl)) (by decide) (t := .byte) (t' := (.array .byte)) (by decide) (by decide)))
  have F6_count_x := F5_count_x.other W6 (Or.inr (slot_ne (Or.inl (tw hw 85 rfl)) (Or.inl (tw hw 69 rfl)) (by decide) (t := .int) (t' := (.array .byte)) (by decide) (by decide)))
  have B6_b := B5.other W6 (Ne.symm ne_x_b)
  have E6_b := Eb5.wr W6
  have Z6 : n0 ≤ h6.size := Nat.le_trans Z5 (Nat.le_of_eq W6.size.symm)
  have K6 := K5.wr W6 (Or.inl (List.mem_singleton.mpr rfl))
  refine EndsK.go (fun _ kz => XS.aloadN X6.here hx rfl (hb hby d7_56) rfl rfl (XS.aloadN X6.here hx rfl (hb hby d7_57) rfl rfl kz)) ?_
  obtain ⟨cq7, kq7, qa7, qb7, qc7⟩ := isOf hZ e6 E6_x
  obtain ⟨_, T7, Lc7, X7, hQ7, st7⟩ := doneT X6 (X6.virtualBack hx (y := mn18) (z := mn20) hown (mvT hZ (tw hw 70 rfl)) (mvT hZ (tw hw 71 rfl)) (notFace_by (args := #[]) (mvT hZ (tw hw 89 rfl)) rfl) (mvT hZ (tw hw 73 rfl)) (mvT hZ (tw hw 74 rfl)) (by decide) (backOf (W := 0) (rm_apS3 l Z a0 hw [] y ty gs x b (fun _ => 0) zc h6 n0 Z6 S6_COMPACT_STRINGS hzc E6_y F6_coder_y F6_value_y B6_ty ⟨E6_x, F6_value, F6_coder_x, F6_count_x, B6_b, E6_b, Or.inl rfl, ne_x_b, by decide⟩ gx G5 ne_ty_b) hZ (tw hw 75 rfl) (tw hw 32 rfl) (by decide) (by decide)) qa7 qc7 (g := (mkF m 58 #[vr x, vr y, vi (6 : Int32), vi (22 : Int32), vi (0 : Int32)] [(.ref y), (.ref x)])) rfl (by rw [hml]; rfl) (Steps.refl _) (argsL := [(.ref y)]) (rest := []) (lenOf pd12 rfl) rfl (by show 2 * 0 + _ ≤ _; exact Nat.le_of_eq rfl) (hb hby d7_58) (fun _ _ => ⟨rfl, e6, (by decide : 0 + 0 + 0 + 1 + 1 ≤ _), (by decide : 0 + 0 + 0 + 22 + 64 ≤ _)⟩))
  obtain ⟨rfl, N7, Kc7, S7⟩ := hQ7
  have M7 := Fr.app N6 N7
  obtain ⟨h7, e7⟩ : ∃ z, T7.heap = z := ⟨_, rfl⟩
  rw [e7] at Kc7 S7
  have Z7 : n0 ≤ h7.size := Nat.le_trans Z6 Kc7.1
  have K7 := K6.trans Kc7 (allS (Or.inl (List.mem_singleton.mpr rfl)) (allS (Or.inr sz_b) all0))
  have E7_y := E6_y.keep Kc7
  have F7_y_coder := F6_coder_y.keep Kc7 (ninS nyx (ninS ne_y_b nin0))
  have F7_y_value := F6_value_y.keep Kc7 (ninS nyx (ninS ne_y_b nin0))
  have B7_ty := B6_ty.keep Kc7 (ninS ntx (ninS ne_ty_b nin0))
  have E7_x := E6_x.keep Kc7
  have E7_b := E6_b.keep Kc7
  refine EndsK.tr st7 ?_
  refine EndsK.go (fun _ kz => XS.pop X7.here hx rfl (hb hby d7_61) rfl rfl kz) ?_
  show EndsK p e below _ (T7.setTop (mkF m 62 #[vr x, vr y, vi (6 : Int32), vi (22 : Int32), vi (0 : Int32)] []))
  exact endV X7 hx Bd.returns (hb hby d7_62) hlk ⟨b, (fun j => if 0 ≤ j ∧ j < 0 + 6 then gs (j - 0) else 0), rfl, M7, by rw [e7]; exact K7, sz_b, by rw [e7]; exact S7, fun j hj => (show (if 0 ≤ j ∧ j < 0 + 6 then gs (j - 0) else (0 : Int32)) = gs j from if_pos (by omega))⟩ (by decide) (by decide)
abbrev B6 := jdk_67_method_3_code
theorem d6_0 : decode B6 0 = .ok (.aload_n 0, 1) := by decide +kernel
theorem d6_1 : decode B6 1 = .ok (.aload_n 1, 1) := by decide +kernel
theorem d6_2 : decode B6 2 = .ok (.invokespecial 7, 3) := by decide +kernel
theorem d6_5 : decode B6 5 = .ok (.return_, 1) := by decide +kernel
def Q_sbI (Z : State) (y : Addr) (ty : Addr) (gs : Nat → Int32) (x : Addr) (zc : Int32) (h0 : Heap) (n0 : Nat) (vz : Option Value) (hz : Heap) (Lz : List Loc) : Prop := ∃ (t : Addr) (F : Nat → Int32), vz = none ∧ Fr n0 Lz ∧ Keep h0 hz [x] ∧ h0.size ≤ t ∧ SBt Z hz x t 22 F 6 ∧ (∀ j, j < 6 → F j = gs j)
abbrev rr_sbI : Room := ({ frames := 8, cells := 2, slots := 90, locals := 156 } : Room)
set_option maxRecDepth 65536 in
set_option maxHeartbeats 40000000 in
theorem rm_sbI (l : Launch) (Z : State) (a0 : Array Value) (hw : ∀ d ∈ tables_1, d.before a0 Z = true) (ws : List Jvm.Cond) (y : Addr) (ty : Addr) (gs : Nat → Int32) (x : Addr) (zc : Int32) (h0 : Heap) (n0 : Nat) (Z0 : n0 ≤ h0.size) (SC : Sta Z h0 "java/lang/String" "COMPACT_STRINGS" "Z" (.int zc)) (hzc : ¬ (zc = (0 : Int32))) (Es : Exa Z h0 y "java/lang/String") (Fsc : Fld Z h0 y "java/lang/String" "coder" "B" (.int (0 : Int32))) (Fsv : Fld Z h0 y "java/lang/String" "value" "[B" (.ref ty)) (Bs : Byt Z h0 ty 6 gs) (Ex : Exa Z h0 x "java/lang/StringBuilder") (Fv : Fld Z h0 x "java/lang/AbstractStringBuilder" "value" "[B" .null) (Fc : Fld Z h0 x "java/lang/AbstractStringBuilder" "coder" "B" (.int (0 : Int32))) (Fn : Fld Z h0 x "java/lang/AbstractStringBuilder" "count" "I" (.int (0 : Int32))) (gx : n0 ≤ x) (nyx : y ≠ x) (ntx : ty ≠ x) :
    MetFree l mn22 (head1 (Jvm.Cond.code mn22 jdk_67_method_3_code 2 none :: ws) rr_sbI) (PreK Z #[(.ref x), (.ref y)] h0) (fun _ _ _ _ _ => True) (PosK (Q_sbI Z y ty gs x zc h0 n0) rr_sbI) := by
  refine startK n0 (L := #[vr x, vr y]) (plainFor_of_name pn7) (fun _ => rfl) fun p e s m below meth c s₁ Bd hZ hh hx hby hml hown hnm hlk X0 e0 N0 => ?_
  refine EndsK.go (fun _ kz => XS.aloadN X0.here hx rfl (hb hby d6_0) rfl rfl (XS.aloadN X0.here hx rfl (hb hby d6_1) rfl rfl kz)) ?_
  obtain ⟨_, T1, Lc1, X1, hQ1, st1⟩ := doneT X0 (X0.specialBack hx (y := mn21) rfl hown (mvT hZ (tw hw 44 rfl)) (mvT hZ (tw hw 45 rfl)) (mvT hZ (tw hw 49 rfl)) (by decide) (backOf (W := 0) (rm_asbI l Z a0 hw [] y ty gs x zc h0 n0 Z0 SC hzc Es Fsc Fsv Bs Ex Fv Fc Fn gx nyx ntx) hZ (tw hw 49 rfl) (tw hw 48 rfl) (by decide) (by decide)) (g := (mkF m 2 #[vr x, vr y] [(.ref y), (.ref x)])) rfl (by rw [hml]; rfl) (Steps.refl _) (a := x) (argsL := [(.ref y)]) (rest := []) (lenOf pd7 rfl) rfl (by show 2 * 0 + _ ≤ _; exact Nat.le_of_eq rfl) (hb hby d6_2) (fun _ _ => ⟨rfl, e0, (by decide : 0 + 2 ≤ _), (by decide : 0 + 90 ≤ _)⟩))
  obtain ⟨t1, F1, rfl, N1, Kc1, q_s1, S1, q_f1⟩ := hQ1
  have M1 := Fr.app N0 N1
  obtain ⟨h1, e1⟩ : ∃ z, T1.heap = z := ⟨_, rfl⟩
  rw [e1] at Kc1 S1
  have Z1 : n0 ≤ h1.size := Nat.le_trans Z0 Kc1.1
  refine EndsK.tr st1 ?_
  show EndsK p e below _ (T1.setTop (mkF m 5 #[vr x, vr y] []))
  exact endV X1 hx Bd.returns (hb hby d6_5) hlk ⟨t1, F1, rfl, M1, by rw [e1]; exact Kc1, q_s1, by rw [e1]; exact S1, q_f1⟩ (by decide) (by decide)
abbrev B48 := jdk_68_method_31_code
theorem d48_0 : decode B48 0 = .ok (.aload_n 0, 1) := by decide +kernel
theorem d48_1 : decode B48 1 = .ok (.aload_n 0, 1) := by decide +kernel
theorem d48_2 : decode B48 2 = .ok (.getfield 79, 3) := by decide +kernel
theorem d48_5 : decode B48 5 = .ok (.iconst 1, 1) := by decide +kernel
theorem d48_6 : decode B48 6 = .ok (.iadd, 1) := by decide +kernel
theorem d48_7 : decode B48 7 = .ok (.invokevirtual 100, 3) := by decide +kernel
theorem d48_10 : decode B48 10 = .ok (.aload_n 0, 1) := by decide +kernel
theorem d48_11 : decode B48 11 = .ok (.invokevirtual 83, 3) := by decide +kernel
theorem d48_14 : decode B48 14 = .ok (.ifCond .eq 31, 3) := by decide +kernel
theorem d48_17 : decode B48 17 = .ok (.iload_n 1, 1) := by decide +kernel
theorem d48_18 : decode B48 18 = .ok (.invokestatic 191, 3) := by decide +kernel
theorem d48_21 : decode B48 21 = .ok (.ifCond .eq 24, 3) := by decide +kernel
theorem d48_24 : decode B48 24 = .ok (.aload_n 0, 1) := by decide +kernel
theorem d48_25 : decode B48 25 = .ok (.getfield 15, 3) := by decide +kernel
theorem d48_28 : decode B48 28 = .ok (.aload_n 0, 1) := by decide +kernel
theorem d48_29 : decode B48 29 = .ok (.dup, 1) := by decide +kernel
theorem d48_30 : decode B48 30 = .ok (.getfield 79, 3) := by decide +kernel
theorem d48_33 : decode B48 33 = .ok (.dup_x1, 1) := by decide +kernel
theorem d48_34 : decode B48 34 = .ok (.iconst 1, 1) := by decide +kernel
theorem d48_35 : decode B48 35 = .ok (.iadd, 1) := by decide +kernel
theorem d48_36 : decode B48 36 = .ok (.putfield 79, 3) := by decide +kernel
theorem d48_39 : decode B48 39 = .ok (.iload_n 1, 1) := by decide +kernel
theorem d48_40 : decode B48 40 = .ok (.i2b, 1) := by decide +kernel
theorem d48_41 : decode B48 41 = .ok (.bastore, 1) := by decide +kernel
theorem d48_42 : decode B48 42 = .ok (.goto 33, 3) := by decide +kernel
theorem d48_75 : decode B48 75 = .ok (.aload_n 0, 1) := by decide +kernel
theorem d48_76 : decode B48 76 = .ok (.areturn, 1) := by decide +kernel
def Q_apC (Z : State) (hB : Heap) (zc : Int32) (o : Addr) (d : Addr) (u : Value) (x : Addr) (t : Addr) (N : Nat) (f : Nat → Int32) (n : Nat) (h0 : Heap) (n0 : Nat) (vz : Option Value) (hz : Heap) (Lz : List Loc) : Prop := ∃ (t' : Addr) (N' : Nat) (F : Nat → Int32), vz = some (.ref x) ∧ Fr n0 Lz ∧ Keep h0 hz [x, t] ∧ (t' = t ∨ h0.size ≤ t') ∧ SBt Z hz x t' N' F (n + 1) ∧ (∀ j, j < n → F j = f j) ∧ F n = 32
abbrev rr_apC : Room := ({ frames := 4, cells := 1, slots := 64, locals := 90 } : Room)
theorem pd14 : parseMethodDescriptor "()Z" = some ⟨[], some .boolean⟩ := by decide +kernel
theorem pd15 : parseMethodDescriptor "(C)Z" = some ⟨[.char], some .boolean⟩ := by decide +kernel
set_option maxRecDepth 65536 in
set_option maxHeartbeats 40000000 in
theorem rm_apC (l : Launch) (Z : State) (a0 : Array Value) (hw : ∀ d ∈ tables_1, d.before a0 Z = true) (ws : List Jvm.Cond) (hB : Heap) (zc : Int32) (o : Addr) (d : Addr) (u : Value) (x : Addr) (t : Addr) (N : Nat) (f : Nat → Int32) (n : Nat) (h0 : Heap) (n0 : Nat) (Z0 : n0 ≤ h0.size) (J : JS Z hB zc o d u) (EB : Ext hB h0) (hBn : hB.size ≤ n0) (S0 : SBt Z h0 x t N f n) (gx : n0 ≤ x) (gt : n0 ≤ t) (hn : n + 1 ≤ 42) :
    MetFree l mn23 (head1 (Jvm.Cond.code mn23 jdk_68_method_31_code 2 (some (.object "java/lang/AbstractStringBuilder")) :: ws) rr_apC) (PreK Z #[(.ref x), (.int (32 : Int32))] h0) (fun _ _ _ _ _ => True) (PosK (Q_apC Z hB zc o d u x t N f n h0 n0) rr_apC) := by
  refine startK n0 (L := #[vr x, vi (32 : Int32)]) (plainFor_of_name pn2) (fun _ => rfl) fun p e s m below meth c s₁ Bd hZ hh hx hby hml hown hnm hlk X0 e0 N0 => ?_
  obtain ⟨Ex, Fv, Fc, Fn, B0, Et, hN, nxt, hnN⟩ := id S0
  have hws : ∀ z ∈ [x, t], hB.size ≤ z := allS (Nat.le_trans hBn gx) (allS (Nat.le_trans hBn gt) all0)
  have K0 : Keep h0 h0 [x, t] := Keep.refl h0 [x, t]
  refine EndsK.go (fun _ kz => XS.aloadN X0.here hx rfl (hb hby d48_0) rfl rfl (XS.aloadN X0.here hx rfl (hb hby d48_1) rfl rfl kz)) ?_
  obtain ⟨T1, X1, e1, st1⟩ := getF X0 hx hZ hown (host := "") (Or.inl (tw hw 84 rfl)) Via.refl e0 Fn (g := (mkF m 2 #[vr x, vi (32 : Int32)] [(.ref x), (.ref x)])) rfl rfl (hb hby d48_2)
  refine EndsK.go st1 ?_
  refine EndsK.go (fun _ kz => XS.iconst X1.here hx rfl (hb hby d48_5) (XS.iadd X1.here hx rfl (hb hby d48_6) rfl kz)) ?_
  refine EndsK.start (congrArg (fun z_ => (mkF m 7 #[vr x, vi (32 : Int32)] [(.int z_), (.ref x)])) (on_succ n : ((Int32.ofNat n) + (1 : Int32)) = (Int32.ofNat (n + 1)))) ?_
  obtain ⟨cq2, kq2, qa2, qb2, qc2⟩ := isOf hZ e1 Ex
  obtain ⟨_, T2, Lc2, X2, hQ2, st2⟩ := doneT X1 (X1.virtualBack hx (y := mn14) (z := mn14) hown (mvT hZ (tw hw 86 rfl)) (declares_of (mvT hZ (tw hw 87 rfl)) (mvT hZ (tw hw 90 rfl))) (notFace_of_selects (args := #[]) (mvT hZ (tw hw 89 rfl))) (mvT hZ (tw hw 89 rfl)) (mvT hZ (tw hw 87 rfl)) (by decide) (backOf (W := 0) (rm_ens l Z a0 hw [] x t N f n (n + 1) h0 n0 Z0 S0 gx hn) hZ (tw hw 90 rfl) (tw hw 48 rfl) (by decide) (by decide)) qa2 qc2 (g := (mkF m 7 #[vr x, vi (32 : Int32)] [(.int (Int32.ofNat (n + 1))), (.ref x)])) rfl (by rw [hml]; rfl) (Steps.refl _) (argsL := [(.int (Int32.ofNat (n + 1)))]) (rest := []) (lenOf pd10 rfl) rfl (by show 2 * 0 + _ ≤ _; exact Nat.le_of_eq rfl) (hb hby d48_7) (fun _ _ => ⟨rfl, e1, (by decide : 0 + 1 ≤ _), (by decide : 0 + 64 ≤ _)⟩))
  obtain ⟨tt, NN, FF, rfl, N2, Kc2, q_t2, S2, q_k2, q_f2⟩ := hQ2
  have M2 := Fr.app N0 N2
  obtain ⟨h2, e2⟩ : ∃ z, T2.heap = z := ⟨_, rfl⟩
  rw [e2] at Kc2 S2
  have Z2 : n0 ≤ h2.size := Nat.le_trans Z0 Kc2.1
  have K2 := K0.trans Kc2 (allS (Or.inl (List.mem_cons_self)) all0)
  have E2_x := Ex.keep Kc2
  have B2_t := B0.keep Kc2 (ninS (Ne.symm nxt) nin0)
  have E2_t := Et.keep Kc2
  obtain ⟨Ex2, Fv2, Fc2, Fn2, B2, Et2, hN2, nxt2, -⟩ := id S2
  have gT : n0 ≤ tt := q_t2.elim (fun q => q ▸ gt) (fun q => Nat.le_trans Z0 q)
  have kT : tt ∈ [x, t] ∨ h0.size ≤ tt := q_t2.elim (fun q => Or.inl (by rw [q]; exact List.mem_cons_of_mem _ (List.mem_singleton.mpr rfl))) Or.inr
  refine EndsK.tr st2 ?_
  refine EndsK.go (fun _ kz => XS.aloadN X2.here hx rfl (hb hby d48_10) rfl rfl kz) ?_
  obtain ⟨cq3, kq3, qa3, qb3, qc3⟩ := isOf hZ e2 Ex2
  obtain ⟨_, T3, Lc3, X3, hQ3, st3⟩ := doneT X2 (X2.virtualBack hx (y := mn7) (z := mn7) hown (mvT hZ (tw hw 300 rfl)) (mvT hZ (tw hw 177 rfl)) (notFace_of_selects (args := #[]) (mvT hZ (tw hw 179 rfl))) (mvT hZ (tw hw 179 rfl)) (mvT hZ (tw hw 178 rfl)) (by decide) (backOf (W := 0) (rm_isl l Z a0 hw [] x zc h2 n0 Z2 (J.SC.ext (ext_kept EB K2 hws)) J.hzc Fc2) hZ (tw hw 180 rfl) (tw hw 48 rfl) (by decide) (by decide)) qa3 qc3 (g := (mkF m 11 #[vr x, vi (32 : Int32)] [(.ref x)])) rfl (by rw [hml]; rfl) (Steps.refl _) (argsL := []) (rest := []) (lenOf pd14 rfl) rfl (by show 2 * 0 + _ ≤ _; exact Nat.le_of_eq rfl) (hb hby d48_11) (fun _ _ => ⟨rfl, e2, (by decide : 0 + 1 + 0 ≤ _), (by decide : 0 + 64 + 0 ≤ _)⟩))
  obtain ⟨rfl, N3, e3⟩ := hQ3
  have M3 := Fr.app M2 N3
  refine EndsK.tr st3 ?_
  refine EndsK.go (fun _ kz => XS.ifNo X3.here hx rfl (hb hby d48_14) rfl ((if0 _ _).trans (feq (by decide : ¬ ((1 : Int32) = (0 : Int32)))).1) (XS.iloadN X3.here hx rfl (hb hby d48_17) rfl kz)) ?_
  obtain ⟨_, T4, Lc4, X4, hQ4, st4⟩ := doneG X3 (Jvm.LawKit.callS X3 hx (y := mn8) hown (mvT hZ (tw hw 301 rfl)) (mvT hZ (tw hw 302 rfl)) (mvT hZ (tw hw 209 rfl)) (mvT hZ (tw hw 303 rfl)) (by decide) (backOf (W := 0) (rm_canE l Z a0 hw [] (32 : Int32) h2 n0 Z2 (by decide)) hZ (tw hw 303 rfl) (tw hw 209 rfl) (by decide) (by decide)) (g := (mkF m 18 #[vr x, vi (32 : Int32)] [(.int (32 : Int32))])) rfl (by rw [hml]; rfl) (argsL := [(.int (32 : Int32))]) (rest := []) (lenOf pd15 rfl) rfl (by show 2 * 0 + _ ≤ _; exact Nat.le_of_eq rfl) (hb hby d48_18) (fun _ _ => ⟨rfl, e3, (by decide : 0 + 1 + 0 + 0 ≤ _), (by decide : 0 + 64 + 0 + 0 ≤ _)⟩))
  obtain ⟨rfl, N4, e4⟩ := hQ4
  have M4 := Fr.app M3 N4
  refine EndsK.go st4 ?_
  refine EndsK.go (fun _ kz => XS.ifNo X4.here hx rfl (hb hby d48_21) rfl ((if0 _ _).trans (feq (by decide : ¬ ((1 : Int32) = (0 : Int32)))).1) (XS.aloadN X4.here hx rfl (hb hby d48_24) rfl rfl kz)) ?_
  obtain ⟨T5, X5, e5, st5⟩ := getF X4 hx hZ hown (host := "") (Or.inl (tw hw 68 rfl)) Via.refl e4 Fv2 (g := (mkF m 25 #[vr x, vi (32 : Int32)] [(.ref x)])) rfl rfl (hb hby d48_25)
  refine EndsK.go st5 ?_
  refine EndsK.go (fun _ kz => XS.aloadN X5.here hx rfl (hb hby d48_28) rfl rfl (XS.dup X5.here hx rfl (hb hby d48_29) rfl rfl kz)) ?_
  obtain ⟨T6, X6, e6, st6⟩ := getF X5 hx hZ hown (host := "") (Or.inl (tw hw 84 rfl)) Via.refl e5 Fn2 (g := (mkF m 30 #[vr x, vi (32 : Int32)] [(.ref x), (.ref x), (.ref tt)])) rfl rfl (hb hby d48_30)
  refine EndsK.go st6 ?_
  refine EndsK.go (fun _ kz => XS.dupX1 X6.here hx rfl (hb hby d48_33) rfl rfl rfl (XS.iconst X6.here hx rfl (hb hby d48_34) (XS.iadd X6.here hx rfl (hb hby d48_35) rfl kz))) ?_
  refine EndsK.start (congrArg (fun z_ => (mkF m 36 #[vr x, vi (32 : Int32)] [(.int z_), (.ref x), (.int (Int32.ofNat n)), (.ref tt)])) (on_succ n : ((Int32.ofNat n) + (1 : Int32)) = (Int32.ofNat (n + 1)))) ?_
  obtain ⟨T7, h7, X7, e7, W7, st7⟩ := putF X6 hx hZ hown (host := "") (Or.inl (tw hw 84 rfl)) Via.refl e6 Fn2 Ex2 (Or.inl (tw hw 85 rfl)) (tw hw 31 rfl) (ty := .int) (by decide) rfl rfl (g := (mkF m 36 #[vr x, vi (32 : Int32)] [(.int (Int32.ofNat (n + 1))), (.ref x), (.int (Int32.ofNat n)), (.ref tt)])) rfl rfl (hb hby d48_36)
  refine EndsK.go st7 ?_
  have N7 := Fr.snoc X7 M4 gx
  have E7_x := Ex2.wr W7
  have F7_value_x := Fv2.other W7 (Or.inr (slot_ne (Or.inl (tw hw 69 rfl)) (Or.inl (tw hw 85 rfl)) (by decide) (t := (.array .byte)) (t' := .int) (by decide) (by decide)))
  have F7_coder_x := Fc2.other W7 (Or.inr (slot_ne (Or.inl (tw hw 67 rfl)) (Or.inl (tw hw 85 rfl)) (by decide) (t := .byte) (t' := .int) (by decide) (by decide)))
  have F7_count := Fn2.same W7
  have B7_tt := B2.other W7 (Ne.symm nxt2)
  have E7_tt := Et2.wr W7
  have Z7 : n0 ≤ h7.size := Nat.le_trans Z2 (Nat.le_of_eq W7.size.symm)
  have K7 := K2.wr W7 (Or.inl (List.mem_cons_self))
  refine EndsK.go (fun _ kz => XS.iloadN X7.here hx rfl (hb hby d48_39) rfl (XS.i2b X7.here hx rfl (hb hby d48_40) rfl kz)) ?_
  refine EndsK.start (congrArg (fun z_ => (mkF m 41 #[vr x, vi (32 : Int32)] [(.int z_), (.int (Int32.ofNat n)), (.ref tt)])) (by decide : (32 : Int32).toInt8.toInt32 = (32 : Int32))) ?_
  obtain ⟨ca8, Aa8, za8, la8, Ha8⟩ := id B7_tt
  obtain ⟨T8, h8, X8, e8, W8, st8⟩ := stB X7 hx hZ e7 Aa8 (j := (Int32.ofNat n)) (byt_in za8 la8 (by omega)) (g := (mkF m 41 #[vr x, vi (32 : Int32)] [(.int (32 : Int32)), (.int (Int32.ofNat n)), (.ref tt)])) rfl rfl (hb hby d48_41)
  refine EndsK.go st8 ?_
  have B8 : Byt Z h8 tt (NN) (fun i => if i = n then (32 : Int32) else FF i) := by have qz_ := B7_tt.set W8 (fits_nar_byte _); rw [on_clamp (a := n) (by omega), nar_byte (x := (32 : Int32)) (k := 32) rfl (by decide)] at qz_; exact qz_
  have N8 := Fr.snoc X8 N7 gT
  have K8 := K7.wr W8 kT
  have Z8 : n0 ≤ h8.size := Nat.le_trans Z7 (Nat.le_of_eq W8.size.symm)
  have E8_x := E7_x.wr W8
  have F8_value_x := F7_value_x.other W8 (Or.inl nxt2)
  have F8_coder_x := F7_coder_x.other W8 (Or.inl nxt2)
  have F8_count_x := F7_count.other W8 (Or.inl nxt2)
  have E8_tt := E7_tt.wr W8
  refine EndsK.go (fun _ kz => XS.goto X8.here hx rfl (pc0 := 42) (pc' := 75) rfl (hb hby d48_42) (by decide) (by decide) (XS.aloadN X8.here hx rfl (hb hby d48_75) rfl rfl kz)) ?_
  show EndsK p e below _ (T8.setTop (mkF m 76 #[vr x, vi (32 : Int32)] [(.ref x)]))
  exact endR X8 hx Bd.returns rfl rfl (hb hby d48_76) hlk ⟨tt, NN, (fun i => if i = n then (32 : Int32) else FF i), rfl, N8, by rw [e8]; exact K8, q_t2, by rw [e8]; exact ⟨E8_x, F8_value_x, F8_coder_x, F8_count_x, B8, E8_tt, hN2, nxt2, by omega⟩, fun j hj => (show (if j = n then (32 : Int32) else FF j) = f j from (if_neg (by omega)).trans (q_f2 j (by omega))), if_pos rfl⟩ (by decide) (by decide)
abbrev B47 := jdk_67_method_14_code
theorem d47_0 : decode B47 0 = .ok (.aload_n 0, 1) := by decide +kernel
theorem d47_1 : decode B47 1 = .ok (.iload_n 1, 1) := by decide +kernel
theorem d47_2 : decode B47 2 = .ok (.invokespecial 50, 3) := by decide +kernel
theorem d47_5 : decode B47 5 = .ok (.pop, 1) := by decide +kernel
theorem d47_6 : decode B47 6 = .ok (.aload_n 0, 1) := by decide +kernel
theorem d47_7 : decode B47 7 = .ok (.areturn, 1) := by decide +kernel
def Q_apC2 (Z : State) (hB : Heap) (zc : Int32) (o : Addr) (d : Addr) (u : Value) (x : Addr) (t : Addr) (N : Nat) (f : Nat → Int32) (n : Nat) (h0 : Heap) (n0 : Nat) (vz : Option Value) (hz : Heap) (Lz : List Loc) : Prop := ∃ (t' : Addr) (N' : Nat) (F : Nat → Int32), vz = some (.ref x) ∧ Fr n0 Lz ∧ Keep h0 hz [x, t] ∧ (t' = t ∨ h0.size ≤ t') ∧ SBt Z hz x t' N' F (n + 1) ∧ (∀ j, j < n → F j = f j) ∧ F n = 32
abbrev rr_apC2 : Room := ({ frames := 5, cells := 1, slots := 64, locals := 105 } : Room)
theorem pd16 : parseMethodDescriptor "(C)Ljava/lang/AbstractStringBuilder;" = some ⟨[.char], some (.object "java/lang/AbstractStringBuilder")⟩ := by decide +kernel
set_option maxRecDepth 65536 in
set_option maxHeartbeats 40000000 in
theorem rm_apC2 (l : Launch) (Z : State) (a0 : Array Value) (hw : ∀ d ∈ tables_1, d.before a0 Z = true) (ws : List Jvm.Cond) (hB : Heap) (zc : Int32) (o : Addr) (d : Addr) (u : Value) (x : Addr) (t : Addr) (N : Nat) (f : Nat → Int32) (n : Nat) (h0 : Heap) (n0 : Nat) (Z0 : n0 ≤ h0.size) (J : JS Z hB zc o d u) (EB : Ext hB h0) (hBn : hB.size ≤ n0) (S0 : SBt Z h0 x t N f n) (gx : n0 ≤ x) (gt : n0 ≤ t) (hn : n + 1 ≤ 42) :
    MetFree l mn24 (head1 (Jvm.Cond.code mn24 jdk_67_method_14_code 2 (some (.object "java/lang/StringBuilder")) :: ws) rr_apC2) (PreK Z #[(.ref x), (.int (32 : Int32))] h0) (fun _ _ _ _ _ => True) (PosK (Q_apC2 Z hB zc o d u x t N f n h0 n0) rr_apC2) := by
  refine startK n0 (L := #[vr x, vi (32 : Int32)]) (plainFor_of_name pn7) (fun _ => rfl) fun p e s m below meth c s₁ Bd hZ hh hx hby hml hown hnm hlk X0 e0 N0 => ?_
  have Ex := S0.1
  refine EndsK.go (fun _ kz => XS.aloadN X0.here hx rfl (hb hby d47_0) rfl rfl (XS.iloadN X0.here hx rfl (hb hby d47_1) rfl kz)) ?_
  obtain ⟨_, T1, Lc1, X1, hQ1, st1⟩ := doneT X0 (superBack X0 hx hZ (K := "java/lang/StringBuilder") (y := mn23) hown (tw hw 296 rfl) (same_of (tw hw 297 rfl) (tw hw 89 rfl) rfl (by decide)) (tw hw 297 rfl) (tw hw 82 rfl) (by decide) (backOf (W := 0) (rm_apC l Z a0 hw [] hB zc o d u x t N f n h0 n0 Z0 J EB hBn S0 gx gt hn) hZ (tw hw 299 rfl) (tw hw 48 rfl) (by decide) (by decide)) e0 (a := x) (Ins.self Ex) (g := (mkF m 2 #[vr x, vi (32 : Int32)] [(.int (32 : Int32)), (.ref x)])) rfl (by rw [hml]; rfl) (tw hw 299 rfl) (argsL := [(.int (32 : Int32))]) (rest := []) (lenOf pd16 rfl) rfl (by show 2 * 0 + _ ≤ _; exact Nat.le_of_eq rfl) (hb hby d47_2) (fun _ _ => ⟨rfl, e0, (by decide : 0 + 1 ≤ _), (by decide : 0 + 64 ≤ _)⟩))
  obtain ⟨t1, N_1, F1, rfl, N1, Kc1, q_t1, S1, q_f1, q_g1⟩ := hQ1
  have M1 := Fr.app N0 N1
  obtain ⟨h1, e1⟩ : ∃ z, T1.heap = z := ⟨_, rfl⟩
  rw [e1] at Kc1 S1
  have Z1 : n0 ≤ h1.size := Nat.le_trans Z0 Kc1.1
  refine EndsK.tr st1 ?_
  refine EndsK.go (fun _ kz => XS.pop X1.here hx rfl (hb hby d47_5) rfl rfl (XS.aloadN X1.here hx rfl (hb hby d47_6) rfl rfl kz)) ?_
  show EndsK p e below _ (T1.setTop (mkF m 7 #[vr x, vi (32 : Int32)] [(.ref x)]))
  exact endR X1 hx Bd.returns rfl rfl (hb hby d47_7) hlk ⟨t1, N_1, F1, rfl, M1, by rw [e1]; exact Kc1, q_t1, by rw [e1]; exact S1, q_f1, q_g1⟩ (by decide) (by decide)
abbrev B53 := jdk_33_method_12_code
theorem d53_0 : decode B53 0 = .ok (.iload_n 1, 1) := by decide +kernel
theorem d53_1 : decode B53 1 = .ok (.istore 5, 2) := by decide +kernel
theorem d53_3 : decode B53 3 = .ok (.iload_n 0, 1) := by decide +kernel
theorem d53_4 : decode B53 4 = .ok (.ifCond .ge 7, 3) := by decide +kernel
theorem d53_7 : decode B53 7 = .ok (.iconst 1, 1) := by decide +kernel
theorem d53_8 : decode B53 8 = .ok (.goto 4, 3) := by decide +kernel
theorem d53_11 : decode B53 11 = .ok (.iconst 0, 1) := by decide +kernel
theorem d53_12 : decode B53 12 = .ok (.istore 6, 2) := by decide +kernel
theorem d53_14 : decode B53 14 = .ok (.iload 6, 2) := by decide +kernel
theorem d53_16 : decode B53 16 = .ok (.ifCond .ne 6, 3) := by decide +kernel
theorem d53_19 : decode B53 19 = .ok (.iload_n 0, 1) := by decide +kernel
theorem d53_20 : decode B53 20 = .ok (.ineg, 1) := by decide +kernel
theorem d53_21 : decode B53 21 = .ok (.istore_n 0, 1) := by decide +kernel
theorem d53_22 : decode B53 22 = .ok (.iload_n 0, 1) := by decide +kernel
theorem d53_23 : decode B53 23 = .ok (.bipush (-100), 2) := by decide +kernel
theorem d53_25 : decode B53 25 = .ok (.if_icmp .gt 47, 3) := by decide +kernel
theorem d53_28 : decode B53 28 = .ok (.iload_n 0, 1) := by decide +kernel
theorem d53_29 : decode B53 29 = .ok (.bipush 100, 2) := by decide +kernel
theorem d53_31 : decode B53 31 = .ok (.idiv, 1) := by decide +kernel
theorem d53_32 : decode B53 32 = .ok (.istore_n 3, 1) := by decide +kernel
theorem d53_33 : decode B53 33 = .ok (.iload_n 3, 1) := by decide +kernel
theorem d53_34 : decode B53 34 = .ok (.bipush 100, 2) := by decide +kernel
theorem d53_36 : decode B53 36 = .ok (.imul, 1) := by decide +kernel
theorem d53_37 : decode B53 37 = .ok (.iload_n 0, 1) := by decide +kernel
theorem d53_38 : decode B53 38 = .ok (.isub, 1) := by decide +kernel
theorem d53_39 : decode B53 39 = .ok (.istore 4, 2) := by decide +kernel
theorem d53_41 : decode B53 41 = .ok (.iload_n 3, 1) := by decide +kernel
theorem d53_42 : decode B53 42 = .ok (.istore_n 0, 1) := by decide +kernel
theorem d53_43 : decode B53 43 = .ok (.aload_n 2, 1) := by decide +kernel
theorem d53_44 : decode B53 44 = .ok (.iinc 5 (-1), 3) := by decide +kernel
theorem d53_47 : decode B53 47 = .ok (.iload 5, 2) := by decide +kernel
theorem d53_49 : decode B53 49 = .ok (.getstatic 83, 3) := by decide +kernel
theorem d53_52 : decode B53 52 = .ok (.iload 4, 2) := by decide +kernel
theorem d53_54 : decode B53 54 = .ok (.baload, 1) := by decide +kernel
theorem d53_55 : decode B53 55 = .ok (.bastore, 1) := by decide +kernel
theorem d53_56 : decode B53 56 = .ok (.aload_n 2, 1) := by decide +kernel
theorem d53_57 : decode B53 57 = .ok (.iinc 5 (-1), 3) := by decide +kernel
theorem d53_60 : decode B53 60 = .ok (.iload 5, 2) := by decide +kernel
theorem d53_62 : decode B53 62 = .ok (.getstatic 87, 3) := by decide +kernel
theorem d53_65 : decode B53 65 = .ok (.iload 4, 2) := by decide +kernel
theorem d53_67 : decode B53 67 = .ok (.baload, 1) := by decide +kernel
theorem d53_68 : decode B53 68 = .ok (.bastore, 1) := by decide +kernel
theorem d53_69 : decode B53 69 = .ok (.goto (-47), 3) := by decide +kernel
theorem d53_72 : decode B53 72 = .ok (.aload_n 2, 1) := by decide +kernel
theorem d53_73 : decode B53 73 = .ok (.iinc 5 (-1), 3) := by decide +kernel
theorem d53_76 : decode B53 76 = .ok (.iload 5, 2) := by decide +kernel
theorem d53_78 : decode B53 78 = .ok (.getstatic 83, 3) := by decide +kernel
theorem d53_81 : decode B53 81 = .ok (.iload_n 0, 1) := by decide +kernel
theorem d53_82 : decode B53 82 = .ok (.ineg, 1) := by decide +kernel
theorem d53_83 : decode B53 83 = .ok (.baload, 1) := by decide +kernel
theorem d53_84 : decode B53 84 = .ok (.bastore, 1) := by decide +kernel
theorem d53_85 : decode B53 85 = .ok (.iload_n 0, 1) := by decide +kernel
theorem d53_86 : decode B53 86 = .ok (.bipush (-9), 2) := by decide +kernel
theorem d53_88 : decode B53 88 = .ok (.if_icmp .ge 16, 3) := by decide +kernel
theorem d53_91 : decode B53 91 = .ok (.aload_n 2, 1) := by decide +kernel
theorem d53_92 : decode B53 92 = .ok (.iinc 5 (-1), 3) := by decide +kernel
theorem d53_95 : decode B53 95 = .ok (.iload 5, 2) := by decide +kernel
theorem d53_97 : decode B53 97 = .ok (.getstatic 87, 3) := by decide +kernel
theorem d53_100 : decode B53 100 = .ok (.iload_n 0, 1) := by decide +kernel
theorem d53_101 : decode B53 101 = .ok (.ineg, 1) := by decide +kernel
theorem d53_102 : decode B53 102 = .ok (.baload, 1) := by decide +kernel
theorem d53_103 : decode B53 103 = .ok (.bastore, 1) := by decide +kernel
theorem d53_104 : decode B53 104 = .ok (.iload 6, 2) := by decide +kernel
theorem d53_106 : decode B53 106 = .ok (.ifCond .eq 12, 3) := by decide +kernel
theorem d53_109 : decode B53 109 = .ok (.aload_n 2, 1) := by decide +kernel
theorem d53_110 : decode B53 110 = .ok (.iinc 5 (-1), 3) := by decide +kernel
theorem d53_113 : decode B53 113 = .ok (.iload 5, 2) := by decide +kernel
theorem d53_115 : decode B53 115 = .ok (.bipush 45, 2) := by decide +kernel
theorem d53_117 : decode B53 117 = .ok (.bastore, 1) := by decide +kernel
theorem d53_118 : decode B53 118 = .ok (.iload 5, 2) := by decide +kernel
theorem d53_120 : decode B53 120 = .ok (.ireturn, 1) := by decide +kernel
def Q_gc (Z : State) (hB : Heap) (zc : Int32) (o : Addr) (d : Addr) (u : Value) (v : Int32) (t : Addr) (N : Nat) (f : Nat → Int32) (q : Nat) (h0 : Heap) (n0 : Nat) (vz : Option Value) (hz : Heap) (Lz : List Loc) : Prop := ∃ F : Nat → Int32, vz = some (.int (Int32.ofNat q)) ∧ Fr n0 Lz ∧ Keep h0 hz [t] ∧ Byt Z hz t N F ∧ Num F q v ∧ (∀ j, j < q → F j = f j)
abbrev rr_gc : Room := ({ frames := 0, cells := 0, slots := 0, locals := 0 } : Room)
set_option maxRecDepth 65536 in
set_option maxHeartbeats 40000000 in
theorem rm_gc (l : Launch) (Z : State) (a0 : Array Value) (hw : ∀ d ∈ tables_1, d.before a0 Z = true) (ws : List Jvm.Cond) (hB : Heap) (zc : Int32) (o : Addr) (d : Addr) (u : Value) (v : Int32) (t : Addr) (N : Nat) (f : Nat → Int32) (q : Nat) (h0 : Heap) (n0 : Nat) (Z0 : n0 ≤ h0.size) (J : JS Z hB zc o d u) (EB : Ext hB h0) (hBn : hB.size ≤ n0) (gt : n0 ≤ t) (B0 : Byt Z h0 t N f) (hq : q + sl v ≤ N) (hN64 : N ≤ 64) :
    MetFree l mn25 (head1 (Jvm.Cond.code mn25 jdk_33_method_12_code 7 (some .int) :: ws) rr_gc) (PreK Z #[(.int v), (.int (Int32.ofNat (q + sl v))), (.ref t)] h0) (fun _ _ _ _ _ => True) (PosK (Q_gc Z hB zc o d u v t N f q h0 n0) rr_gc) := by
  refine startK n0 (L := #[vi v, vi (Int32.ofNat (q + sl v)), vr t, .unset, .unset, .unset, .unset]) (plainFor_of_name pn5) (fun _ => rfl) fun p e s m below meth c s₁ Bd hZ hh hx hby hml hown hnm hlk X0 e0 N0 => ?_
  obtain ⟨co, Ao, zo, lo, Ho⟩ := id J.BO
  obtain ⟨cd, Ad, zd, ld, Hd⟩ := id J.BT
  have hws : ∀ z ∈ [t], hB.size ≤ z := allS (Nat.le_trans hBn gt) all0
  have hsl := sl_le v
  have hdg := dg_pos v
  have hsg : sl v = sg v + dg v := rfl
  have hdd : dg v = Jvm.Free.SBG.digits (mg v) := rfl
  have hM := mg_le v
  have Jn : v < 0 → ∀ (n k cp : Nat) (F : Nat → Int32) (T : State) (h : Heap) (Lc : List Loc) (y3 y4 : Slot), (y3 = Slot.unset ∨ ∃ w_, y3 = Slot.val w_ ∧ w_.category = 1) → (y4 = Slot.unset ∨ ∃ w_, y4 = Slot.val w_ ∧ w_.category = 1) → n ≤ 2 ^ 31 → Jvm.Free.SBG.digits (mg v) = k + Jvm.Free.SBG.digits n → cp + k = q + sl v → k + Jvm.Free.SBG.digits n + sg v ≤ q + sl v → n = mg v / 10 ^ k → Dw (mg v) F (q + sl v) k → Kp f F cp → Stand p l e ({ frames := 0, cells := 0, slots := 0, locals := 0 } : Room) s m #[.int v, .int (Int32.ofNat (q + sl v)), .ref t] below meth c T Lc 0 0 → T.heap = h → Keep h0 h [t] → Byt Z h t N F → Fr n0 Lc → EndsK p e below (OQ s (Q_gc Z hB zc o d u v t N f q h0 n0) (({ frames := 0, cells := 0, slots := 0, locals := 0 } : Room)).cells (({ frames := 0, cells := 0, slots := 0, locals := 0 } : Room)).slots) (T.setTop (mkF m 22 #[vi (Jvm.Free.SBG.negI n), vi (Int32.ofNat (q + sl v)), vr t, y3, y4, vi (Int32.ofNat cp), vi (1 : Int32)] [])) := by
    intro hv n
    have hs1 : sg v = 1 := by unfold sg; rw [if_pos hv]
    induction n using Nat.strongRecOn with
    | ind n ih =>
      intro k cp F T h Lc y3 y4 hy3 hy4 hn hdn hck hroom hnM hD hK XJ eJ KJ BJ NJ
      have ZJ : n0 ≤ h.size := Nat.le_trans Z0 KJ.1
      by_cases h100 : n < 100
      · by_cases h9 : 9 < n
        · have hdd2 := dig2 h9 h100
          refine EndsK.go (fun _ kz => XS.iloadN XJ.here hx rfl (hb hby d53_22) rfl (XS.bipush XJ.here hx rfl (hb hby d53_23) (XS.icmpYes XJ.here hx rfl (pc0 := 25) (pc' := 72) rfl (hb hby d53_25) rfl (tlt ((neg100 hn).mpr h100)).2.2.1 (by decide) (by decide) (XS.aloadN XJ.here hx rfl (hb hby d53_72) rfl rfl (XS.iinc XJ.here hx rfl (hb hby d53_73) rfl (l' := #[vi (Jvm.Free.SBG.negI n), vi (Int32.ofNat (q + sl v)), vr t, y3, y4, vi ((Int32.ofNat cp) + (-1 : Int32)), vi (1 : Int32)]) rfl kz))))) ?_
          refine EndsK.start (congrArg (fun z_ => (mkF m 76 #[vi (Jvm.Free.SBG.negI n), vi (Int32.ofNat (q + sl v)), vr t, y3, y4, vi z_, vi (1 : Int32)] [(.ref t)])) (on_pred (by omega) : ((Int32.ofNat cp) + (-1 : Int32)) = (Int32.ofNat (cp - 1)))) ?_
          refine EndsK.go (fun _ kz => XS.iload XJ.here hx rfl (hb hby d53_76) rfl kz) ?_
          obtain ⟨T11, X11, e11, st11⟩ := getS2 XJ hx hZ hown (host := "") (Or.inl (tw hw 319 rfl)) Via.refl eJ (J.SO.ext (ext_kept EB KJ hws)) (g := (mkF m 78 #[vi (Jvm.Free.SBG.negI n), vi (Int32.ofNat (q + sl v)), vr t, y3, y4, vi (Int32.ofNat (cp - 1)), vi (1 : Int32)] [(.int (Int32.ofNat (cp - 1))), (.ref t)])) rfl (hb hby d53_78)
          refine EndsK.go st11 ?_
          refine EndsK.go (fun _ kz => XS.iloadN X11.here hx rfl (hb hby d53_81) rfl (XS.ineg X11.here hx rfl (hb hby d53_82) rfl kz)) ?_
          refine EndsK.start (congrArg (fun z_ => (mkF m 83 #[vi (Jvm.Free.SBG.negI n), vi (Int32.ofNat (q + sl v)), vr t, y3, y4, vi (Int32.ofNat (cp - 1)), vi (1 : Int32)] [(.int z_), (.ref o), (.int (Int32.ofNat (cp - 1))), (.ref t)])) (Jvm.Free.SBG.neg_negI (by omega) : (-(Jvm.Free.SBG.negI n)) = (Int32.ofNat n))) ?_
          refine EndsK.go (fun tz kz => X11.baloadBytes hx (j := (Int32.ofNat n)) (v := .int (Int32.ofNat (48 + n % 10))) (by rw [e11]; exact (Ao.ext (ext_kept EB KJ hws)).1) (State.isArrayOf_alike hZ.alike (Ao.ext (ext_kept EB KJ hws)).2.1) (Ao.ext (ext_kept EB KJ hws)).2.2 (byt_in zo lo (by omega)) (byt_at Ho lo (by omega)) (g := (mkF m 83 #[vi (Jvm.Free.SBG.negI n), vi (Int32.ofNat (q + sl v)), vr t, y3, y4, vi (Int32.ofNat (cp - 1)), vi (1 : Int32)] [(.int (Int32.ofNat n)), (.ref o), (.int (Int32.ofNat (cp - 1))), (.ref t)])) rfl rfl (hb hby d53_83) tz kz) ?_
          obtain ⟨ca12, Aa12, za12, la12, Ha12⟩ := id BJ
          obtain ⟨T12, h12, X12, e12, W12, st12⟩ := stB X11 hx hZ e11 Aa12 (j := (Int32.ofNat (cp - 1))) (byt_in za12 la12 (by omega)) (g := (mkF m 84 #[vi (Jvm.Free.SBG.negI n), vi (Int32.ofNat (q + sl v)), vr t, y3, y4, vi (Int32.ofNat (cp - 1)), vi (1 : Int32)] [(.int (Int32.ofNat (48 + n % 10))), (.int (Int32.ofNat (cp - 1))), (.ref t)])) rfl rfl (hb hby d53_84)
          refine EndsK.go st12 ?_
          have B12 : Byt Z h12 t (N) (fun i => if i = cp - 1 then (Int32.ofNat (48 + n % 10)) else F i) := by have qz_ := BJ.set W12 (fits_nar_byte _); rw [on_clamp (a := cp - 1) (by omega), nar_byte (x := (Int32.ofNat (48 + n % 10))) (k := 48 + n % 10) (on_toInt (by omega)) (by omega)] at qz_; exact qz_
          have N12 := Fr.snoc X12 NJ gt
          have K12 := KJ.wr W12 (Or.inl (List.mem_singleton.mpr rfl))
          have Z12 : n0 ≤ h12.size := Nat.le_trans ZJ (Nat.le_of_eq W12.size.symm)
          refine EndsK.go (fun _ kz => XS.iloadN X12.here hx rfl (hb hby d53_85) rfl (XS.bipush X12.here hx rfl (hb hby d53_86) (XS.icmpNo X12.here hx rfl (hb hby d53_88) rfl (tlt ((neg9 hn).mpr h9)).2.1 (XS.aloadN X12.here hx rfl (hb hby d53_91) rfl rfl (XS.iinc X12.here hx rfl (hb hby d53_92) rfl (l' := #[vi (Jvm.Free.SBG.negI n), vi (Int32.ofNat (q + sl v)), vr t, y3, y4, vi ((Int32.ofNat (cp - 1)) + (-1 : Int32)), vi (1 : Int32)]) rfl kz))))) ?_
          refine EndsK.start (congrArg (fun z_ => (mkF m 95 #[vi (Jvm.Free.SBG.negI n), vi (Int32.ofNat (q + sl v)), vr t, y3, y4, vi z_, vi (1 : Int32)] [(.ref t)])) (on_pred (by omega) : ((Int32.ofNat (cp - 1)) + (-1 : Int32)) = (Int32.ofNat (cp - 1 - 1)))) ?_
          refine EndsK.go (fun _ kz => XS.iload X12.here hx rfl (hb hby d53_95) rfl kz) ?_
          obtain ⟨T13, X13, e13, st13⟩ := getS2 X12 hx hZ hown (host := "") (Or.inl (tw hw 320 rfl)) Via.refl e12 (J.ST.ext (ext_kept EB K12 hws)) (g := (mkF m 97 #[vi (Jvm.Free.SBG.negI n), vi (Int32.ofNat (q + sl v)), vr t, y3, y4, vi (Int32.ofNat (cp - 1 - 1)), vi (1 : Int32)] [(.int (Int32.ofNat (cp - 1 - 1))), (.ref t)])) rfl (hb hby d53_97)
          refine EndsK.go st13 ?_
          refine EndsK.go (fun _ kz => XS.iloadN X13.here hx rfl (hb hby d53_100) rfl (XS.ineg X13.here hx rfl (hb hby d53_101) rfl kz)) ?_
          refine EndsK.start (congrArg (fun z_ => (mkF m 102 #[vi (Jvm.Free.SBG.negI n), vi (Int32.ofNat (q + sl v)), vr t, y3, y4, vi (Int32.ofNat (cp - 1 - 1)), vi (1 : Int32)] [(.int z_), (.ref d), (.int (Int32.ofNat (cp - 1 - 1))), (.ref t)])) (Jvm.Free.SBG.neg_negI (by omega) : (-(Jvm.Free.SBG.negI n)) = (Int32.ofNat n))) ?_
          refine EndsK.go (fun tz kz => X13.baloadBytes hx (j := (Int32.ofNat n)) (v := .int (Int32.ofNat (48 + n / 10))) (by rw [e13]; exact (Ad.ext (ext_kept EB K12 hws)).1) (State.isArrayOf_alike hZ.alike (Ad.ext (ext_kept EB K12 hws)).2.1) (Ad.ext (ext_kept EB K12 hws)).2.2 (byt_in zd ld (by omega)) (byt_at Hd ld (by omega)) (g := (mkF m 102 #[vi (Jvm.Free.SBG.negI n), vi (Int32.ofNat (q + sl v)), vr t, y3, y4, vi (Int32.ofNat (cp - 1 - 1)), vi (1 : Int32)] [(.int (Int32.ofNat n)), (.ref d), (.int (Int32.ofNat (cp - 1 - 1))), (.ref t)])) rfl rfl (hb hby d53_102) tz kz) ?_
          obtain ⟨ca14, Aa14, za14, la14, Ha14⟩ := id B12
          obtain ⟨T14, h14, X14, e14, W14, st14⟩ := stB X13 hx hZ e13 Aa14 (j := (Int32.ofNat (cp - 1 - 1))) (byt_in za14 la14 (by omega)) (g := (mkF m 103 #[vi (Jvm.Free.SBG.negI n), vi (Int32.ofNat (q + sl v)), vr t, y3, y4, vi (Int32.ofNat (cp - 1 - 1)), vi (1 : Int32)] [(.int (Int32.ofNat (48 + n / 10))), (.int (Int32.ofNat (cp - 1 - 1))), (.ref t)])) rfl rfl (hb hby d53_103)
          refine EndsK.go st14 ?_
          have B14 : Byt Z h14 t (N) (fun i => if i = cp - 1 - 1 then (Int32.ofNat (48 + n / 10)) else (fun i => if i = cp - 1 then (Int32.ofNat (48 + n % 10)) else F i) i) := by have qz_ := B12.set W14 (fits_nar_byte _); rw [on_clamp (a := cp - 1 - 1) (by omega), nar_byte (x := (Int32.ofNat (48 + n / 10))) (k := 48 + n / 10) (on_toInt (by omega)) (by omega)] at qz_; exact qz_
          have N14 := Fr.snoc X14 N12 gt
          have K14 := K12.wr W14 (Or.inl (List.mem_singleton.mpr rfl))
          have Z14 : n0 ≤ h14.size := Nat.le_trans Z12 (Nat.le_of_eq W14.size.symm)
          refine EndsK.go (fun _ kz => XS.iload X14.here hx rfl (hb hby d53_104) rfl (XS.ifNo X14.here hx rfl (hb hby d53_106) rfl ((if0 _ _).trans (feq (by decide : ¬ ((1 : Int32) = (0 : Int32)))).1) (XS.aloadN X14.here hx rfl (hb hby d53_109) rfl rfl (XS.iinc X14.here hx rfl (hb hby d53_110) rfl (l' := #[vi (Jvm.Free.SBG.negI n), vi (Int32.ofNat (q + sl v)), vr t, y3, y4, vi ((Int32.ofNat (cp - 1 - 1)) + (-1 : Int32)), vi (1 : Int32)]) rfl kz)))) ?_
          refine EndsK.start (congrArg (fun z_ => (mkF m 113 #[vi (Jvm.Free.SBG.negI n), vi (Int32.ofNat (q + sl v)), vr t, y3, y4, vi z_, vi (1 : Int32)] [(.ref t)])) (on_pred (by omega) : ((Int32.ofNat (cp - 1 - 1)) + (-1 : Int32)) = (Int32.ofNat (cp - 1 - 1 - 1)))) ?_
          refine EndsK.go (fun _ kz => XS.iload X14.here hx rfl (hb hby d53_113) rfl (XS.bipush X14.here hx rfl (hb hby d53_115) kz)) ?_
          refine EndsK.start (congrArg (fun z_ => (mkF m 117 #[vi (Jvm.Free.SBG.negI n), vi (Int32.ofNat (q + sl v)), vr t, y3, y4, vi (Int32.ofNat (cp - 1 - 1 - 1)), vi (1 : Int32)] [(.int (45 : Int32)), (.int z_), (.ref t)])) (congrArg Int32.ofNat (by omega) : (Int32.ofNat (cp - 1 - 1 - 1)) = (Int32.ofNat q))) ?_
          obtain ⟨ca15, Aa15, za15, la15, Ha15⟩ := id B14
          obtain ⟨T15, h15, X15, e15, W15, st15⟩ := stB X14 hx hZ e14 Aa15 (j := (Int32.ofNat q)) (byt_in za15 la15 (by omega)) (g := (mkF m 117 #[vi (Jvm.Free.SBG.negI n), vi (Int32.ofNat (q + sl v)), vr t, y3, y4, vi (Int32.ofNat (cp - 1 - 1 - 1)), vi (1 : Int32)] [(.int (45 : Int32)), (.int (Int32.ofNat q)), (.ref t)])) rfl rfl (hb hby d53_117)
          refine EndsK.go st15 ?_
          have B15 : Byt Z h15 t (N) (fun i => if i = q then (45 : Int32) else (fun i => if i = cp - 1 - 1 then (Int32.ofNat (48 + n / 10)) else (fun i => if i = cp - 1 then (Int32.ofNat (48 + n % 10)) else F i) i) i) := by have qz_ := B14.set W15 (fits_nar_byte _); rw [on_clamp (a := q) (by omega), nar_byte (x := (45 : Int32)) (k := 45) rfl (by decide)] at qz_; exact qz_
          have N15 := Fr.snoc X15 N14 gt
          have K15 := K14.wr W15 (Or.inl (List.mem_singleton.mpr rfl))
          have Z15 : n0 ≤ h15.size := Nat.le_trans Z14 (Nat.le_of_eq W15.size.symm)
          refine EndsK.go (fun _ kz => XS.iload X15.here hx rfl (hb hby d53_118) rfl kz) ?_
          show EndsK p e below _ (T15.setTop (mkF m 120 #[vi (Jvm.Free.SBG.negI n), vi (Int32.ofNat (q + sl v)), vr t, y3, y4, vi (Int32.ofNat (cp - 1 - 1 - 1)), vi (1 : Int32)] [(.int (Int32.ofNat (cp - 1 - 1 - 1)))]))
          exact endI X15 hx Bd.returns (hb hby d53_120) hlk ⟨(fun i => if i = q then (45 : Int32) else (fun i => if i = cp - 1 - 1 then (Int32.ofNat (48 + n / 10)) else (fun i => if i = cp - 1 then (Int32.ofNat (48 + n % 10)) else F i) i) i), (congrArg (fun z => some (Value.int (Int32.ofNat z))) (by omega : (cp - 1 - 1 - 1) = q)), N15, by rw [e15]; exact K15, by rw [e15]; exact B15, num_neg hv (show Dw (mg v) (fun i => if i = cp - 1 - 1 then (Int32.ofNat (48 + n / 10)) else if i = cp - 1 then (Int32.ofNat (48 + n % 10)) else F i) (q + sl v) (dg v) from (by rw [show dg v = k + 2 from by omega]; exact (hD.two (r := n) hnM ⟨by omega, by omega, by omega⟩ (by omega) (by omega)))), fun j hj => (show (if j = q then (45 : Int32) else (fun i => if i = cp - 1 - 1 then (Int32.ofNat (48 + n / 10)) else if i = cp - 1 then (Int32.ofNat (48 + n % 10)) else F i) j) = f j from (if_neg (by omega)).trans ((hK.two (Int32.ofNat (48 + n / 10)) (Int32.ofNat (48 + n % 10)) (by omega)) j (by omega)))⟩ (by decide) (by decide)
        · have hdd2 := dig1 h9
          refine EndsK.go (fun _ kz => XS.iloadN XJ.here hx rfl (hb hby d53_22) rfl (XS.bipush XJ.here hx rfl (hb hby d53_23) (XS.icmpYes XJ.here hx rfl (pc0 := 25) (pc' := 72) rfl (hb hby d53_25) rfl (tlt ((neg100 hn).mpr h100)).2.2.1 (by decide) (by decide) (XS.aloadN XJ.here hx rfl (hb hby d53_72) rfl rfl (XS.iinc XJ.here hx rfl (hb hby d53_73) rfl (l' := #[vi (Jvm.Free.SBG.negI n), vi (Int32.ofNat (q + sl v)), vr t, y3, y4, vi ((Int32.ofNat cp) + (-1 : Int32)), vi (1 : Int32)]) rfl kz))))) ?_
          refine EndsK.start (congrArg (fun z_ => (mkF m 76 #[vi (Jvm.Free.SBG.negI n), vi (Int32.ofNat (q + sl v)), vr t, y3, y4, vi z_, vi (1 : Int32)] [(.ref t)])) (on_pred (by omega) : ((Int32.ofNat cp) + (-1 : Int32)) = (Int32.ofNat (cp - 1)))) ?_
          refine EndsK.go (fun _ kz => XS.iload XJ.here hx rfl (hb hby d53_76) rfl kz) ?_
          obtain ⟨T11, X11, e11, st11⟩ := getS2 XJ hx hZ hown (host := "") (Or.inl (tw hw 319 rfl)) Via.refl eJ (J.SO.ext (ext_kept EB KJ hws)) (g := (mkF m 78 #[vi (Jvm.Free.SBG.negI n), vi (Int32.ofNat (q + sl v)), vr t, y3, y4, vi (Int32.ofNat (cp - 1)), vi (1 : Int32)] [(.int (Int32.ofNat (cp - 1))), (.ref t)])) rfl (hb hby d53_78)
          refine EndsK.go st11 ?_
          refine EndsK.go (fun _ kz => XS.iloadN X11.here hx rfl (hb hby d53_81) rfl (XS.ineg X11.here hx rfl (hb hby d53_82) rfl kz)) ?_
          refine EndsK.start (congrArg (fun z_ => (mkF m 83 #[vi (Jvm.Free.SBG.negI n), vi (Int32.ofNat (q + sl v)), vr t, y3, y4, vi (Int32.ofNat (cp - 1)), vi (1 : Int32)] [(.int z_), (.ref o), (.int (Int32.ofNat (cp - 1))), (.ref t)])) (Jvm.Free.SBG.neg_negI (by omega) : (-(Jvm.Free.SBG.negI n)) = (Int32.ofNat n))) ?_
          refine EndsK.go (fun tz kz => X11.baloadBytes hx (j := (Int32.ofNat n)) (v := .int (Int32.ofNat (48 + n % 10))) (by rw [e11]; exact (Ao.ext (ext_kept EB KJ hws)).1) (State.isArrayOf_alike hZ.alike (Ao.ext (ext_kept EB KJ hws)).2.1) (Ao.ext (ext_kept EB KJ hws)).2.2 (byt_in zo lo (by omega)) (byt_at Ho lo (by omega)) (g := (mkF m 83 #[vi (Jvm.Free.SBG.negI n), vi (Int32.ofNat (q + sl v)), vr t, y3, y4, vi (Int32.ofNat (cp - 1)), vi (1 : Int32)] [(.int (Int32.ofNat n)), (.ref o), (.int (Int32.ofNat (cp - 1))), (.ref t)])) rfl rfl (hb hby d53_83) tz kz) ?_
          obtain ⟨ca12, Aa12, za12, la12, Ha12⟩ := id BJ
          obtain ⟨T12, h12, X12, e12, W12, st12⟩ := stB X11 hx hZ e11 Aa12 (j := (Int32.ofNat (cp - 1))) (byt_in za12 la12 (by omega)) (g := (mkF m 84 #[vi (Jvm.Free.SBG.negI n), vi (Int32.ofNat (q + sl v)), vr t, y3, y4, vi (Int32.ofNat (cp - 1)), vi (1 : Int32)] [(.int (Int32.ofNat (48 + n % 10))), (.int (Int32.ofNat (cp - 1))), (.ref t)])) rfl rfl (hb hby d53_84)
          refine EndsK.go st12 ?_
          have B12 : Byt Z h12 t (N) (fun i => if i = cp - 1 then (Int32.ofNat (48 + n % 10)) else F i) := by have qz_ := BJ.set W12 (fits_nar_byte _); rw [on_clamp (a := cp - 1) (by omega), nar_byte (x := (Int32.ofNat (48 + n % 10))) (k := 48 + n % 10) (on_toInt (by omega)) (by omega)] at qz_; exact qz_
          have N12 := Fr.snoc X12 NJ gt
          have K12 := KJ.wr W12 (Or.inl (List.mem_singleton.mpr rfl))
          have Z12 : n0 ≤ h12.size := Nat.le_trans ZJ (Nat.le_of_eq W12.size.symm)
          refine EndsK.go (fun _ kz => XS.iloadN X12.here hx rfl (hb hby d53_85) rfl (XS.bipush X12.here hx rfl (hb hby d53_86) (XS.icmpYes X12.here hx rfl (pc0 := 88) (pc' := 104) rfl (hb hby d53_88) rfl (flt (fun z => h9 ((neg9 hn).mp z))).2.1 (by decide) (by decide) (XS.iload X12.here hx rfl (hb hby d53_104) rfl (XS.ifNo X12.here hx rfl (hb hby d53_106) rfl ((if0 _ _).trans (feq (by decide : ¬ ((1 : Int32) = (0 : Int32)))).1) (XS.aloadN X12.here hx rfl (hb hby d53_109) rfl rfl (XS.iinc X12.here hx rfl (hb hby d53_110) rfl (l' := #[vi (Jvm.Free.SBG.negI n), vi (Int32.ofNat (q + sl v)), vr t, y3, y4, vi ((Int32.ofNat (cp - 1)) + (-1 : Int32)), vi (1 : Int32)]) rfl kz))))))) ?_
          show EndsK p e below _ (T12.setTop (mkF m 113 #[vi (Jvm.Free.SBG.negI n), vi (Int32.ofNat (q + sl v)), vr t, y3, y4, vi ((Int32.ofNat (cp - 1)) + (-1 : Int32)), vi (1 : Int32)] [(.ref t)]))
          refine EndsK.start (congrArg (fun z_ => (mkF m 113 #[vi (Jvm.Free.SBG.negI n), vi (Int32.ofNat (q + sl v)), vr t, y3, y4, vi z_, vi (1 : Int32)] [(.ref t)])) (on_pred (by omega) : ((Int32.ofNat (cp - 1)) + (-1 : Int32)) = (Int32.ofNat (cp - 1 - 1)))) ?_
          refine EndsK.go (fun _ kz => XS.iload X12.here hx rfl (hb hby d53_113) rfl (XS.bipush X12.here hx rfl (hb hby d53_115) kz)) ?_
          refine EndsK.start (congrArg (fun z_ => (mkF m 117 #[vi (Jvm.Free.SBG.negI n), vi (Int32.ofNat (q + sl v)), vr t, y3, y4, vi (Int32.ofNat (cp - 1 - 1)), vi (1 : Int32)] [(.int (45 : Int32)), (.int z_), (.ref t)])) (congrArg Int32.ofNat (by omega) : (Int32.ofNat (cp - 1 - 1)) = (Int32.ofNat q))) ?_
          obtain ⟨ca13, Aa13, za13, la13, Ha13⟩ := id B12
          obtain ⟨T13, h13, X13, e13, W13, st13⟩ := stB X12 hx hZ e12 Aa13 (j := (Int32.ofNat q)) (byt_in za13 la13 (by omega)) (g := (mkF m 117 #[vi (Jvm.Free.SBG.negI n), vi (Int32.ofNat (q + sl v)), vr t, y3, y4, vi (Int32.ofNat (cp - 1 - 1)), vi (1 : Int32)] [(.int (45 : Int32)), (.int (Int32.ofNat q)), (.ref t)])) rfl rfl (hb hby d53_117)
          refine EndsK.go st13 ?_
          have B13 : Byt Z h13 t (N) (fun i => if i = q then (45 : Int32) else (fun i => if i = cp - 1 then (Int32.ofNat (48 + n % 10)) else F i) i) := by have qz_ := B12.set W13 (fits_nar_byte _); rw [on_clamp (a := q) (by omega), nar_byte (x := (45 : Int32)) (k := 45) rfl (by decide)] at qz_; exact qz_
          have N13 := Fr.snoc X13 N12 gt
          have K13 := K12.wr W13 (Or.inl (List.mem_singleton.mpr rfl))
          have Z13 : n0 ≤ h13.size := Nat.le_trans Z12 (Nat.le_of_eq W13.size.symm)
          refine EndsK.go (fun _ kz => XS.iload X13.here hx rfl (hb hby d53_118) rfl kz) ?_
          show EndsK p e below _ (T13.setTop (mkF m 120 #[vi (Jvm.Free.SBG.negI n), vi (Int32.ofNat (q + sl v)), vr t, y3, y4, vi (Int32.ofNat (cp - 1 - 1)), vi (1 : Int32)] [(.int (Int32.ofNat (cp - 1 - 1)))]))
          exact endI X13 hx Bd.returns (hb hby d53_120) hlk ⟨(fun i => if i = q then (45 : Int32) else (fun i => if i = cp - 1 then (Int32.ofNat (48 + n % 10)) else F i) i), (congrArg (fun z => some (Value.int (Int32.ofNat z))) (by omega : (cp - 1 - 1) = q)), N13, by rw [e13]; exact K13, by rw [e13]; exact B13, num_neg hv (show Dw (mg v) (fun i => if i = cp - 1 then (Int32.ofNat (48 + n % 10)) else F i) (q + sl v) (dg v) from (by rw [show dg v = k + 1 from by omega]; exact (hD.one hnM (by omega) (by omega)))), fun j hj => (show (if j = q then (45 : Int32) else (fun i => if i = cp - 1 then (Int32.ofNat (48 + n % 10)) else F i) j) = f j from (if_neg (by omega)).trans ((hK.one (Int32.ofNat (48 + n % 10)) (by omega)) j (by omega)))⟩ (by decide) (by decide)
      · have hdd2 := dig100 (Nat.le_of_not_lt h100) hn
        have hdp := Jvm.Free.SBG.digits_pos (n / 100)
        refine EndsK.go (fun _ kz => XS.iloadN XJ.here hx rfl (hb hby d53_22) rfl (XS.bipush XJ.here hx rfl (hb hby d53_23) (XS.icmpNo XJ.here hx rfl (hb hby d53_25) rfl (flt (fun z => h100 ((neg100 hn).mp z))).2.2.1 (XS.iloadN XJ.here hx rfl (hb hby d53_28) rfl (XS.bipush XJ.here hx rfl (hb hby d53_29) (XS.idiv XJ.here hx rfl (hb hby d53_31) rfl (by decide) kz)))))) ?_
        refine EndsK.start (congrArg (fun z_ => (mkF m 32 #[vi (Jvm.Free.SBG.negI n), vi (Int32.ofNat (q + sl v)), vr t, y3, y4, vi (Int32.ofNat cp), vi (1 : Int32)] [(.int z_)])) (Jvm.Free.SBG.negI_div100 hn : ((Jvm.Free.SBG.negI n) / (100 : Int32)) = (Jvm.Free.SBG.negI (n / 100)))) ?_
        refine EndsK.go (fun _ kz => XS.istoreNS XJ.here hx rfl (hb hby d53_32) rfl rfl hy3 (XS.iloadN XJ.here hx rfl (hb hby d53_33) rfl (XS.bipush XJ.here hx rfl (hb hby d53_34) (XS.imul XJ.here hx rfl (hb hby d53_36) rfl (XS.iloadN XJ.here hx rfl (hb hby d53_37) rfl (XS.isub XJ.here hx rfl (hb hby d53_38) rfl kz)))))) ?_
        refine EndsK.start (congrArg (fun z_ => (mkF m 39 #[vi (Jvm.Free.SBG.negI n), vi (Int32.ofNat (q + sl v)), vr t, vi (Jvm.Free.SBG.negI (n / 100)), y4, vi (Int32.ofNat cp), vi (1 : Int32)] [(.int z_)])) (Jvm.Free.SBG.negI_rem hn : (((Jvm.Free.SBG.negI (n / 100)) * (100 : Int32)) - (Jvm.Free.SBG.negI n)) = (Int32.ofNat (n % 100)))) ?_
        refine EndsK.go (fun _ kz => XS.istoreS XJ.here hx rfl (hb hby d53_39) rfl rfl hy4 (XS.iloadN XJ.here hx rfl (hb hby d53_41) rfl (XS.istoreN XJ.here hx rfl (hb hby d53_42) rfl (l' := #[vi (Jvm.Free.SBG.negI (n / 100)), vi (Int32.ofNat (q + sl v)), vr t, vi (Jvm.Free.SBG.negI (n / 100)), vi (Int32.ofNat (n % 100)), vi (Int32.ofNat cp), vi (1 : Int32)]) rfl (XS.aloadN XJ.here hx rfl (hb hby d53_43) rfl rfl (XS.iinc XJ.here hx rfl (hb hby d53_44) rfl (l' := #[vi (Jvm.Free.SBG.negI (n / 100)), vi (Int32.ofNat (q + sl v)), vr t, vi (Jvm.Free.SBG.negI (n / 100)), vi (Int32.ofNat (n % 100)), vi ((Int32.ofNat cp) + (-1 : Int32)), vi (1 : Int32)]) rfl kz))))) ?_
        refine EndsK.start (congrArg (fun z_ => (mkF m 47 #[vi (Jvm.Free.SBG.negI (n / 100)), vi (Int32.ofNat (q + sl v)), vr t, vi (Jvm.Free.SBG.negI (n / 100)), vi (Int32.ofNat (n % 100)), vi z_, vi (1 : Int32)] [(.ref t)])) (on_pred (by omega) : ((Int32.ofNat cp) + (-1 : Int32)) = (Int32.ofNat (cp - 1)))) ?_
        refine EndsK.go (fun _ kz => XS.iload XJ.here hx rfl (hb hby d53_47) rfl kz) ?_
        obtain ⟨T11, X11, e11, st11⟩ := getS2 XJ hx hZ hown (host := "") (Or.inl (tw hw 319 rfl)) Via.refl eJ (J.SO.ext (ext_kept EB KJ hws)) (g := (mkF m 49 #[vi (Jvm.Free.SBG.negI (n / 100)), vi (Int32.ofNat (q + sl v)), vr t, vi (Jvm.Free.SBG.negI (n / 100)), vi (Int32.ofNat (n % 100)), vi (Int32.ofNat (cp - 1)), vi (1 : Int32)] [(.int (Int32.ofNat (cp - 1))), (.ref t)])) rfl (hb hby d53_49)
        refine EndsK.go st11 ?_
        refine EndsK.go (fun _ kz => XS.iload X11.here hx rfl (hb hby d53_52) rfl kz) ?_
        refine EndsK.go (fun tz kz => X11.baloadBytes hx (j := (Int32.ofNat (n % 100))) (v := .int (Int32.ofNat (48 + n % 100 % 10))) (by rw [e11]; exact (Ao.ext (ext_kept EB KJ hws)).1) (State.isArrayOf_alike hZ.alike (Ao.ext (ext_kept EB KJ hws)).2.1) (Ao.ext (ext_kept EB KJ hws)).2.2 (byt_in zo lo (by omega)) (byt_at Ho lo (by omega)) (g := (mkF m 54 #[vi (Jvm.Free.SBG.negI (n / 100)), vi (Int32.ofNat (q + sl v)), vr t, vi (Jvm.Free.SBG.negI (n / 100)), vi (Int32.ofNat (n % 100)), vi (Int32.ofNat (cp - 1)), vi (1 : Int32)] [(.int (Int32.ofNat (n % 100))), (.ref o), (.int (Int32.ofNat (cp - 1))), (.ref t)])) rfl rfl (hb hby d53_54) tz kz) ?_
        obtain ⟨ca12, Aa12, za12, la12, Ha12⟩ := id BJ
        obtain ⟨T12, h12, X12, e12, W12, st12⟩ := stB X11 hx hZ e11 Aa12 (j := (Int32.ofNat (cp - 1))) (byt_in za12 la12 (by omega)) (g := (mkF m 55 #[vi (Jvm.Free.SBG.negI (n / 100)), vi (Int32.ofNat (q + sl v)), vr t, vi (Jvm.Free.SBG.negI (n / 100)), vi (Int32.ofNat (n % 100)), vi (Int32.ofNat (cp - 1)), vi (1 : Int32)] [(.int (Int32.ofNat (48 + n % 100 % 10))), (.int (Int32.ofNat (cp - 1))), (.ref t)])) rfl rfl (hb hby d53_55)
        refine EndsK.go st12 ?_
        have B12 : Byt Z h12 t (N) (fun i => if i = cp - 1 then (Int32.ofNat (48 + n % 100 % 10)) else F i) := by have qz_ := BJ.set W12 (fits_nar_byte _); rw [on_clamp (a := cp - 1) (by omega), nar_byte (x := (Int32.ofNat (48 + n % 100 % 10))) (k := 48 + n % 100 % 10) (on_toInt (by omega)) (by omega)] at qz_; exact qz_
        have N12 := Fr.snoc X12 NJ gt
        have K12 := KJ.wr W12 (Or.inl (List.mem_singleton.mpr rfl))
        have Z12 : n0 ≤ h12.size := Nat.le_trans ZJ (Nat.le_of_eq W12.size.symm)
        refine EndsK.go (fun _ kz => XS.aloadN X12.here hx rfl (hb hby d53_56) rfl rfl (XS.iinc X12.here hx rfl (hb hby d53_57) rfl (l' := #[vi (Jvm.Free.SBG.negI (n / 100)), vi (Int32.ofNat (q + sl v)), vr t, vi (Jvm.Free.SBG.negI (n / 100)), vi (Int32.ofNat (n % 100)), vi ((Int32.ofNat (cp - 1)) + (-1 : Int32)), vi (1 : Int32)]) rfl kz)) ?_
        refine EndsK.start (congrArg (fun z_ => (mkF m 60 #[vi (Jvm.Free.SBG.negI (n / 100)), vi (Int32.ofNat (q + sl v)), vr t, vi (Jvm.Free.SBG.negI (n / 100)), vi (Int32.ofNat (n % 100)), vi z_, vi (1 : Int32)] [(.ref t)])) (on_pred (by omega) : ((Int32.ofNat (cp - 1)) + (-1 : Int32)) = (Int32.ofNat (cp - 1 - 1)))) ?_
        refine EndsK.go (fun _ kz => XS.iload X12.here hx rfl (hb hby d53_60) rfl kz) ?_
        obtain ⟨T13, X13, e13, st13⟩ := getS2 X12 hx hZ hown (host := "") (Or.inl (tw hw 320 rfl)) Via.refl e12 (J.ST.ext (ext_kept EB K12 hws)) (g := (mkF m 62 #[vi (Jvm.Free.SBG.negI (n / 100)), vi (Int32.ofNat (q + sl v)), vr t, vi (Jvm.Free.SBG.negI (n / 100)), vi (Int32.ofNat (n % 100)), vi (Int32.ofNat (cp - 1 - 1)), vi (1 : Int32)] [(.int (Int32.ofNat (cp - 1 - 1))), (.ref t)])) rfl (hb hby d53_62)
        refine EndsK.go st13 ?_
        refine EndsK.go (fun _ kz => XS.iload X13.here hx rfl (hb hby d53_65) rfl kz) ?_
        refine EndsK.go (fun tz kz => X13.baloadBytes hx (j := (Int32.ofNat (n % 100))) (v := .int (Int32.ofNat (48 + n % 100 / 10))) (by rw [e13]; exact (Ad.ext (ext_kept EB K12 hws)).1) (State.isArrayOf_alike hZ.alike (Ad.ext (ext_kept EB K12 hws)).2.1) (Ad.ext (ext_kept EB K12 hws)).2.2 (byt_in zd ld (by omega)) (byt_at Hd ld (by omega)) (g := (mkF m 67 #[vi (Jvm.Free.SBG.negI (n / 100)), vi (Int32.ofNat (q + sl v)), vr t, vi (Jvm.Free.SBG.negI (n / 100)), vi (Int32.ofNat (n % 100)), vi (Int32.ofNat (cp - 1 - 1)), vi (1 : Int32)] [(.int (Int32.ofNat (n % 100))), (.ref d), (.int (Int32.ofNat (cp - 1 - 1))), (.ref t)])) rfl rfl (hb hby d53_67) tz kz) ?_
        obtain ⟨ca14, Aa14, za14, la14, Ha14⟩ := id B12
        obtain ⟨T14, h14, X14, e14, W14, st14⟩ := stB X13 hx hZ e13 Aa14 (j := (Int32.ofNat (cp - 1 - 1))) (byt_in za14 la14 (by omega)) (g := (mkF m 68 #[vi (Jvm.Free.SBG.negI (n / 100)), vi (Int32.ofNat (q + sl v)), vr t, vi (Jvm.Free.SBG.negI (n / 100)), vi (Int32.ofNat (n % 100)), vi (Int32.ofNat (cp - 1 - 1)), vi (1 : Int32)] [(.int (Int32.ofNat (48 + n % 100 / 10))), (.int (Int32.ofNat (cp - 1 - 1))), (.ref t)])) rfl rfl (hb hby d53_68)
        refine EndsK.go st14 ?_
        have B14 : Byt Z h14 t (N) (fun i => if i = cp - 1 - 1 then (Int32.ofNat (48 + n % 100 / 10)) else (fun i => if i = cp - 1 then (Int32.ofNat (48 + n % 100 % 10)) else F i) i) := by have qz_ := B12.set W14 (fits_nar_byte _); rw [on_clamp (a := cp - 1 - 1) (by omega), nar_byte (x := (Int32.ofNat (48 + n % 100 / 10))) (k := 48 + n % 100 / 10) (on_toInt (by omega)) (by omega)] at qz_; exact qz_
        have N14 := Fr.snoc X14 N12 gt
        have K14 := K12.wr W14 (Or.inl (List.mem_singleton.mpr rfl))
        have Z14 : n0 ≤ h14.size := Nat.le_trans Z12 (Nat.le_of_eq W14.size.symm)
        refine EndsK.go (fun _ kz => XS.goto X14.here hx rfl (pc0 := 69) (pc' := 22) rfl (hb hby d53_69) (by decide) (by decide) kz) ?_
        refine ih (n / 100) (by omega) (k + 2) (cp - 1 - 1) _ T14 h14 _ _ _ (Or.inr ⟨_, rfl, rfl⟩) (Or.inr ⟨_, rfl, rfl⟩) (by omega) (by omega) (by omega) (by omega) (d100 hnM) (hD.two (r := n % 100) hnM ⟨by omega, by omega, by omega⟩ (by omega) (by omega)) (hK.two _ _ (by omega)) X14 e14 K14 B14 N14
  have Jp : ¬ v < 0 → ∀ (n k cp : Nat) (F : Nat → Int32) (T : State) (h : Heap) (Lc : List Loc) (y3 y4 : Slot), (y3 = Slot.unset ∨ ∃ w_, y3 = Slot.val w_ ∧ w_.category = 1) → (y4 = Slot.unset ∨ ∃ w_, y4 = Slot.val w_ ∧ w_.category = 1) → n ≤ 2 ^ 31 → Jvm.Free.SBG.digits (mg v) = k + Jvm.Free.SBG.digits n → cp + k = q + sl v → k + Jvm.Free.SBG.digits n + sg v ≤ q + sl v → n = mg v / 10 ^ k → Dw (mg v) F (q + sl v) k → Kp f F cp → Stand p l e ({ frames := 0, cells := 0, slots := 0, locals := 0 } : Room) s m #[.int v, .int (Int32.ofNat (q + sl v)), .ref t] below meth c T Lc 0 0 → T.heap = h → Keep h0 h [t] → Byt Z h t N F → Fr n0 Lc → EndsK p e below (OQ s (Q_gc Z hB zc o d u v t N f q h0 n0) (({ frames := 0, cells := 0, slots := 0, locals := 0 } : Room)).cells (({ frames := 0, cells := 0, slots := 0, locals := 0 } : Room)).slots) (T.setTop (mkF m 22 #[vi (Jvm.Free.SBG.negI n), vi (Int32.ofNat (q + sl v)), vr t, y3, y4, vi (Int32.ofNat cp), vi (0 : Int32)] [])) := by
    intro hv n
    have hs1 : sg v = 0 := by unfold sg; rw [if_neg hv]
    induction n using Nat.strongRecOn with
    | ind n ih =>
      intro k cp F T h Lc y3 y4 hy3 hy4 hn hdn hck hroom hnM hD hK XJ eJ KJ BJ NJ
      have ZJ : n0 ≤ h.size := Nat.le_trans Z0 KJ.1
      by_cases h100 : n < 100
      · by_cases h9 : 9 < n
        · have hdd2 := dig2 h9 h100
          refine EndsK.go (fun _ kz => XS.iloadN XJ.here hx rfl (hb hby d53_22) rfl (XS.bipush XJ.here hx rfl (hb hby d53_23) (XS.icmpYes XJ.here hx rfl (pc0 := 25) (pc' := 72) rfl (hb hby d53_25) rfl (tlt ((neg100 hn).mpr h100)).2.2.1 (by decide) (by decide) (XS.aloadN XJ.here hx rfl (hb hby d53_72) rfl rfl (XS.iinc XJ.here hx rfl (hb hby d53_73) rfl (l' := #[vi (Jvm.Free.SBG.negI n), vi (Int32.ofNat (q + sl v)), vr t, y3, y4, vi ((Int32.ofNat cp) + (-1 : Int32)), vi (0 : Int32)]) rfl kz))))) ?_
          refine EndsK.start (congrArg (fun z_ => (mkF m 76 #[vi (Jvm.Free.SBG.negI n), vi (Int32.ofNat (q + sl v)), vr t, y3, y4, vi z_, vi (0 : Int32)] [(.ref t)])) (on_pred (by omega) : ((Int32.ofNat cp) + (-1 : Int32)) = (Int32.ofNat (cp - 1)))) ?_
          refine EndsK.go (fun _ kz => XS.iload XJ.here hx rfl (hb hby d53_76) rfl kz) ?_
          obtain ⟨T11, X11, e11, st11⟩ := getS2 XJ hx hZ hown (host := "") (Or.inl (tw hw 319 rfl)) Via.refl eJ (J.SO.ext (ext_kept EB KJ hws)) (g := (mkF m 78 #[vi (Jvm.Free.SBG.negI n), vi (Int32.ofNat (q + sl v)), vr t, y3, y4, vi (Int32.ofNat (cp - 1)), vi (0 : Int32)] [(.int (Int32.ofNat (cp - 1))), (.ref t)])) rfl (hb hby d53_78)
          refine EndsK.go st11 ?_
          refine EndsK.go (fun _ kz => XS.iloadN X11.here hx rfl (hb hby d53_81) rfl (XS.ineg X11.here hx rfl (hb hby d53_82) rfl kz)) ?_
          refine EndsK.start (congrArg (fun z_ => (mkF m 83 #[vi (Jvm.Free.SBG.negI n), vi (Int32.ofNat (q + sl v)), vr t, y3, y4, vi (Int32.ofNat (cp - 1)), vi (0 : Int32)] [(.int z_), (.ref o), (.int (Int32.ofNat (cp - 1))), (.ref t)])) (Jvm.Free.SBG.neg_negI (by omega) : (-(Jvm.Free.SBG.negI n)) = (Int32.ofNat n))) ?_
          refine EndsK.go (fun tz kz => X11.baloadBytes hx (j := (Int32.ofNat n)) (v := .int (Int32.ofNat (48 + n % 10))) (by rw [e11]; exact (Ao.ext (ext_kept EB KJ hws)).1) (State.isArrayOf_alike hZ.alike (Ao.ext (ext_kept EB KJ hws)).2.1) (Ao.ext (ext_kept EB KJ hws)).2.2 (byt_in zo lo (by omega)) (byt_at Ho lo (by omega)) (g := (mkF m 83 #[vi (Jvm.Free.SBG.negI n), vi (Int32.ofNat (q + sl v)), vr t, y3, y4, vi (Int32.ofNat (cp - 1)), vi (0 : Int32)] [(.int (Int32.ofNat n)), (.ref o), (.int (Int32.ofNat (cp - 1))), (.ref t)])) rfl rfl (hb hby d53_83) tz kz) ?_
          obtain ⟨ca12, Aa12, za12, la12, Ha12⟩ := id BJ
          obtain ⟨T12, h12, X12, e12, W12, st12⟩ := stB X11 hx hZ e11 Aa12 (j := (Int32.ofNat (cp - 1))) (byt_in za12 la12 (by omega)) (g := (mkF m 84 #[vi (Jvm.Free.SBG.negI n), vi (Int32.ofNat (q + sl v)), vr t, y3, y4, vi (Int32.ofNat (cp - 1)), vi (0 : Int32)] [(.int (Int32.ofNat (48 + n % 10))), (.int (Int32.ofNat (cp - 1))), (.ref t)])) rfl rfl (hb hby d53_84)
          refine EndsK.go st12 ?_
          have B12 : Byt Z h12 t (N) (fun i => if i = cp - 1 then (Int32.ofNat (48 + n % 10)) else F i) := by have qz_ := BJ.set W12 (fits_nar_byte _); rw [on_clamp (a := cp - 1) (by omega), nar_byte (x := (Int32.ofNat (48 + n % 10))) (k := 48 + n % 10) (on_toInt (by omega)) (by omega)] at qz_; exact qz_
          have N12 := Fr.snoc X12 NJ gt
          have K12 := KJ.wr W12 (Or.inl (List.mem_singleton.mpr rfl))
          have Z12 : n0 ≤ h12.size := Nat.le_trans ZJ (Nat.le_of_eq W12.size.symm)
          refine EndsK.go (fun _ kz => XS.iloadN X12.here hx rfl (hb hby d53_85) rfl (XS.bipush X12.here hx rfl (hb hby d53_86) (XS.icmpNo X12.here hx rfl (hb hby d53_88) rfl (tlt ((neg9 hn).mpr h9)).2.1 (XS.aloadN X12.here hx rfl (hb hby d53_91) rfl rfl (XS.iinc X12.here hx rfl (hb hby d53_92) rfl (l' := #[vi (Jvm.Free.SBG.negI n), vi (Int32.ofNat (q + sl v)), vr t, y3, y4, vi ((Int32.ofNat (cp - 1)) + (-1 : Int32)), vi (0 : Int32)]) rfl kz))))) ?_
          refine EndsK.start (congrArg (fun z_ => (mkF m 95 #[vi (Jvm.Free.SBG.negI n), vi (Int32.ofNat (q + sl v)), vr t, y3, y4, vi z_, vi (0 : Int32)] [(.ref t)])) (on_pred (by omega) : ((Int32.ofNat (cp - 1)) + (-1 : Int32)) = (Int32.ofNat (cp - 1 - 1)))) ?_
          refine EndsK.go (fun _ kz => XS.iload X12.here hx rfl (hb hby d53_95) rfl kz) ?_
          obtain ⟨T13, X13, e13, st13⟩ := getS2 X12 hx hZ hown (host := "") (Or.inl (tw hw 320 rfl)) Via.refl e12 (J.ST.ext (ext_kept EB K12 hws)) (g := (mkF m 97 #[vi (Jvm.Free.SBG.negI n), vi (Int32.ofNat (q + sl v)), vr t, y3, y4, vi (Int32.ofNat (cp - 1 - 1)), vi (0 : Int32)] [(.int (Int32.ofNat (cp - 1 - 1))), (.ref t)])) rfl (hb hby d53_97)
          refine EndsK.go st13 ?_
          refine EndsK.go (fun _ kz => XS.iloadN X13.here hx rfl (hb hby d53_100) rfl (XS.ineg X13.here hx rfl (hb hby d53_101) rfl kz)) ?_
          refine EndsK.start (congrArg (fun z_ => (mkF m 102 #[vi (Jvm.Free.SBG.negI n), vi (Int32.ofNat (q + sl v)), vr t, y3, y4, vi (Int32.ofNat (cp - 1 - 1)), vi (0 : Int32)] [(.int z_), (.ref d), (.int (Int32.ofNat (cp - 1 - 1))), (.ref t)])) (Jvm.Free.SBG.neg_negI (by omega) : (-(Jvm.Free.SBG.negI n)) = (Int32.ofNat n))) ?_
          refine EndsK.go (fun tz kz => X13.baloadBytes hx (j := (Int32.ofNat n)) (v := .int (Int32.ofNat (48 + n / 10))) (by rw [e13]; exact (Ad.ext (ext_kept EB K12 hws)).1) (State.isArrayOf_alike hZ.alike (Ad.ext (ext_kept EB K12 hws)).2.1) (Ad.ext (ext_kept EB K12 hws)).2.2 (byt_in zd ld (by omega)) (byt_at Hd ld (by omega)) (g := (mkF m 102 #[vi (Jvm.Free.SBG.negI n), vi (Int32.ofNat (q + sl v)), vr t, y3, y4, vi (Int32.ofNat (cp - 1 - 1)), vi (0 : Int32)] [(.int (Int32.ofNat n)), (.ref d), (.int (Int32.ofNat (cp - 1 - 1))), (.ref t)])) rfl rfl (hb hby d53_102) tz kz) ?_
          obtain ⟨ca14, Aa14, za14, la14, Ha14⟩ := id B12
          obtain ⟨T14, h14, X14, e14, W14, st14⟩ := stB X13 hx hZ e13 Aa14 (j := (Int32.ofNat (cp - 1 - 1))) (byt_in za14 la14 (by omega)) (g := (mkF m 103 #[vi (Jvm.Free.SBG.negI n), vi (Int32.ofNat (q + sl v)), vr t, y3, y4, vi (Int32.ofNat (cp - 1 - 1)), vi (0 : Int32)] [(.int (Int32.ofNat (48 + n / 10))), (.int (Int32.ofNat (cp - 1 - 1))), (.ref t)])) rfl rfl (hb hby d53_103)
          refine EndsK.go st14 ?_
          have B14 : Byt Z h14 t (N) (fun i => if i = cp - 1 - 1 then (Int32.ofNat (48 + n / 10)) else (fun i => if i = cp - 1 then (Int32.ofNat (48 + n % 10)) else F i) i) := by have qz_ := B12.set W14 (fits_nar_byte _); rw [on_clamp (a := cp - 1 - 1) (by omega), nar_byte (x := (Int32.ofNat (48 + n / 10))) (k := 48 + n / 10) (on_toInt (by omega)) (by omega)] at qz_; exact qz_
          have N14 := Fr.snoc X14 N12 gt
          have K14 := K12.wr W14 (Or.inl (List.mem_singleton.mpr rfl))
          have Z14 : n0 ≤ h14.size := Nat.le_trans Z12 (Nat.le_of_eq W14.size.symm)
          refine EndsK.go (fun _ kz => XS.iload X14.here hx rfl (hb hby d53_104) rfl (XS.ifYes X14.here hx rfl (pc0 := 106) (pc' := 118) rfl (hb hby d53_106) rfl ((if0 _ _).trans (teq (rfl : (0 : Int32) = (0 : Int32))).1) (by decide) (by decide) (XS.iload X14.here hx rfl (hb hby d53_118) rfl kz))) ?_
          show EndsK p e below _ (T14.setTop (mkF m 120 #[vi (Jvm.Free.SBG.negI n), vi (Int32.ofNat (q + sl v)), vr t, y3, y4, vi (Int32.ofNat (cp - 1 - 1)), vi (0 : Int32)] [(.int (Int32.ofNat (cp - 1 - 1)))]))
          exact endI X14 hx Bd.returns (hb hby d53_120) hlk ⟨(fun i => if i = cp - 1 - 1 then (Int32.ofNat (48 + n / 10)) else (fun i => if i = cp - 1 then (Int32.ofNat (48 + n % 10)) else F i) i), (congrArg (fun z => some (Value.int (Int32.ofNat z))) (by omega : (cp - 1 - 1) = q)), N14, by rw [e14]; exact K14, by rw [e14]; exact B14, num_pos hv (show Dw (mg v) (fun i => if i = cp - 1 - 1 then (Int32.ofNat (48 + n / 10)) else if i = cp - 1 then (Int32.ofNat (48 + n % 10)) else F i) (q + sl v) (dg v) from (by rw [show dg v = k + 2 from by omega]; exact (hD.two (r := n) hnM ⟨by omega, by omega, by omega⟩ (by omega) (by omega)))), fun j hj => (hK.two (Int32.ofNat (48 + n / 10)) (Int32.ofNat (48 + n % 10)) (by omega)) j (by omega)⟩ (by decide) (by decide)
        · have hdd2 := dig1 h9
          refine EndsK.go (fun _ kz => XS.iloadN XJ.here hx rfl (hb hby d53_22) rfl (XS.bipush XJ.here hx rfl (hb hby d53_23) (XS.icmpYes XJ.here hx rfl (pc0 := 25) (pc' := 72) rfl (hb hby d53_25) rfl (tlt ((neg100 hn).mpr h100)).2.2.1 (by decide) (by decide) (XS.aloadN XJ.here hx rfl (hb hby d53_72) rfl rfl (XS.iinc XJ.here hx rfl (hb hby d53_73) rfl (l' := #[vi (Jvm.Free.SBG.negI n), vi (Int32.ofNat (q + sl v)), vr t, y3, y4, vi ((Int32.ofNat cp) + (-1 : Int32)), vi (0 : Int32)]) rfl kz))))) ?_
          refine EndsK.start (congrArg (fun z_ => (mkF m 76 #[vi (Jvm.Free.SBG.negI n), vi (Int32.ofNat (q + sl v)), vr t, y3, y4, vi z_, vi (0 : Int32)] [(.ref t)])) (on_pred (by omega) : ((Int32.ofNat cp) + (-1 : Int32)) = (Int32.ofNat (cp - 1)))) ?_
          refine EndsK.go (fun _ kz => XS.iload XJ.here hx rfl (hb hby d53_76) rfl kz) ?_
          obtain ⟨T11, X11, e11, st11⟩ := getS2 XJ hx hZ hown (host := "") (Or.inl (tw hw 319 rfl)) Via.refl eJ (J.SO.ext (ext_kept EB KJ hws)) (g := (mkF m 78 #[vi (Jvm.Free.SBG.negI n), vi (Int32.ofNat (q + sl v)), vr t, y3, y4, vi (Int32.ofNat (cp - 1)), vi (0 : Int32)] [(.int (Int32.ofNat (cp - 1))), (.ref t)])) rfl (hb hby d53_78)
          refine EndsK.go st11 ?_
          refine EndsK.go (fun _ kz => XS.iloadN X11.here hx rfl (hb hby d53_81) rfl (XS.ineg X11.here hx rfl (hb hby d53_82) rfl kz)) ?_
          refine EndsK.start (congrArg (fun z_ => (mkF m 83 #[vi (Jvm.Free.SBG.negI n), vi (Int32.ofNat (q + sl v)), vr t, y3, y4, vi (Int32.ofNat (cp - 1)), vi (0 : Int32)] [(.int z_), (.ref o), (.int (Int32.ofNat (cp - 1))), (.ref t)])) (Jvm.Free.SBG.neg_negI (by omega) : (-(Jvm.Free.SBG.negI n)) = (Int32.ofNat n))) ?_
          refine EndsK.go (fun tz kz => X11.baloadBytes hx (j := (Int32.ofNat n)) (v := .int (Int32.ofNat (48 + n % 10))) (by rw [e11]; exact (Ao.ext (ext_kept EB KJ hws)).1) (State.isArrayOf_alike hZ.alike (Ao.ext (ext_kept EB KJ hws)).2.1) (Ao.ext (ext_kept EB KJ hws)).2.2 (byt_in zo lo (by omega)) (byt_at Ho lo (by omega)) (g := (mkF m 83 #[vi (Jvm.Free.SBG.negI n), vi (Int32.ofNat (q + sl v)), vr t, y3, y4, vi (Int32.ofNat (cp - 1)), vi (0 : Int32)] [(.int (Int32.ofNat n)), (.ref o), (.int (Int32.ofNat (cp - 1))), (.ref t)])) rfl rfl (hb hby d53_83) tz kz) ?_
          obtain ⟨ca12, Aa12, za12, la12, Ha12⟩ := id BJ
          obtain ⟨T12, h12, X12, e12, W12, st12⟩ := stB X11 hx hZ e11 Aa12 (j := (Int32.ofNat (cp - 1))) (byt_in za12 la12 (by omega)) (g := (mkF m 84 #[vi (Jvm.Free.SBG.negI n), vi (Int32.ofNat (q + sl v)), vr t, y3, y4, vi (Int32.ofNat (cp - 1)), vi (0 : Int32)] [(.int (Int32.ofNat (48 + n % 10))), (.int (Int32.ofNat (cp - 1))), (.ref t)])) rfl rfl (hb hby d53_84)
          refine EndsK.go st12 ?_
          have B12 : Byt Z h12 t (N) (fun i => if i = cp - 1 then (Int32.ofNat (48 + n % 10)) else F i) := by have qz_ := BJ.set W12 (fits_nar_byte _); rw [on_clamp (a := cp - 1) (by omega), nar_byte (x := (Int32.ofNat (48 + n % 10))) (k := 48 + n % 10) (on_toInt (by omega)) (by omega)] at qz_; exact qz_
          have N12 := Fr.snoc X12 NJ gt
          have K12 := KJ.wr W12 (Or.inl (List.mem_singleton.mpr rfl))
          have Z12 : n0 ≤ h12.size := Nat.le_trans ZJ (Nat.le_of_eq W12.size.symm)
          refine EndsK.go (fun _ kz => XS.iloadN X12.here hx rfl (hb hby d53_85) rfl (XS.bipush X12.here hx rfl (hb hby d53_86) (XS.icmpYes X12.here hx rfl (pc0 := 88) (pc' := 104) rfl (hb hby d53_88) rfl (flt (fun z => h9 ((neg9 hn).mp z))).2.1 (by decide) (by decide) (XS.iload X12.here hx rfl (hb hby d53_104) rfl (XS.ifYes X12.here hx rfl (pc0 := 106) (pc' := 118) rfl (hb hby d53_106) rfl ((if0 _ _).trans (teq (rfl : (0 : Int32) = (0 : Int32))).1) (by decide) (by decide) (XS.iload X12.here hx rfl (hb hby d53_118) rfl kz)))))) ?_
          show EndsK p e below _ (T12.setTop (mkF m 120 #[vi (Jvm.Free.SBG.negI n), vi (Int32.ofNat (q + sl v)), vr t, y3, y4, vi (Int32.ofNat (cp - 1)), vi (0 : Int32)] [(.int (Int32.ofNat (cp - 1)))]))
          exact endI X12 hx Bd.returns (hb hby d53_120) hlk ⟨(fun i => if i = cp - 1 then (Int32.ofNat (48 + n % 10)) else F i), (congrArg (fun z => some (Value.int (Int32.ofNat z))) (by omega : (cp - 1) = q)), N12, by rw [e12]; exact K12, by rw [e12]; exact B12, num_pos hv (show Dw (mg v) (fun i => if i = cp - 1 then (Int32.ofNat (48 + n % 10)) else F i) (q + sl v) (dg v) from (by rw [show dg v = k + 1 from by omega]; exact (hD.one hnM (by omega) (by omega)))), fun j hj => (hK.one (Int32.ofNat (48 + n % 10)) (by omega)) j (by omega)⟩ (by decide) (by decide)
      · have hdd2 := dig100 (Nat.le_of_not_lt h100) hn
        have hdp := Jvm.Free.SBG.digits_pos (n / 100)
        refine EndsK.go (fun _ kz => XS.iloadN XJ.here hx rfl (hb hby d53_22) rfl (XS.bipush XJ.here hx rfl (hb hby d53_23) (XS.icmpNo XJ.here hx rfl (hb hby d53_25) rfl (flt (fun z => h100 ((neg100 hn).mp z))).2.2.1 (XS.iloadN XJ.here hx rfl (hb hby d53_28) rfl (XS.bipush XJ.here hx rfl (hb hby d53_29) (XS.idiv XJ.here hx rfl (hb hby d53_31) rfl (by decide) kz)))))) ?_
        refine EndsK.start (congrArg (fun z_ => (mkF m 32 #[vi (Jvm.Free.SBG.negI n), vi (Int32.ofNat (q + sl v)), vr t, y3, y4, vi (Int32.ofNat cp), vi (0 : Int32)] [(.int z_)])) (Jvm.Free.SBG.negI_div100 hn : ((Jvm.Free.SBG.negI n) / (100 : Int32)) = (Jvm.Free.SBG.negI (n / 100)))) ?_
        refine EndsK.go (fun _ kz => XS.istoreNS XJ.here hx rfl (hb hby d53_32) rfl rfl hy3 (XS.iloadN XJ.here hx rfl (hb hby d53_33) rfl (XS.bipush XJ.here hx rfl (hb hby d53_34) (XS.imul XJ.here hx rfl (hb hby d53_36) rfl (XS.iloadN XJ.here hx rfl (hb hby d53_37) rfl (XS.isub XJ.here hx rfl (hb hby d53_38) rfl kz)))))) ?_
        refine EndsK.start (congrArg (fun z_ => (mkF m 39 #[vi (Jvm.Free.SBG.negI n), vi (Int32.ofNat (q + sl v)), vr t, vi (Jvm.Free.SBG.negI (n / 100)), y4, vi (Int32.ofNat cp), vi (0 : Int32)] [(.int z_)])) (Jvm.Free.SBG.negI_rem hn : (((Jvm.Free.SBG.negI (n / 100)) * (100 : Int32)) - (Jvm.Free.SBG.negI n)) = (Int32.ofNat (n % 100)))) ?_
        refine EndsK.go (fun _ kz => XS.istoreS XJ.here hx rfl (hb hby d53_39) rfl rfl hy4 (XS.iloadN XJ.here hx rfl (hb hby d53_41) rfl (XS.istoreN XJ.here hx rfl (hb hby d53_42) rfl (l' := #[vi (Jvm.Free.SBG.negI (n / 100)), vi (Int32.ofNat (q + sl v)), vr t, vi (Jvm.Free.SBG.negI (n / 100)), vi (Int32.ofNat (n % 100)), vi (Int32.ofNat cp), vi (0 : Int32)]) rfl (XS.aloadN XJ.here hx rfl (hb hby d53_43) rfl rfl (XS.iinc XJ.here hx rfl (hb hby d53_44) rfl (l' := #[vi (Jvm.Free.SBG.negI (n / 100)), vi (Int32.ofNat (q + sl v)), vr t, vi (Jvm.Free.SBG.negI (n / 100)), vi (Int32.ofNat (n % 100)), vi ((Int32.ofNat cp) + (-1 : Int32)), vi (0 : Int32)]) rfl kz))))) ?_
        refine EndsK.start (congrArg (fun z_ => (mkF m 47 #[vi (Jvm.Free.SBG.negI (n / 100)), vi (Int32.ofNat (q + sl v)), vr t, vi (Jvm.Free.SBG.negI (n / 100)), vi (Int32.ofNat (n % 100)), vi z_, vi (0 : Int32)] [(.ref t)])) (on_pred (by omega) : ((Int32.ofNat cp) + (-1 : Int32)) = (Int32.ofNat (cp - 1)))) ?_
        refine EndsK.go (fun _ kz => XS.iload XJ.here hx rfl (hb hby d53_47) rfl kz) ?_
        obtain ⟨T11, X11, e11, st11⟩ := getS2 XJ hx hZ hown (host := "") (Or.inl (tw hw 319 rfl)) Via.refl eJ (J.SO.ext (ext_kept EB KJ hws)) (g := (mkF m 49 #[vi (Jvm.Free.SBG.negI (n / 100)), vi (Int32.ofNat (q + sl v)), vr t, vi (Jvm.Free.SBG.negI (n / 100)), vi (Int32.ofNat (n % 100)), vi (Int32.ofNat (cp - 1)), vi (0 : Int32)] [(.int (Int32.ofNat (cp - 1))), (.ref t)])) rfl (hb hby d53_49)
        refine EndsK.go st11 ?_
        refine EndsK.go (fun _ kz => XS.iload X11.here hx rfl (hb hby d53_52) rfl kz) ?_
        refine EndsK.go (fun tz kz => X11.baloadBytes hx (j := (Int32.ofNat (n % 100))) (v := .int (Int32.ofNat (48 + n % 100 % 10))) (by rw [e11]; exact (Ao.ext (ext_kept EB KJ hws)).1) (State.isArrayOf_alike hZ.alike (Ao.ext (ext_kept EB KJ hws)).2.1) (Ao.ext (ext_kept EB KJ hws)).2.2 (byt_in zo lo (by omega)) (byt_at Ho lo (by omega)) (g := (mkF m 54 #[vi (Jvm.Free.SBG.negI (n / 100)), vi (Int32.ofNat (q + sl v)), vr t, vi (Jvm.Free.SBG.negI (n / 100)), vi (Int32.ofNat (n % 100)), vi (Int32.ofNat (cp - 1)), vi (0 : Int32)] [(.int (Int32.ofNat (n % 100))), (.ref o), (.int (Int32.ofNat (cp - 1))), (.ref t)])) rfl rfl (hb hby d53_54) tz kz) ?_
        obtain ⟨ca12, Aa12, za12, la12, Ha12⟩ := id BJ
        obtain ⟨T12, h12, X12, e12, W12, st12⟩ := stB X11 hx hZ e11 Aa12 (j := (Int32.ofNat (cp - 1))) (byt_in za12 la12 (by omega)) (g := (mkF m 55 #[vi (Jvm.Free.SBG.negI (n / 100)), vi (Int32.ofNat (q + sl v)), vr t, vi (Jvm.Free.SBG.negI (n / 100)), vi (Int32.ofNat (n % 100)), vi (Int32.ofNat (cp - 1)), vi (0 : Int32)] [(.int (Int32.ofNat (48 + n % 100 % 10))), (.int (Int32.ofNat (cp - 1))), (.ref t)])) rfl rfl (hb hby d53_55)
        refine EndsK.go st12 ?_
        have B12 : Byt Z h12 t (N) (fun i => if i = cp - 1 then (Int32.ofNat (48 + n % 100 % 10)) else F i) := by have qz_ := BJ.set W12 (fits_nar_byte _); rw [on_clamp (a := cp - 1) (by omega), nar_byte (x := (Int32.ofNat (48 + n % 100 % 10))) (k := 48 + n % 100 % 10) (on_toInt (by omega)) (by omega)] at qz_; exact qz_
        have N12 := Fr.snoc X12 NJ gt
        have K12 := KJ.wr W12 (Or.inl (List.mem_singleton.mpr rfl))
        have Z12 : n0 ≤ h12.size := Nat.le_trans ZJ (Nat.le_of_eq W12.size.symm)
        refine EndsK.go (fun _ kz => XS.aloadN X12.here hx rfl (hb hby d53_56) rfl rfl (XS.iinc X12.here hx rfl (hb hby d53_57) rfl (l' := #[vi (Jvm.Free.SBG.negI (n / 100)), vi (Int32.ofNat (q + sl v)), vr t, vi (Jvm.Free.SBG.negI (n / 100)), vi (Int32.ofNat (n % 100)), vi ((Int32.ofNat (cp - 1)) + (-1 : Int32)), vi (0 : Int32)]) rfl kz)) ?_
        refine EndsK.start (congrArg (fun z_ => (mkF m 60 #[vi (Jvm.Free.SBG.negI (n / 100)), vi (Int32.ofNat (q + sl v)), vr t, vi (Jvm.Free.SBG.negI (n / 100)), vi (Int32.ofNat (n % 100)), vi z_, vi (0 : Int32)] [(.ref t)])) (on_pred (by omega) : ((Int32.ofNat (cp - 1)) + (-1 : Int32)) = (Int32.ofNat (cp - 1 - 1)))) ?_
        refine EndsK.go (fun _ kz => XS.iload X12.here hx rfl (hb hby d53_60) rfl kz) ?_
        obtain ⟨T13, X13, e13, st13⟩ := getS2 X12 hx hZ hown (host := "") (Or.inl (tw hw 320 rfl)) Via.refl e12 (J.ST.ext (ext_kept EB K12 hws)) (g := (mkF m 62 #[vi (Jvm.Free.SBG.negI (n / 100)), vi (Int32.ofNat (q + sl v)), vr t, vi (Jvm.Free.SBG.negI (n / 100)), vi (Int32.ofNat (n % 100)), vi (Int32.ofNat (cp - 1 - 1)), vi (0 : Int32)] [(.int (Int32.ofNat (cp - 1 - 1))), (.ref t)])) rfl (hb hby d53_62)
        refine EndsK.go st13 ?_
        refine EndsK.go (fun _ kz => XS.iload X13.here hx rfl (hb hby d53_65) rfl kz) ?_
        refine EndsK.go (fun tz kz => X13.baloadBytes hx (j := (Int32.ofNat (n % 100))) (v := .int (Int32.ofNat (48 + n % 100 / 10))) (by rw [e13]; exact (Ad.ext (ext_kept EB K12 hws)).1) (State.isArrayOf_alike hZ.alike (Ad.ext (ext_kept EB K12 hws)).2.1) (Ad.ext (ext_kept EB K12 hws)).2.2 (byt_in zd ld (by omega)) (byt_at Hd ld (by omega)) (g := (mkF m 67 #[vi (Jvm.Free.SBG.negI (n / 100)), vi (Int32.ofNat (q + sl v)), vr t, vi (Jvm.Free.SBG.negI (n / 100)), vi (Int32.ofNat (n % 100)), vi (Int32.ofNat (cp - 1 - 1)), vi (0 : Int32)] [(.int (Int32.ofNat (n % 100))), (.ref d), (.int (Int32.ofNat (cp - 1 - 1))), (.ref t)])) rfl rfl (hb hby d53_67) tz kz) ?_
        obtain ⟨ca14, Aa14, za14, la14, Ha14⟩ := id B12
        obtain ⟨T14, h14, X14, e14, W14, st14⟩ := stB X13 hx hZ e13 Aa14 (j := (Int32.ofNat (cp - 1 - 1))) (byt_in za14 la14 (by omega)) (g := (mkF m 68 #[vi (Jvm.Free.SBG.negI (n / 100)), vi (Int32.ofNat (q + sl v)), vr t, vi (Jvm.Free.SBG.negI (n / 100)), vi (Int32.ofNat (n % 100)), vi (Int32.ofNat (cp - 1 - 1)), vi (0 : Int32)] [(.int (Int32.ofNat (48 + n % 100 / 10))), (.int (Int32.ofNat (cp - 1 - 1))), (.ref t)])) rfl rfl (hb hby d53_68)
        refine EndsK.go st14 ?_
        have B14 : Byt Z h14 t (N) (fun i => if i = cp - 1 - 1 then (Int32.ofNat (48 + n % 100 / 10)) else (fun i => if i = cp - 1 then (Int32.ofNat (48 + n % 100 % 10)) else F i) i) := by have qz_ := B12.set W14 (fits_nar_byte _); rw [on_clamp (a := cp - 1 - 1) (by omega), nar_byte (x := (Int32.ofNat (48 + n % 100 / 10))) (k := 48 + n % 100 / 10) (on_toInt (by omega)) (by omega)] at qz_; exact qz_
        have N14 := Fr.snoc X14 N12 gt
        have K14 := K12.wr W14 (Or.inl (List.mem_singleton.mpr rfl))
        have Z14 : n0 ≤ h14.size := Nat.le_trans Z12 (Nat.le_of_eq W14.size.symm)
        refine EndsK.go (fun _ kz => XS.goto X14.here hx rfl (pc0 := 69) (pc' := 22) rfl (hb hby d53_69) (by decide) (by decide) kz) ?_
        refine ih (n / 100) (by omega) (k + 2) (cp - 1 - 1) _ T14 h14 _ _ _ (Or.inr ⟨_, rfl, rfl⟩) (Or.inr ⟨_, rfl, rfl⟩) (by omega) (by omega) (by omega) (by omega) (d100 hnM) (hD.two (r := n % 100) hnM ⟨by omega, by omega, by omega⟩ (by omega) (by omega)) (hK.two _ _ (by omega)) X14 e14 K14 B14 N14
  refine EndsK.go (fun _ kz => XS.iloadN X0.here hx rfl (hb hby d53_0) rfl (XS.istore X0.here hx rfl (hb hby d53_1) rfl (l' := #[vi v, vi (Int32.ofNat (q + sl v)), vr t, .unset, .unset, vi (Int32.ofNat (q + sl v)), .unset]) rfl (XS.iloadN X0.here hx rfl (hb hby d53_3) rfl kz))) ?_
  show EndsK p e below _ (s₁.setTop (mkF m 4 #[vi v, vi (Int32.ofNat (q + sl v)), vr t, .unset, .unset, vi (Int32.ofNat (q + sl v)), .unset] [(.int v)]))
  by_cases H4_1 : v < (0 : Int32)
  · refine EndsK.go (fun _ kz => XS.ifNo X0.here hx rfl (hb hby d53_4) rfl ((if0 _ _).trans (tlt H4_1).2.1) (XS.iconst X0.here hx rfl (hb hby d53_7) (XS.goto X0.here hx rfl (pc0 := 8) (pc' := 12) rfl (hb hby d53_8) (by decide) (by decide) (XS.istore X0.here hx rfl (hb hby d53_12) rfl (l' := #[vi v, vi (Int32.ofNat (q + sl v)), vr t, .unset, .unset, vi (Int32.ofNat (q + sl v)), vi (1 : Int32)]) rfl (XS.iload X0.here hx rfl (hb hby d53_14) rfl (XS.ifYes X0.here hx rfl (pc0 := 16) (pc' := 22) rfl (hb hby d53_16) rfl ((if0 _ _).trans (feq (by decide : ¬ ((1 : Int32) = (0 : Int32)))).2) (by decide) (by decide) kz)))))) ?_
    refine EndsK.start (congrArg (fun z_ => (mkF m 22 #[vi z_, vi (Int32.ofNat (q + sl v)), vr t, .unset, .unset, vi (Int32.ofNat (q + sl v)), vi (1 : Int32)] [])) ((by have z := neg_mg v; rw [if_pos H4_1] at z; exact z) : v = (Jvm.Free.SBG.negI (mg v)))) ?_
    exact Jn H4_1 (mg v) 0 (q + sl v) f s₁ h0 [] _ _ (Or.inl rfl) (Or.inl rfl) hM (by omega) (by omega) (by omega) (by rw [Nat.pow_zero, Nat.div_one]) (fun j hj => absurd hj (Nat.not_lt_zero _)) (fun _ _ => rfl) X0 e0 (Keep.refl h0 [t]) B0 N0
  · refine EndsK.go (fun _ kz => XS.ifYes X0.here hx rfl (pc0 := 4) (pc' := 11) rfl (hb hby d53_4) rfl ((if0 _ _).trans (flt H4_1).2.1) (by decide) (by decide) (XS.iconst X0.here hx rfl (hb hby d53_11) (XS.istore X0.here hx rfl (hb hby d53_12) rfl (l' := #[vi v, vi (Int32.ofNat (q + sl v)), vr t, .unset, .unset, vi (Int32.ofNat (q + sl v)), vi (0 : Int32)]) rfl (XS.iload X0.here hx rfl (hb hby d53_14) rfl (XS.ifNo X0.here hx rfl (hb hby d53_16) rfl ((if0 _ _).trans (teq (rfl : (0 : Int32) = (0 : Int32))).2) (XS.iloadN X0.here hx rfl (hb hby d53_19) rfl (XS.ineg X0.here hx rfl (hb hby d53_20) rfl kz))))))) ?_
    show EndsK p e below _ (s₁.setTop (mkF m 21 #[vi v, vi (Int32.ofNat (q + sl v)), vr t, .unset, .unset, vi (Int32.ofNat (q + sl v)), vi (0 : Int32)] [(.int (-v))]))
    refine EndsK.go (fun _ kz => XS.istoreN X0.here hx rfl (hb hby d53_21) rfl (l' := #[vi (-v), vi (Int32.ofNat (q + sl v)), vr t, .unset, .unset, vi (Int32.ofNat (q + sl v)), vi (0 : Int32)]) rfl kz) ?_
    refine EndsK.start (congrArg (fun z_ => (mkF m 22 #[vi z_, vi (Int32.ofNat (q + sl v)), vr t, .unset, .unset, vi (Int32.ofNat (q + sl v)), vi (0 : Int32)] [])) ((by have z := neg_mg v; rw [if_neg H4_1] at z; exact z) : (-v) = (Jvm.Free.SBG.negI (mg v)))) ?_
    exact Jp H4_1 (mg v) 0 (q + sl v) f s₁ h0 [] _ _ (Or.inl rfl) (Or.inl rfl) hM (by omega) (by omega) (by omega) (by rw [Nat.pow_zero, Nat.div_one]) (fun j hj => absurd hj (Nat.not_lt_zero _)) (fun _ _ => rfl) X0 e0 (Keep.refl h0 [t]) B0 N0
abbrev B51 := jdk_68_method_32_code
theorem d51_0 : decode B51 0 = .ok (.aload_n 0, 1) := by decide +kernel
theorem d51_1 : decode B51 1 = .ok (.getfield 79, 3) := by decide +kernel
theorem d51_4 : decode B51 4 = .ok (.istore_n 2, 1) := by decide +kernel
theorem d51_5 : decode B51 5 = .ok (.iload_n 2, 1) := by decide +kernel
theorem d51_6 : decode B51 6 = .ok (.iload_n 1, 1) := by decide +kernel
theorem d51_7 : decode B51 7 = .ok (.invokestatic 245, 3) := by decide +kernel
theorem d51_10 : decode B51 10 = .ok (.iadd, 1) := by decide +kernel
theorem d51_11 : decode B51 11 = .ok (.istore_n 3, 1) := by decide +kernel
theorem d51_12 : decode B51 12 = .ok (.aload_n 0, 1) := by decide +kernel
theorem d51_13 : decode B51 13 = .ok (.iload_n 3, 1) := by decide +kernel
theorem d51_14 : decode B51 14 = .ok (.invokevirtual 100, 3) := by decide +kernel
theorem d51_17 : decode B51 17 = .ok (.aload_n 0, 1) := by decide +kernel
theorem d51_18 : decode B51 18 = .ok (.invokevirtual 83, 3) := by decide +kernel
theorem d51_21 : decode B51 21 = .ok (.ifCond .eq 16, 3) := by decide +kernel
theorem d51_24 : decode B51 24 = .ok (.iload_n 1, 1) := by decide +kernel
theorem d51_25 : decode B51 25 = .ok (.iload_n 3, 1) := by decide +kernel
theorem d51_26 : decode B51 26 = .ok (.aload_n 0, 1) := by decide +kernel
theorem d51_27 : decode B51 27 = .ok (.getfield 15, 3) := by decide +kernel
theorem d51_30 : decode B51 30 = .ok (.invokestatic 248, 3) := by decide +kernel
theorem d51_33 : decode B51 33 = .ok (.pop, 1) := by decide +kernel
theorem d51_34 : decode B51 34 = .ok (.goto 14, 3) := by decide +kernel
theorem d51_48 : decode B51 48 = .ok (.aload_n 0, 1) := by decide +kernel
theorem d51_49 : decode B51 49 = .ok (.iload_n 3, 1) := by decide +kernel
theorem d51_50 : decode B51 50 = .ok (.putfield 79, 3) := by decide +kernel
theorem d51_53 : decode B51 53 = .ok (.aload_n 0, 1) := by decide +kernel
theorem d51_54 : decode B51 54 = .ok (.areturn, 1) := by decide +kernel
def Q_apI (Z : State) (hB : Heap) (zc : Int32) (o : Addr) (d : Addr) (u : Value) (x : Addr) (t : Addr) (N : Nat) (f : Nat → Int32) (n : Nat) (v : Int32) (h0 : Heap) (n0 : Nat) (vz : Option Value) (hz : Heap) (Lz : List Loc) : Prop := ∃ (t' : Addr) (N' : Nat) (F : Nat → Int32), vz = some (.ref x) ∧ Fr n0 Lz ∧ Keep h0 hz [x, t] ∧ (t' = t ∨ h0.size ≤ t') ∧ SBt Z hz x t' N' F (n + sl v) ∧ (∀ j, j < n → F j = f j) ∧ Num F n v
abbrev rr_apI : Room := ({ frames := 4, cells := 1, slots := 64, locals := 90 } : Room)
theorem pd17 : parseMethodDescriptor "(II[B)I" = some ⟨[.int, .int, (.array .byte)], some .int⟩ := by decide +kernel
set_option maxRecDepth 65536 in
set_option maxHeartbeats 40000000 in
theorem rm_apI (l : Launch) (Z : State) (a0 : Array Value) (hw : ∀ d ∈ tables_1, d.before a0 Z = true) (ws : List Jvm.Cond) (hB : Heap) (zc : Int32) (o : Addr) (d : Addr) (u : Value) (x : Addr) (t : Addr) (N : Nat) (f : Nat → Int32) (n : Nat) (v : Int32) (h0 : Heap) (n0 : Nat) (Z0 : n0 ≤ h0.size) (J : JS Z hB zc o d u) (EB : Ext hB h0) (hBn : hB.size ≤ n0) (S0 : SBt Z h0 x t N f n) (gx : n0 ≤ x) (gt : n0 ≤ t) (hn : n + sl v ≤ 42) :
    MetFree l mn26 (head1 (Jvm.Cond.code mn26 jdk_68_method_32_code 4 (some (.object "java/lang/AbstractStringBuilder")) :: ws) rr_apI) (PreK Z #[(.ref x), (.int v)] h0) (fun _ _ _ _ _ => True) (PosK (Q_apI Z hB zc o d u x t N f n v h0 n0) rr_apI) := by
  refine startK n0 (L := #[vr x, vi v, .unset, .unset]) (plainFor_of_name pn2) (fun _ => rfl) fun p e s m below meth c s₁ Bd hZ hh hx hby hml hown hnm hlk X0 e0 N0 => ?_
  obtain ⟨Ex, Fv, Fc, Fn, B0, Et, hN, nxt, hnN⟩ := id S0
  have hws : ∀ z ∈ [x, t], hB.size ≤ z := allS (Nat.le_trans hBn gx) (allS (Nat.le_trans hBn gt) all0)
  have K0 : Keep h0 h0 [x, t] := Keep.refl h0 [x, t]
  refine EndsK.go (fun _ kz => XS.aloadN X0.here hx rfl (hb hby d51_0) rfl rfl kz) ?_
  obtain ⟨T1, X1, e1, st1⟩ := getF X0 hx hZ hown (host := "") (Or.inl (tw hw 84 rfl)) Via.refl e0 Fn (g := (mkF m 1 #[vr x, vi v, .unset, .unset] [(.ref x)])) rfl rfl (hb hby d51_1)
  refine EndsK.go st1 ?_
  refine EndsK.go (fun _ kz => XS.istoreN X1.here hx rfl (hb hby d51_4) rfl (l' := #[vr x, vi v, vi (Int32.ofNat n), .unset]) rfl (XS.iloadN X1.here hx rfl (hb hby d51_5) rfl (XS.iloadN X1.here hx rfl (hb hby d51_6) rfl kz))) ?_
  obtain ⟨_, T2, Lc2, X2, hQ2, st2⟩ := doneG X1 (Jvm.LawKit.callS X1 hx (y := mn11) hown (mvT hZ (tw hw 313 rfl)) (mvT hZ (tw hw 314 rfl)) (mvT hZ (tw hw 221 rfl)) (mvT hZ (tw hw 315 rfl)) (by decide) (backOf (W := 1) (rm_ssz l Z a0 hw [] v h0 n0 Z0) hZ (tw hw 315 rfl) (tw hw 221 rfl) (by decide) (by decide)) (g := (mkF m 7 #[vr x, vi v, vi (Int32.ofNat n), .unset] [(.int v), (.int (Int32.ofNat n))])) rfl (by rw [hml]; rfl) (argsL := [(.int v)]) (rest := [(.int (Int32.ofNat n))]) (lenOf pd5 rfl) rfl (by show 2 * 0 + _ ≤ _; exact Nat.le_of_eq rfl) (hb hby d51_7) (fun _ _ => ⟨rfl, e1, (by decide : 0 + 0 ≤ _), (by decide : 0 + 0 ≤ _)⟩))
  obtain ⟨rfl, N2, e2⟩ := hQ2
  have M2 := Fr.app N0 N2
  refine EndsK.go st2 ?_
  refine EndsK.start (congrArg (fun z_ => (mkF m 10 #[vr x, vi v, vi (Int32.ofNat n), .unset] [(.int z_), (.int (Int32.ofNat n))])) (ssizeF_eq v : (ssizeF v) = (Int32.ofNat (sl v)))) ?_
  refine EndsK.go (fun _ kz => XS.iadd X2.here hx rfl (hb hby d51_10) rfl kz) ?_
  refine EndsK.start (congrArg (fun z_ => (mkF m 11 #[vr x, vi v, vi (Int32.ofNat n), .unset] [(.int z_)])) (on_add n (sl v) : ((Int32.ofNat n) + (Int32.ofNat (sl v))) = (Int32.ofNat (n + sl v)))) ?_
  refine EndsK.go (fun _ kz => XS.istoreN X2.here hx rfl (hb hby d51_11) rfl (l' := #[vr x, vi v, vi (Int32.ofNat n), vi (Int32.ofNat (n + sl v))]) rfl (XS.aloadN X2.here hx rfl (hb hby d51_12) rfl rfl (XS.iloadN X2.here hx rfl (hb hby d51_13) rfl kz))) ?_
  obtain ⟨cq3, kq3, qa3, qb3, qc3⟩ := isOf hZ e2 Ex
  obtain ⟨_, T3, Lc3, X3, hQ3, st3⟩ := doneT X2 (X2.virtualBack hx (y := mn14) (z := mn14) hown (mvT hZ (tw hw 86 rfl)) (declares_of (mvT hZ (tw hw 87 rfl)) (mvT hZ (tw hw 90 rfl))) (notFace_of_selects (args := #[]) (mvT hZ (tw hw 89 rfl))) (mvT hZ (tw hw 89 rfl)) (mvT hZ (tw hw 87 rfl)) (by decide) (backOf (W := 0) (rm_ens l Z a0 hw [] x t N f n (n + sl v) h0 n0 Z0 S0 gx hn) hZ (tw hw 90 rfl) (tw hw 48 rfl) (by decide) (by decide)) qa3 qc3 (g := (mkF m 14 #[vr x, vi v, vi (Int32.ofNat n), vi (Int32.ofNat (n + sl v))] [(.int (Int32.ofNat (n + sl v))), (.ref x)])) rfl (by rw [hml]; rfl) (Steps.refl _) (argsL := [(.int (Int32.ofNat (n + sl v)))]) (rest := []) (lenOf pd10 rfl) rfl (by show 2 * 0 + _ ≤ _; exact Nat.le_of_eq rfl) (hb hby d51_14) (fun _ _ => ⟨rfl, e2, (by decide : 0 + 0 + 1 ≤ _), (by decide : 0 + 0 + 64 ≤ _)⟩))
  obtain ⟨tt, NN, FF, rfl, N3, Kc3, q_t3, S3, q_k3, q_f3⟩ := hQ3
  have M3 := Fr.app M2 N3
  obtain ⟨h3, e3⟩ : ∃ z, T3.heap = z := ⟨_, rfl⟩
  rw [e3] at Kc3 S3
  have Z3 : n0 ≤ h3.size := Nat.le_trans Z0 Kc3.1
  have K3 := K0.trans Kc3 (allS (Or.inl (List.mem_cons_self)) all0)
  have E3_x := Ex.keep Kc3
  have B3_t := B0.keep Kc3 (ninS (Ne.symm nxt) nin0)
  have E3_t := Et.keep Kc3
  obtain ⟨Ex3, Fv3, Fc3, Fn3, B3, Et3, hN3, nxt3, -⟩ := id S3
  have gT : n0 ≤ tt := q_t3.elim (fun q => q ▸ gt) (fun q => Nat.le_trans Z0 q)
  have kT : tt ∈ [x, t] ∨ h0.size ≤ tt := q_t3.elim (fun q => Or.inl (by rw [q]; exact List.mem_cons_of_mem _ (List.mem_singleton.mpr rfl))) Or.inr
  refine EndsK.tr st3 ?_
  refine EndsK.go (fun _ kz => XS.aloadN X3.here hx rfl (hb hby d51_17) rfl rfl kz) ?_
  obtain ⟨cq4, kq4, qa4, qb4, qc4⟩ := isOf hZ e3 Ex3
  obtain ⟨_, T4, Lc4, X4, hQ4, st4⟩ := doneT X3 (X3.virtualBack hx (y := mn7) (z := mn7) hown (mvT hZ (tw hw 300 rfl)) (mvT hZ (tw hw 177 rfl)) (notFace_of_selects (args := #[]) (mvT hZ (tw hw 179 rfl))) (mvT hZ (tw hw 179 rfl)) (mvT hZ (tw hw 178 rfl)) (by decide) (backOf (W := 0) (rm_isl l Z a0 hw [] x zc h3 n0 Z3 (J.SC.ext (ext_kept EB K3 hws)) J.hzc Fc3) hZ (tw hw 180 rfl) (tw hw 48 rfl) (by decide) (by decide)) qa4 qc4 (g := (mkF m 18 #[vr x, vi v, vi (Int32.ofNat n), vi (Int32.ofNat (n + sl v))] [(.ref x)])) rfl (by rw [hml]; rfl) (Steps.refl _) (argsL := []) (rest := []) (lenOf pd14 rfl) rfl (by show 2 * 0 + _ ≤ _; exact Nat.le_of_eq rfl) (hb hby d51_18) (fun _ _ => ⟨rfl, e3, (by decide : 0 + 0 + 1 + 0 ≤ _), (by decide : 0 + 0 + 64 + 0 ≤ _)⟩))
  obtain ⟨rfl, N4, e4⟩ := hQ4
  have M4 := Fr.app M3 N4
  refine EndsK.tr st4 ?_
  refine EndsK.go (fun _ kz => XS.ifNo X4.here hx rfl (hb hby d51_21) rfl ((if0 _ _).trans (feq (by decide : ¬ ((1 : Int32) = (0 : Int32)))).1) (XS.iloadN X4.here hx rfl (hb hby d51_24) rfl (XS.iloadN X4.here hx rfl (hb hby d51_25) rfl (XS.aloadN X4.here hx rfl (hb hby d51_26) rfl rfl kz)))) ?_
  obtain ⟨T5, X5, e5, st5⟩ := getF X4 hx hZ hown (host := "") (Or.inl (tw hw 68 rfl)) Via.refl e4 Fv3 (g := (mkF m 27 #[vr x, vi v, vi (Int32.ofNat n), vi (Int32.ofNat (n + sl v))] [(.ref x), (.int (Int32.ofNat (n + sl v))), (.int v)])) rfl rfl (hb hby d51_27)
  refine EndsK.go st5 ?_
  obtain ⟨_, T6, Lc6, X6, hQ6, st6⟩ := doneG X5 (Jvm.LawKit.callS X5 hx (y := mn25) hown (mvT hZ (tw hw 316 rfl)) (mvT hZ (tw hw 317 rfl)) (mvT hZ (tw hw 221 rfl)) (mvT hZ (tw hw 318 rfl)) (by decide) (backOf (W := 0) (rm_gc l Z a0 hw [] hB zc o d u v tt NN FF n h3 n0 Z3 J (ext_kept EB K3 hws) hBn gT B3 q_k3 (by omega)) hZ (tw hw 318 rfl) (tw hw 221 rfl) (by decide) (by decide)) (g := (mkF m 30 #[vr x, vi v, vi (Int32.ofNat n), vi (Int32.ofNat (n + sl v))] [(.ref tt), (.int (Int32.ofNat (n + sl v))), (.int v)])) rfl (by rw [hml]; rfl) (argsL := [(.int v), (.int (Int32.ofNat (n + sl v))), (.ref tt)]) (rest := []) (lenOf pd17 rfl) rfl (by show 2 * 0 + _ ≤ _; exact Nat.le_of_eq rfl) (hb hby d51_30) (fun _ _ => ⟨rfl, e5, (by decide : 0 + 0 + 1 + 0 + 0 ≤ _), (by decide : 0 + 0 + 64 + 0 + 0 ≤ _)⟩))
  obtain ⟨G6, rfl, N6, Kd6, B6, q_n6, q_g6⟩ := hQ6
  have M6 := Fr.app M4 N6
  obtain ⟨h6, e6⟩ : ∃ z, T6.heap = z := ⟨_, rfl⟩
  rw [e6] at Kd6 B6
  have Z6 : n0 ≤ h6.size := Nat.le_trans Z3 Kd6.1
  have K6 := K3.trans Kd6 (allS kT all0)
  have E6_x := Ex3.keep Kd6
  have F6_x_value := Fv3.keep Kd6 (ninS nxt3 nin0)
  have F6_x_coder := Fc3.keep Kd6 (ninS nxt3 nin0)
  have F6_x_count := Fn3.keep Kd6 (ninS nxt3 nin0)
  have E6_tt := Et3.keep Kd6
  refine EndsK.go st6 ?_
  refine EndsK.go (fun _ kz => XS.pop X6.here hx rfl (hb hby d51_33) rfl rfl (XS.goto X6.here hx rfl (pc0 := 34) (pc' := 48) rfl (hb hby d51_34) (by decide) (by decide) (XS.aloadN X6.here hx rfl (hb hby d51_48) rfl rfl (XS.iloadN X6.here hx rfl (hb hby d51_49) rfl kz)))) ?_
  obtain ⟨T7, h7, X7, e7, W7, st7⟩ := putF X6 hx hZ hown (host := "") (Or.inl (tw hw 84 rfl)) Via.refl e6 F6_x_count E6_x (Or.inl (tw hw 85 rfl)) (tw hw 31 rfl) (ty := .int) (by decide) rfl rfl (g := (mkF m 50 #[vr x, vi v, vi (Int32.ofNat n), vi (Int32.ofNat (n + sl v))] [(.int (Int32.ofNat (n + sl v))), (.ref x)])) rfl rfl (hb hby d51_50)
  refine EndsK.go st7 ?_
  have N7 := Fr.snoc X7 M6 gx
  have E7_x := E6_x.wr W7
  have F7_value_x := F6_x_value.other W7 (Or.inr (slot_ne (Or.inl (tw hw 69 rfl)) (Or.inl (tw hw 85 rfl)) (by decide) (t := (.array .byte)) (t' := .int) (by decide) (by decide)))
  have F7_coder_x := F6_x_coder.other W7 (Or.inr (slot_ne (Or.inl (tw hw 67 rfl)) (Or.inl (tw hw 85 rfl)) (by decide) (t := .byte) (t' := .int) (by decide) (by decide)))
  have F7_count := F6_x_count.same W7
  have E7_tt := E6_tt.wr W7
  have B7_tt := B6.other W7 (Ne.symm nxt3)
  have Z7 : n0 ≤ h7.size := Nat.le_trans Z6 (Nat.le_of_eq W7.size.symm)
  have K7 := K6.wr W7 (Or.inl (List.mem_cons_self))
  refine EndsK.go (fun _ kz => XS.aloadN X7.here hx rfl (hb hby d51_53) rfl rfl kz) ?_
  show EndsK p e below _ (T7.setTop (mkF m 54 #[vr x, vi v, vi (Int32.ofNat n), vi (Int32.ofNat (n + sl v))] [(.ref x)]))
  exact endR X7 hx Bd.returns rfl rfl (hb hby d51_54) hlk ⟨tt, NN, G6, rfl, N7, by rw [e7]; exact K7, q_t3, by rw [e7]; exact ⟨E7_x, F7_value_x, F7_coder_x, F7_count, B7_tt, E7_tt, hN3, nxt3, by omega⟩, fun j hj => (q_g6 j hj).trans (q_f3 j (by omega)), q_n6⟩ (by decide) (by decide)
abbrev B50 := jdk_67_method_15_code
theorem d50_0 : decode B50 0 = .ok (.aload_n 0, 1) := by decide +kernel
theorem d50_1 : decode B50 1 = .ok (.iload_n 1, 1) := by decide +kernel
theorem d50_2 : decode B50 2 = .ok (.invokespecial 53, 3) := by decide +kernel
theorem d50_5 : decode B50 5 = .ok (.pop, 1) := by decide +kernel
theorem d50_6 : decode B50 6 = .ok (.aload_n 0, 1) := by decide +kernel
theorem d50_7 : decode B50 7 = .ok (.areturn, 1) := by decide +kernel
def Q_apI2 (Z : State) (hB : Heap) (zc : Int32) (o : Addr) (d : Addr) (u : Value) (x : Addr) (t : Addr) (N : Nat) (f : Nat → Int32) (n : Nat) (v : Int32) (h0 : Heap) (n0 : Nat) (vz : Option Value) (hz : Heap) (Lz : List Loc) : Prop := ∃ (t' : Addr) (N' : Nat) (F : Nat → Int32), vz = some (.ref x) ∧ Fr n0 Lz ∧ Keep h0 hz [x, t] ∧ (t' = t ∨ h0.size ≤ t') ∧ SBt Z hz x t' N' F (n + sl v) ∧ (∀ j, j < n → F j = f j) ∧ Num F n v
abbrev rr_apI2 : Room := ({ frames := 5, cells := 1, slots := 64, locals := 106 } : Room)
theorem pd18 : parseMethodDescriptor "(I)Ljava/lang/AbstractStringBuilder;" = some ⟨[.int], some (.object "java/lang/AbstractStringBuilder")⟩ := by decide +kernel
set_option maxRecDepth 65536 in
set_option maxHeartbeats 40000000 in
theorem rm_apI2 (l : Launch) (Z : State) (a0 : Array Value) (hw : ∀ d ∈ tables_1, d.before a0 Z = true) (ws : List Jvm.Cond) (hB : Heap) (zc : Int32) (o : Addr) (d : Addr) (u : Value) (x : Addr) (t : Addr) (N : Nat) (f : Nat → Int32) (n : Nat) (v : Int32) (h0 : Heap) (n0 : Nat) (Z0 : n0 ≤ h0.size) (J : JS Z hB zc o d u) (EB : Ext hB h0) (hBn : hB.size ≤ n0) (S0 : SBt Z h0 x t N f n) (gx : n0 ≤ x) (gt : n0 ≤ t) (hn : n + sl v ≤ 42) :
    MetFree l mn27 (head1 (Jvm.Cond.code mn27 jdk_67_method_15_code 2 (some (.object "java/lang/StringBuilder")) :: ws) rr_apI2) (PreK Z #[(.ref x), (.int v)] h0) (fun _ _ _ _ _ => True) (PosK (Q_apI2 Z hB zc o d u x t N f n v h0 n0) rr_apI2) := by
  refine startK n0 (L := #[vr x, vi v]) (plainFor_of_name pn7) (fun _ => rfl) fun p e s m below meth c s₁ Bd hZ hh hx hby hml hown hnm hlk X0 e0 N0 => ?_
  have Ex := S0.1
  refine EndsK.go (fun _ kz => XS.aloadN X0.here hx rfl (hb hby d50_0) rfl rfl (XS.iloadN X0.here hx rfl (hb hby d50_1) rfl kz)) ?_
  obtain ⟨_, T1, Lc1, X1, hQ1, st1⟩ := doneT X0 (superBack X0 hx hZ (K := "java/lang/StringBuilder") (y := mn26) hown (tw hw 309 rfl) (same_of (tw hw 310 rfl) (tw hw 89 rfl) rfl (by decide)) (tw hw 310 rfl) (tw hw 82 rfl) (by decide) (backOf (W := 0) (rm_apI l Z a0 hw [] hB zc o d u x t N f n v h0 n0 Z0 J EB hBn S0 gx gt hn) hZ (tw hw 312 rfl) (tw hw 48 rfl) (by decide) (by decide)) e0 (a := x) (Ins.self Ex) (g := (mkF m 2 #[vr x, vi v] [(.int v), (.ref x)])) rfl (by rw [hml]; rfl) (tw hw 312 rfl) (argsL := [(.int v)]) (rest := []) (lenOf pd18 rfl) rfl (by show 2 * 0 + _ ≤ _; exact Nat.le_of_eq rfl) (hb hby d50_2) (fun _ _ => ⟨rfl, e0, (by decide : 0 + 1 ≤ _), (by decide : 0 + 64 ≤ _)⟩))
  obtain ⟨t1, N_1, F1, rfl, N1, Kc1, q_t1, S1, q_f1, q_g1⟩ := hQ1
  have M1 := Fr.app N0 N1
  obtain ⟨h1, e1⟩ : ∃ z, T1.heap = z := ⟨_, rfl⟩
  rw [e1] at Kc1 S1
  have Z1 : n0 ≤ h1.size := Nat.le_trans Z0 Kc1.1
  refine EndsK.tr st1 ?_
  refine EndsK.go (fun _ kz => XS.pop X1.here hx rfl (hb hby d50_5) rfl rfl (XS.aloadN X1.here hx rfl (hb hby d50_6) rfl rfl kz)) ?_
  show EndsK p e below _ (T1.setTop (mkF m 7 #[vr x, vi v] [(.ref x)]))
  exact endR X1 hx Bd.returns rfl rfl (hb hby d50_7) hlk ⟨t1, N_1, F1, rfl, M1, by rw [e1]; exact Kc1, q_t1, by rw [e1]; exact S1, q_f1, q_g1⟩ (by decide) (by decide)
theorem on_subN {a b c : Nat} (h : b ≤ a) (e : a - b = c) : Int32.ofNat a - Int32.ofNat b = Int32.ofNat c := by
  rw [← e]; exact (Int32.ofNat_sub _ _ h).symm
theorem chF_of {b : Int32} {k : Nat} (h : b = Int32.ofNat k) (hk : k < 128) : chF b = Int32.ofNat k := by
  subst h; exact chF_eq (on_toInt (by omega)) hk
abbrev B29 := jdk_65_method_131_code
theorem d29_0 : decode B29 0 = .ok (.iload_n 1, 1) := by decide +kernel
theorem d29_1 : decode B29 1 = .ok (.iload_n 0, 1) := by decide +kernel
theorem d29_2 : decode B29 2 = .ok (.if_icmp .ge 35, 3) := by decide +kernel
theorem d29_37 : decode B29 37 = .ok (.return_, 1) := by decide +kernel
def Q_ckl (Z : State) (n : Nat) (h0 : Heap) (n0 : Nat) (vz : Option Value) (hz : Heap) (Lz : List Loc) : Prop := vz = none ∧ Fr n0 Lz ∧ hz = h0
abbrev rr_ckl : Room := ({ frames := 0, cells := 0, slots := 0, locals := 0 } : Room)
set_option maxRecDepth 65536 in
set_option maxHeartbeats 40000000 in
theorem rm_ckl (l : Launch) (Z : State) (a0 : Array Value) (hw : ∀ d ∈ tables_1, d.before a0 Z = true) (ws : List Jvm.Cond) (n : Nat) (h0 : Heap) (n0 : Nat) (Z0 : n0 ≤ h0.size) (hn : n ≤ 64) :
    MetFree l mn28 (head1 (Jvm.Cond.code mn28 jdk_65_method_131_code 2 none :: ws) rr_ckl) (PreK Z #[(.int (0 : Int32)), (.int (Int32.ofNat n))] h0) (fun _ _ _ _ _ => True) (PosK (Q_ckl Z n h0 n0) rr_ckl) := by
  refine startK n0 (L := #[vi (0 : Int32), vi (Int32.ofNat n)]) (plainFor_of_name pn6) (fun _ => rfl) fun p e s m below meth c s₁ Bd hZ hh hx hby hml hown hnm hlk X0 e0 N0 => ?_
  refine EndsK.go (fun _ kz => XS.iloadN X0.here hx rfl (hb hby d29_0) rfl (XS.iloadN X0.here hx rfl (hb hby d29_1) rfl (XS.icmpYes X0.here hx rfl (pc0 := 2) (pc' := 37) rfl (hb hby d29_2) rfl (flt (not_neg (by omega))).2.1 (by decide) (by decide) kz))) ?_
  show EndsK p e below _ (s₁.setTop (mkF m 37 #[vi (0 : Int32), vi (Int32.ofNat n)] []))
  exact endV X0 hx Bd.returns (hb hby d29_37) hlk ⟨rfl, N0, e0⟩ (by decide) (by decide)
abbrev B28 := jdk_65_method_133_code
theorem d28_0 : decode B28 0 = .ok (.iload_n 1, 1) := by decide +kernel
theorem d28_1 : decode B28 1 = .ok (.iload_n 2, 1) := by decide +kernel
theorem d28_2 : decode B28 2 = .ok (.invokestatic 343, 3) := by decide +kernel
theorem d28_5 : decode B28 5 = .ok (.iload_n 2, 1) := by decide +kernel
theorem d28_6 : decode B28 6 = .ok (.iload_n 1, 1) := by decide +kernel
theorem d28_7 : decode B28 7 = .ok (.isub, 1) := by decide +kernel
theorem d28_8 : decode B28 8 = .ok (.istore_n 3, 1) := by decide +kernel
theorem d28_9 : decode B28 9 = .ok (.iload_n 3, 1) := by decide +kernel
theorem d28_10 : decode B28 10 = .ok (.newarray .byte, 2) := by decide +kernel
theorem d28_12 : decode B28 12 = .ok (.astore 4, 2) := by decide +kernel
theorem d28_14 : decode B28 14 = .ok (.aload_n 0, 1) := by decide +kernel
theorem d28_15 : decode B28 15 = .ok (.iload_n 1, 1) := by decide +kernel
theorem d28_16 : decode B28 16 = .ok (.aload 4, 2) := by decide +kernel
theorem d28_18 : decode B28 18 = .ok (.iconst 0, 1) := by decide +kernel
theorem d28_19 : decode B28 19 = .ok (.aload_n 0, 1) := by decide +kernel
theorem d28_20 : decode B28 20 = .ok (.arraylength, 1) := by decide +kernel
theorem d28_21 : decode B28 21 = .ok (.iload_n 1, 1) := by decide +kernel
theorem d28_22 : decode B28 22 = .ok (.isub, 1) := by decide +kernel
theorem d28_23 : decode B28 23 = .ok (.iload_n 3, 1) := by decide +kernel
theorem d28_24 : decode B28 24 = .ok (.invokestatic 304, 3) := by decide +kernel
theorem d28_27 : decode B28 27 = .ok (.invokestatic 150, 3) := by decide +kernel
theorem d28_30 : decode B28 30 = .ok (.aload 4, 2) := by decide +kernel
theorem d28_32 : decode B28 32 = .ok (.areturn, 1) := by decide +kernel
def Q_crb (Z : State) (t : Addr) (N : Nat) (f : Nat → Int32) (n : Nat) (h0 : Heap) (n0 : Nat) (vz : Option Value) (hz : Heap) (Lz : List Loc) : Prop := ∃ b : Addr, vz = some (.ref b) ∧ Fr n0 Lz ∧ Ext h0 hz ∧ h0.size ≤ b ∧ Byt Z hz b n (fun j => if 0 ≤ j ∧ j < 0 + n then f (j - 0) else 0)
abbrev rr_crb : Room := ({ frames := 1, cells := 1, slots := 64, locals := 45 } : Room)
theorem pd19 : parseMethodDescriptor "(II)V" = some ⟨[.int, .int], none⟩ := by decide +kernel
set_option maxRecDepth 65536 in
set_option maxHeartbeats 40000000 in
theorem rm_crb (l : Launch) (Z : State) (a0 : Array Value) (hw : ∀ d ∈ tables_1, d.before a0 Z = true) (ws : List Jvm.Cond) (t : Addr) (N : Nat) (f : Nat → Int32) (n : Nat) (h0 : Heap) (n0 : Nat) (Z0 : n0 ≤ h0.size) (B0 : Byt Z h0 t N f) (hnN : n < N) (hN : N ≤ 64) :
    MetFree l mn29 (head1 (Jvm.Cond.code mn29 jdk_65_method_133_code 5 (some (.array .byte)) :: ws) rr_crb) (PreK Z #[(.ref t), (.int (0 : Int32)), (.int (Int32.ofNat n))] h0) (fun _ _ _ _ _ => True) (PosK (Q_crb Z t N f n h0 n0) rr_crb) := by
  refine startK n0 (L := #[vr t, vi (0 : Int32), vi (Int32.ofNat n), .unset, .unset]) (plainFor_of_name pn6) (fun _ => rfl) fun p e s m below meth c s₁ Bd hZ hh hx hby hml hown hnm hlk X0 e0 N0 => ?_
  have K0 : Keep h0 h0 [] := Keep.refl h0 []
  refine EndsK.go (fun _ kz => XS.iloadN X0.here hx rfl (hb hby d28_0) rfl (XS.iloadN X0.here hx rfl (hb hby d28_1) rfl kz)) ?_
  obtain ⟨_, T1, Lc1, X1, hQ1, st1⟩ := doneG X0 (Jvm.LawKit.callS X0 hx (y := mn28) hown (mvT hZ (tw hw 188 rfl)) (mvT hZ (tw hw 189 rfl)) (mvT hZ (tw hw 183 rfl)) (mvT hZ (tw hw 190 rfl)) (by decide) (backOf (W := 0) (rm_ckl l Z a0 hw [] n h0 n0 Z0 (by omega)) hZ (tw hw 190 rfl) (tw hw 183 rfl) (by decide) (by decide)) (g := (mkF m 2 #[vr t, vi (0 : Int32), vi (Int32.ofNat n), .unset, .unset] [(.int (Int32.ofNat n)), (.int (0 : Int32))])) rfl (by rw [hml]; rfl) (argsL := [(.int (0 : Int32)), (.int (Int32.ofNat n))]) (rest := []) (lenOf pd19 rfl) rfl (by show 2 * 0 + _ ≤ _; exact Nat.le_of_eq rfl) (hb hby d28_2) (fun _ _ => ⟨rfl, e0, (by decide : 0 + 0 ≤ _), (by decide : 0 + 0 ≤ _)⟩))
  obtain ⟨rfl, N1, e1⟩ := hQ1
  have M1 := Fr.app N0 N1
  refine EndsK.go st1 ?_
  refine EndsK.go (fun _ kz => XS.iloadN X1.here hx rfl (hb hby d28_5) rfl (XS.iloadN X1.here hx rfl (hb hby d28_6) rfl (XS.isub X1.here hx rfl (hb hby d28_7) rfl kz))) ?_
  refine EndsK.start (congrArg (fun z_ => (mkF m 8 #[vr t, vi (0 : Int32), vi (Int32.ofNat n), .unset, .unset] [(.int z_)])) (sub0 _ : ((Int32.ofNat n) - (0 : Int32)) = (Int32.ofNat n))) ?_
  refine EndsK.go (fun _ kz => XS.istoreN X1.here hx rfl (hb hby d28_8) rfl (l' := #[vr t, vi (0 : Int32), vi (Int32.ofNat n), vi (Int32.ofNat n), .unset]) rfl (XS.iloadN X1.here hx rfl (hb hby d28_9) rfl kz)) ?_
  obtain ⟨T2, h2, X2, e2, E2, B2, Eb2, st2⟩ := newB X1 hx hZ (tw hw 36 rfl) e1 (g := (mkF m 10 #[vr t, vi (0 : Int32), vi (Int32.ofNat n), vi (Int32.ofNat n), .unset] [(.int (Int32.ofNat n))])) rfl (hb hby d28_10) rfl (cap := 64) (by omega) (by decide) (by decide) (by decide)
  obtain ⟨b, g2⟩ : ∃ z, z = h0.size := ⟨_, rfl⟩
  rw [← g2] at B2 Eb2 st2
  refine EndsK.go st2 ?_
  have B2_t := B0.ext E2
  have K2 := K0.ext E2
  have sz_b : h0.size ≤ b := by rw [g2]; exact K0.1
  have ne_t_b : t ≠ b := Nat.ne_of_lt (by rw [g2]; exact B0.lt)
  have Z2 : n0 ≤ h2.size := Nat.le_trans Z0 E2.1
  have G2 : n0 ≤ b := by rw [g2]; exact Z0
  refine EndsK.go (fun _ kz => XS.astore X2.here hx rfl (hb hby d28_12) rfl rfl (l' := #[vr t, vi (0 : Int32), vi (Int32.ofNat n), vi (Int32.ofNat n), vr b]) rfl (XS.aloadN X2.here hx rfl (hb hby d28_14) rfl rfl (XS.iloadN X2.here hx rfl (hb hby d28_15) rfl (XS.aload X2.here hx rfl (hb hby d28_16) rfl rfl (XS.iconst X2.here hx rfl (hb hby d28_18) (XS.aloadN X2.here hx rfl (hb hby d28_19) rfl rfl kz)))))) ?_
  obtain ⟨ca3, Aa3, za3, la3, Ha3⟩ := id B2_t
  refine EndsK.go (fun tz kz => X2.arraylength hx (by rw [e2]; exact Aa3.1) (State.isArrayOf_alike hZ.alike Aa3.2.1) (g := (mkF m 20 #[vr t, vi (0 : Int32), vi (Int32.ofNat n), vi (Int32.ofNat n), vr b] [(.ref t), (.int (0 : Int32)), (.ref b), (.int (0 : Int32)), (.ref t)])) rfl rfl (hb hby d28_20) tz kz) ?_
  rw [(show ca3.slots.size.toInt32 = Int32.ofNat (N) from by rw [za3])]
  refine EndsK.go (fun _ kz => XS.iloadN X2.here hx rfl (hb hby d28_21) rfl (XS.isub X2.here hx rfl (hb hby d28_22) rfl kz)) ?_
  refine EndsK.start (congrArg (fun z_ => (mkF m 23 #[vr t, vi (0 : Int32), vi (Int32.ofNat n), vi (Int32.ofNat n), vr b] [(.int z_), (.int (0 : Int32)), (.ref b), (.int (0 : Int32)), (.ref t)])) (sub0 _ : ((Int32.ofNat (N)) - (0 : Int32)) = (Int32.ofNat (N)))) ?_
  refine EndsK.go (fun _ kz => XS.iloadN X2.here hx rfl (hb hby d28_23) rfl kz) ?_
  obtain ⟨_, T4, Lc4, X4, hQ4, st4⟩ := doneG X2 (Jvm.LawKit.callS X2 hx (y := mn4) hown (mvT hZ (tw hw 191 rfl)) (mvT hZ (tw hw 192 rfl)) (mvT hZ (tw hw 193 rfl)) (mvT hZ (tw hw 194 rfl)) (by decide) (backOf (W := 4) (rm_min l Z a0 hw [] (Int32.ofNat (N)) (Int32.ofNat n) h2 n0 Z2) hZ (tw hw 194 rfl) (tw hw 193 rfl) (by decide) (by decide)) (g := (mkF m 24 #[vr t, vi (0 : Int32), vi (Int32.ofNat n), vi (Int32.ofNat n), vr b] [(.int (Int32.ofNat n)), (.int (Int32.ofNat (N))), (.int (0 : Int32)), (.ref b), (.int (0 : Int32)), (.ref t)])) rfl (by rw [hml]; rfl) (argsL := [(.int (Int32.ofNat (N))), (.int (Int32.ofNat n))]) (rest := [(.int (0 : Int32)), (.ref b), (.int (0 : Int32)), (.ref t)]) (lenOf pd3 rfl) rfl (by show 2 * 0 + _ ≤ _; exact Nat.le_of_eq rfl) (hb hby d28_24) (fun _ _ => ⟨rfl, e2, (by decide : 0 + 0 + 1 + 0 ≤ _), (by decide : 0 + 0 + 64 + 0 ≤ _)⟩))
  obtain ⟨rfl, N4, e4⟩ := hQ4
  have M4 := Fr.app M1 N4
  refine EndsK.go st4 ?_
  refine EndsK.start (congrArg (fun z_ => (mkF m 27 #[vr t, vi (0 : Int32), vi (Int32.ofNat n), vi (Int32.ofNat n), vr b] [(.int z_), (.int (0 : Int32)), (.ref b), (.int (0 : Int32)), (.ref t)])) (minF_of2 (by omega) (by omega) hnN : (minF (Int32.ofNat (N)) (Int32.ofNat n)) = (Int32.ofNat n))) ?_
  obtain ⟨T5, h5, X5, e5, Kc5, B5, st5⟩ := copyB X4 hx hZ hown (tw hw 195 rfl) (tw hw 110 rfl) (tw hw 108 rfl) (tw hw 109 rfl) e4 (q := 0) (n := n) B2_t B2 (by omega) (by omega) (g := (mkF m 27 #[vr t, vi (0 : Int32), vi (Int32.ofNat n), vi (Int32.ofNat n), vr b] [(.int (Int32.ofNat n)), (.int (0 : Int32)), (.ref b), (.int (0 : Int32)), (.ref t)])) rfl (by rw [hml]; rfl) rfl (hb hby d28_27) (by decide) (by show 2 * 0 + _ ≤ _; decide)
  refine EndsK.go st5 ?_
  have N5 := Fr.app M4 (fun y hy => by rw [copyLocs_base hy]; exact G2 : Fr n0 (copyLocs b 0 n))
  have K5 := K2.trans Kc5 (allS (Or.inr sz_b) all0)
  have Z5 : n0 ≤ h5.size := Nat.le_trans Z2 Kc5.1
  have B5_t := B2_t.keep Kc5 (ninS ne_t_b nin0)
  have E5_b := Eb2.keep Kc5
  refine EndsK.go (fun _ kz => XS.aload X5.here hx rfl (hb hby d28_30) rfl rfl kz) ?_
  show EndsK p e below _ (T5.setTop (mkF m 32 #[vr t, vi (0 : Int32), vi (Int32.ofNat n), vi (Int32.ofNat n), vr b] [(.ref b)]))
  exact endR X5 hx Bd.returns rfl rfl (hb hby d28_32) hlk ⟨b, rfl, N5, by rw [e5]; exact ext_kept (ext_refl h0) K5 all0, sz_b, by rw [e5]; exact B5⟩ (by decide) (by decide)
abbrev B27 := jdk_65_method_132_code
theorem d27_0 : decode B27 0 = .ok (.iload_n 1, 1) := by decide +kernel
theorem d27_1 : decode B27 1 = .ok (.ifCond .ne 9, 3) := by decide +kernel
theorem d27_4 : decode B27 4 = .ok (.iload_n 2, 1) := by decide +kernel
theorem d27_5 : decode B27 5 = .ok (.aload_n 0, 1) := by decide +kernel
theorem d27_6 : decode B27 6 = .ok (.arraylength, 1) := by decide +kernel
theorem d27_7 : decode B27 7 = .ok (.if_icmp .eq 10, 3) := by decide +kernel
theorem d27_10 : decode B27 10 = .ok (.aload_n 0, 1) := by decide +kernel
theorem d27_11 : decode B27 11 = .ok (.iload_n 1, 1) := by decide +kernel
theorem d27_12 : decode B27 12 = .ok (.iload_n 2, 1) := by decide +kernel
theorem d27_13 : decode B27 13 = .ok (.invokestatic 339, 3) := by decide +kernel
theorem d27_16 : decode B27 16 = .ok (.areturn, 1) := by decide +kernel
theorem d27_17 : decode B27 17 = .ok (.aload_n 0, 1) := by decide +kernel
theorem d27_18 : decode B27 18 = .ok (.invokevirtual 310, 3) := by decide +kernel
theorem d27_21 : decode B27 21 = .ok (.checkcast 311, 3) := by decide +kernel
theorem d27_24 : decode B27 24 = .ok (.areturn, 1) := by decide +kernel
def Q_cor (Z : State) (t : Addr) (N : Nat) (f : Nat → Int32) (n : Nat) (h0 : Heap) (n0 : Nat) (vz : Option Value) (hz : Heap) (Lz : List Loc) : Prop := ∃ (b : Addr) (F : Nat → Int32), vz = some (.ref b) ∧ Fr n0 Lz ∧ Ext h0 hz ∧ h0.size ≤ b ∧ Byt Z hz b n F ∧ (∀ j, j < n → F j = f j)
abbrev rr_cor : Room := ({ frames := 2, cells := 1, slots := 64, locals := 65 } : Room)
theorem pd20 : parseMethodDescriptor "([BII)[B" = some ⟨[(.array .byte), .int, .int], some (.array .byte)⟩ := by decide +kernel
set_option maxRecDepth 65536 in
set_option maxHeartbeats 40000000 in
theorem rm_cor (l : Launch) (Z : State) (a0 : Array Value) (hw : ∀ d ∈ tables_1, d.before a0 Z = true) (ws : List Jvm.Cond) (t : Addr) (N : Nat) (f : Nat → Int32) (n : Nat) (h0 : Heap) (n0 : Nat) (Z0 : n0 ≤ h0.size) (B0 : Byt Z h0 t N f) (Et : Exa Z h0 t "[B") (hnN : n ≤ N) (hN : N ≤ 64) :
    MetFree l mn30 (head1 (Jvm.Cond.code mn30 jdk_65_method_132_code 3 (some (.array .byte)) :: ws) rr_cor) (PreK Z #[(.ref t), (.int (0 : Int32)), (.int (Int32.ofNat n))] h0) (fun _ _ _ _ _ => True) (PosK (Q_cor Z t N f n h0 n0) rr_cor) := by
  refine startK n0 (L := #[vr t, vi (0 : Int32), vi (Int32.ofNat n)]) (plainFor_of_name pn6) (fun _ => rfl) fun p e s m below meth c s₁ Bd hZ hh hx hby hml hown hnm hlk X0 e0 N0 => ?_
  by_cases hne : n = N
  · subst hne
    refine EndsK.go (fun _ kz => XS.iloadN X0.here hx rfl (hb hby d27_0) rfl (XS.ifNo X0.here hx rfl (hb hby d27_1) rfl ((if0 _ _).trans (teq (rfl : (0 : Int32) = (0 : Int32))).2) (XS.iloadN X0.here hx rfl (hb hby d27_4) rfl (XS.aloadN X0.here hx rfl (hb hby d27_5) rfl rfl kz)))) ?_
    obtain ⟨ca1, Aa1, za1, la1, Ha1⟩ := id B0
    refine EndsK.go (fun tz kz => X0.arraylength hx (by rw [e0]; exact Aa1.1) (State.isArrayOf_alike hZ.alike Aa1.2.1) (g := (mkF m 6 #[vr t, vi (0 : Int32), vi (Int32.ofNat n)] [(.ref t), (.int (Int32.ofNat n))])) rfl rfl (hb hby d27_6) tz kz) ?_
    rw [(show ca1.slots.size.toInt32 = Int32.ofNat (n) from by rw [za1])]
    refine EndsK.go (fun _ kz => XS.icmpYes X0.here hx rfl (pc0 := 7) (pc' := 17) rfl (hb hby d27_7) rfl (teq (rfl : (Int32.ofNat n) = (Int32.ofNat (n)))).1 (by decide) (by decide) (XS.aloadN X0.here hx rfl (hb hby d27_17) rfl rfl kz)) ?_
    obtain ⟨ca, Aa, za, la, Ha⟩ := id B0
    obtain ⟨T2, h2, X2, e2, E2, A2, Eb2, st2⟩ := cloneA X0 hx hZ hown (tw hw 362 rfl) (tw hw 363 rfl) (tw hw 367 rfl) (tw hw 365 rfl) (tw hw 366 rfl) (tw hw 368 rfl) e0 Aa Et (Byt.fit Aa za Ha) (g := (mkF m 18 #[vr t, vi (0 : Int32), vi (Int32.ofNat n)] [(.ref t)])) rfl (by rw [hml]; rfl) rfl (hb hby d27_18) (by decide) (W := 0) (cap := 64) (by show 2 * 0 + _ ≤ _; exact Nat.le_of_eq rfl) (by decide) (by rw [za]; exact hN) (by decide) (by decide)
    obtain ⟨b, gb⟩ : ∃ z, z = h0.size := ⟨_, rfl⟩
    rw [← gb] at A2 Eb2 st2
    refine EndsK.go st2 ?_
    obtain ⟨T3, X3, e3, st3⟩ := castY X2 hx hZ hown (tw hw 369 rfl) e2 (Ins.self Eb2) (g := (mkF m 21 #[vr t, vi (0 : Int32), vi (Int32.ofNat n)] [(.ref b)])) rfl rfl (hb hby d27_21)
    refine EndsK.go st3 ?_
    show EndsK p e below _ (T3.setTop (mkF m 24 #[vr t, vi (0 : Int32), vi (Int32.ofNat n)] [(.ref b)]))
    exact endR X3 hx Bd.returns rfl rfl (hb hby d27_24) hlk ⟨b, f, rfl, N0, by rw [e3]; exact E2, by rw [gb]; exact Nat.le_refl _, by rw [e3]; exact ⟨_, A2, za, la, Ha⟩, fun _ _ => rfl⟩ (by decide) (by decide)
  · refine EndsK.go (fun _ kz => XS.iloadN X0.here hx rfl (hb hby d27_0) rfl (XS.ifNo X0.here hx rfl (hb hby d27_1) rfl ((if0 _ _).trans (teq (rfl : (0 : Int32) = (0 : Int32))).2) (XS.iloadN X0.here hx rfl (hb hby d27_4) rfl (XS.aloadN X0.here hx rfl (hb hby d27_5) rfl rfl kz)))) ?_
    obtain ⟨ca1, Aa1, za1, la1, Ha1⟩ := id B0
    refine EndsK.go (fun tz kz => X0.arraylength hx (by rw [e0]; exact Aa1.1) (State.isArrayOf_alike hZ.alike Aa1.2.1) (g := (mkF m 6 #[vr t, vi (0 : Int32), vi (Int32.ofNat n)] [(.ref t), (.int (Int32.ofNat n))])) rfl rfl (hb hby d27_6) tz kz) ?_
    rw [(show ca1.slots.size.toInt32 = Int32.ofNat (N) from by rw [za1])]
    refine EndsK.go (fun _ kz => XS.icmpNo X0.here hx rfl (hb hby d27_7) rfl (feq (fun z => hne ((on_eq (by omega) (by omega)).mp z))).1 (XS.aloadN X0.here hx rfl (hb hby d27_10) rfl rfl (XS.iloadN X0.here hx rfl (hb hby d27_11) rfl (XS.iloadN X0.here hx rfl (hb hby d27_12) rfl kz)))) ?_
    obtain ⟨_, T2, Lc2, X2, hQ2, st2⟩ := doneG X0 (Jvm.LawKit.callS X0 hx (y := mn29) hown (mvT hZ (tw hw 185 rfl)) (mvT hZ (tw hw 186 rfl)) (mvT hZ (tw hw 183 rfl)) (mvT hZ (tw hw 187 rfl)) (by decide) (backOf (W := 0) (rm_crb l Z a0 hw [] t N f n h0 n0 Z0 B0 (by omega) hN) hZ (tw hw 187 rfl) (tw hw 183 rfl) (by decide) (by decide)) (g := (mkF m 13 #[vr t, vi (0 : Int32), vi (Int32.ofNat n)] [(.int (Int32.ofNat n)), (.int (0 : Int32)), (.ref t)])) rfl (by rw [hml]; rfl) (argsL := [(.ref t), (.int (0 : Int32)), (.int (Int32.ofNat n))]) (rest := []) (lenOf pd20 rfl) rfl (by show 2 * 0 + _ ≤ _; exact Nat.le_of_eq rfl) (hb hby d27_13) (fun _ _ => ⟨rfl, e0, (by decide : 0 + 1 ≤ _), (by decide : 0 + 64 ≤ _)⟩))
    obtain ⟨b2, rfl, N2, E2, q_s2, B2⟩ := hQ2
    have M2 := Fr.app N0 N2
    obtain ⟨h2, e2⟩ : ∃ z, T2.heap = z := ⟨_, rfl⟩
    rw [e2] at E2 B2
    have Z2 : n0 ≤ h2.size := Nat.le_trans Z0 E2.1
    have B2_t := B0.ext E2
    have E2_t := Et.ext E2
    refine EndsK.go st2 ?_
    show EndsK p e below _ (T2.setTop (mkF m 16 #[vr t, vi (0 : Int32), vi (Int32.ofNat n)] [(.ref b2)]))
    exact endR X2 hx Bd.returns rfl rfl (hb hby d27_16) hlk ⟨b2, (fun j => if 0 ≤ j ∧ j < 0 + n then f (j - 0) else 0), rfl, M2, by rw [e2]; exact E2, q_s2, by rw [e2]; exact B2, fun j hj => (show (if 0 ≤ j ∧ j < 0 + n then f (j - 0) else (0 : Int32)) = f j from if_pos (by omega))⟩ (by decide) (by decide)
abbrev B23 := jdk_68_method_64_code
theorem d23_0 : decode B23 0 = .ok (.aload_n 0, 1) := by decide +kernel
theorem d23_1 : decode B23 1 = .ok (.getfield 15, 3) := by decide +kernel
theorem d23_4 : decode B23 4 = .ok (.areturn, 1) := by decide +kernel
def Q_gval (Z : State) (x : Addr) (t : Addr) (h0 : Heap) (n0 : Nat) (vz : Option Value) (hz : Heap) (Lz : List Loc) : Prop := vz = some (.ref t) ∧ Fr n0 Lz ∧ hz = h0
abbrev rr_gval : Room := ({ frames := 0, cells := 0, slots := 0, locals := 0 } : Room)
set_option maxRecDepth 65536 in
set_option maxHeartbeats 40000000 in
theorem rm_gval (l : Launch) (Z : State) (a0 : Array Value) (hw : ∀ d ∈ tables_1, d.before a0 Z = true) (ws : List Jvm.Cond) (x : Addr) (t : Addr) (h0 : Heap) (n0 : Nat) (Z0 : n0 ≤ h0.size) (Fv : Fld Z h0 x "java/lang/AbstractStringBuilder" "value" "[B" (.ref t)) :
    MetFree l mn31 (head1 (Jvm.Cond.code mn31 jdk_68_method_64_code 1 (some (.array .byte)) :: ws) rr_gval) (PreK Z #[(.ref x)] h0) (fun _ _ _ _ _ => True) (PosK (Q_gval Z x t h0 n0) rr_gval) := by
  refine startK n0 (L := #[vr x]) (plainFor_of_name pn2) (fun _ => rfl) fun p e s m below meth c s₁ Bd hZ hh hx hby hml hown hnm hlk X0 e0 N0 => ?_
  refine EndsK.go (fun _ kz => XS.aloadN X0.here hx rfl (hb hby d23_0) rfl rfl kz) ?_
  obtain ⟨T1, X1, e1, st1⟩ := getF X0 hx hZ hown (host := "") (Or.inl (tw hw 68 rfl)) Via.refl e0 Fv (g := (mkF m 1 #[vr x] [(.ref x)])) rfl rfl (hb hby d23_1)
  refine EndsK.go st1 ?_
  show EndsK p e below _ (T1.setTop (mkF m 4 #[vr x] [(.ref t)]))
  exact endR X1 hx Bd.returns rfl rfl (hb hby d23_4) hlk ⟨rfl, N0, e1⟩ (by decide) (by decide)
abbrev B25 := jdk_68_method_6_code
theorem d25_0 : decode B25 0 = .ok (.aload_n 0, 1) := by decide +kernel
theorem d25_1 : decode B25 1 = .ok (.getfield 79, 3) := by decide +kernel
theorem d25_4 : decode B25 4 = .ok (.ireturn, 1) := by decide +kernel
def Q_asl (Z : State) (x : Addr) (k : Int32) (h0 : Heap) (n0 : Nat) (vz : Option Value) (hz : Heap) (Lz : List Loc) : Prop := vz = some (.int k) ∧ Fr n0 Lz ∧ hz = h0
abbrev rr_asl : Room := ({ frames := 0, cells := 0, slots := 0, locals := 0 } : Room)
set_option maxRecDepth 65536 in
set_option maxHeartbeats 40000000 in
theorem rm_asl (l : Launch) (Z : State) (a0 : Array Value) (hw : ∀ d ∈ tables_1, d.before a0 Z = true) (ws : List Jvm.Cond) (x : Addr) (k : Int32) (h0 : Heap) (n0 : Nat) (Z0 : n0 ≤ h0.size) (Fn : Fld Z h0 x "java/lang/AbstractStringBuilder" "count" "I" (.int k)) :
    MetFree l mn32 (head1 (Jvm.Cond.code mn32 jdk_68_method_6_code 1 (some .int) :: ws) rr_asl) (PreK Z #[(.ref x)] h0) (fun _ _ _ _ _ => True) (PosK (Q_asl Z x k h0 n0) rr_asl) := by
  refine startK n0 (L := #[vr x]) (plainFor_of_name pn2) (fun _ => rfl) fun p e s m below meth c s₁ Bd hZ hh hx hby hml hown hnm hlk X0 e0 N0 => ?_
  refine EndsK.go (fun _ kz => XS.aloadN X0.here hx rfl (hb hby d25_0) rfl rfl kz) ?_
  obtain ⟨T1, X1, e1, st1⟩ := getF X0 hx hZ hown (host := "") (Or.inl (tw hw 84 rfl)) Via.refl e0 Fn (g := (mkF m 1 #[vr x] [(.ref x)])) rfl rfl (hb hby d25_1)
  refine EndsK.go st1 ?_
  show EndsK p e below _ (T1.setTop (mkF m 4 #[vr x] [(.int k)]))
  exact endI X1 hx Bd.returns (hb hby d25_4) hlk ⟨rfl, N0, e1⟩ (by decide) (by decide)
abbrev B24 := jdk_67_method_93_code
theorem d24_0 : decode B24 0 = .ok (.aload_n 0, 1) := by decide +kernel
theorem d24_1 : decode B24 1 = .ok (.invokespecial 343, 3) := by decide +kernel
theorem d24_4 : decode B24 4 = .ok (.ireturn, 1) := by decide +kernel
def Q_sbl (Z : State) (x : Addr) (k : Int32) (h0 : Heap) (n0 : Nat) (vz : Option Value) (hz : Heap) (Lz : List Loc) : Prop := vz = some (.int k) ∧ Fr n0 Lz ∧ hz = h0
abbrev rr_sbl : Room := ({ frames := 1, cells := 0, slots := 0, locals := 14 } : Room)
set_option maxRecDepth 65536 in
set_option maxHeartbeats 40000000 in
theorem rm_sbl (l : Launch) (Z : State) (a0 : Array Value) (hw : ∀ d ∈ tables_1, d.before a0 Z = true) (ws : List Jvm.Cond) (x : Addr) (k : Int32) (h0 : Heap) (n0 : Nat) (Z0 : n0 ≤ h0.size) (Ex : Exa Z h0 x "java/lang/StringBuilder") (Fn : Fld Z h0 x "java/lang/AbstractStringBuilder" "count" "I" (.int k)) :
    MetFree l mn33 (head1 (Jvm.Cond.code mn33 jdk_67_method_93_code 1 (some .int) :: ws) rr_sbl) (PreK Z #[(.ref x)] h0) (fun _ _ _ _ _ => True) (PosK (Q_sbl Z x k h0 n0) rr_sbl) := by
  refine startK n0 (L := #[vr x]) (plainFor_of_name pn7) (fun _ => rfl) fun p e s m below meth c s₁ Bd hZ hh hx hby hml hown hnm hlk X0 e0 N0 => ?_
  refine EndsK.go (fun _ kz => XS.aloadN X0.here hx rfl (hb hby d24_0) rfl rfl kz) ?_
  obtain ⟨_, T1, Lc1, X1, hQ1, st1⟩ := doneT X0 (superBack X0 hx hZ (K := "java/lang/StringBuilder") (y := mn32) hown (tw hw 174 rfl) (same_of (tw hw 170 rfl) (tw hw 89 rfl) rfl (by decide)) (tw hw 170 rfl) (tw hw 82 rfl) (by decide) (backOf (W := 0) (rm_asl l Z a0 hw [] x k h0 n0 Z0 Fn) hZ (tw hw 175 rfl) (tw hw 48 rfl) (by decide) (by decide)) e0 (a := x) (Ins.self Ex) (g := (mkF m 1 #[vr x] [(.ref x)])) rfl (by rw [hml]; rfl) (tw hw 175 rfl) (argsL := []) (rest := []) (lenOf pd9 rfl) rfl (by show 2 * 0 + _ ≤ _; exact Nat.le_of_eq rfl) (hb hby d24_1) (fun _ _ => ⟨rfl, e0, (by decide : 0 + 0 ≤ _), (by decide : 0 + 0 ≤ _)⟩))
  obtain ⟨rfl, N1, e1⟩ := hQ1
  have M1 := Fr.app N0 N1
  refine EndsK.tr st1 ?_
  show EndsK p e below _ (T1.setTop (mkF m 4 #[vr x] [(.int k)]))
  exact endI X1 hx Bd.returns (hb hby d24_4) hlk ⟨rfl, M1, e1⟩ (by decide) (by decide)
abbrev B22 := jdk_42_method_150_code
theorem d22_0 : decode B22 0 = .ok (.aload_n 0, 1) := by decide +kernel
theorem d22_1 : decode B22 1 = .ok (.invokespecial 1, 3) := by decide +kernel
theorem d22_4 : decode B22 4 = .ok (.aload_n 1, 1) := by decide +kernel
theorem d22_5 : decode B22 5 = .ok (.invokevirtual 552, 3) := by decide +kernel
theorem d22_8 : decode B22 8 = .ok (.astore_n 3, 1) := by decide +kernel
theorem d22_9 : decode B22 9 = .ok (.aload_n 1, 1) := by decide +kernel
theorem d22_10 : decode B22 10 = .ok (.invokevirtual 549, 3) := by decide +kernel
theorem d22_13 : decode B22 13 = .ok (.istore 4, 2) := by decide +kernel
theorem d22_15 : decode B22 15 = .ok (.aload_n 1, 1) := by decide +kernel
theorem d22_16 : decode B22 16 = .ok (.invokevirtual 1047, 3) := by decide +kernel
theorem d22_19 : decode B22 19 = .ok (.ifCond .eq 22, 3) := by decide +kernel
theorem d22_22 : decode B22 22 = .ok (.aload_n 0, 1) := by decide +kernel
theorem d22_23 : decode B22 23 = .ok (.iconst 0, 1) := by decide +kernel
theorem d22_24 : decode B22 24 = .ok (.putfield 15, 3) := by decide +kernel
theorem d22_27 : decode B22 27 = .ok (.aload_n 0, 1) := by decide +kernel
theorem d22_28 : decode B22 28 = .ok (.aload_n 3, 1) := by decide +kernel
theorem d22_29 : decode B22 29 = .ok (.iconst 0, 1) := by decide +kernel
theorem d22_30 : decode B22 30 = .ok (.iload 4, 2) := by decide +kernel
theorem d22_32 : decode B22 32 = .ok (.invokestatic 54, 3) := by decide +kernel
theorem d22_35 : decode B22 35 = .ok (.putfield 9, 3) := by decide +kernel
theorem d22_38 : decode B22 38 = .ok (.goto 59, 3) := by decide +kernel
theorem d22_97 : decode B22 97 = .ok (.return_, 1) := by decide +kernel
def Q_si (Z : State) (y : Addr) (zc : Int32) (x : Addr) (t : Addr) (N : Nat) (f : Nat → Int32) (n : Nat) (h0 : Heap) (n0 : Nat) (vz : Option Value) (hz : Heap) (Lz : List Loc) : Prop := ∃ (b : Addr) (F : Nat → Int32), vz = none ∧ Fr n0 Lz ∧ Keep h0 hz [y] ∧ Exa Z hz y "java/lang/String" ∧ Fld Z hz y "java/lang/String" "coder" "B" (.int (0 : Int32)) ∧ Fld Z hz y "java/lang/String" "value" "[B" (.ref b) ∧ Byt Z hz b n F ∧ (∀ j, j < n → F j = f j)
abbrev rr_si : Room := ({ frames := 3, cells := 1, slots := 64, locals := 85 } : Room)
theorem pd21 : parseMethodDescriptor "()[B" = some ⟨[], some (.array .byte)⟩ := by decide +kernel
set_option maxRecDepth 65536 in
set_option maxHeartbeats 40000000 in
theorem rm_si (l : Launch) (Z : State) (a0 : Array Value) (hw : ∀ d ∈ tables_1, d.before a0 Z = true) (ws : List Jvm.Cond) (y : Addr) (zc : Int32) (x : Addr) (t : Addr) (N : Nat) (f : Nat → Int32) (n : Nat) (h0 : Heap) (n0 : Nat) (Z0 : n0 ≤ h0.size) (SC : Sta Z h0 "java/lang/String" "COMPACT_STRINGS" "Z" (.int zc)) (hzc : ¬ (zc = (0 : Int32))) (Ey : Exa Z h0 y "java/lang/String") (Fyv : Fld Z h0 y "java/lang/String" "value" "[B" .null) (Fyc : Fld Z h0 y "java/lang/String" "coder" "B" (.int (0 : Int32))) (gy : n0 ≤ y) (S0 : SBt Z h0 x t N f n) (nyx : y ≠ x) (nyt : y ≠ t) :
    MetFree l mn34 (head1 (Jvm.Cond.code mn34 jdk_42_method_150_code 5 none :: ws) rr_si) (PreK Z #[(.ref y), (.ref x), .null] h0) (fun _ _ _ _ _ => True) (PosK (Q_si Z y zc x t N f n h0 n0) rr_si) := by
  refine startK n0 (L := #[vr y, vr x, .val .null, .unset, .unset]) (plainFor_of_name pn1) (fun _ => rfl) fun p e s m below meth c s₁ Bd hZ hh hx hby hml hown hnm hlk X0 e0 N0 => ?_
  obtain ⟨Ex, Fv, Fc, Fn, B0, Et, hN, nxt, hnN⟩ := id S0
  have K0 : Keep h0 h0 [y] := Keep.refl h0 [y]
  refine EndsK.go (fun _ kz => XS.aloadN X0.here hx rfl (hb hby d22_0) rfl rfl kz) ?_
  obtain ⟨T1, X1, e1, st1⟩ := initO X0 hx hZ hown (tw hw 162 rfl) (tw hw 19 rfl) (tw hw 20 rfl) e0 (g := (mkF m 1 #[vr y, vr x, .val .null, .unset, .unset] [(.ref y)])) rfl (by rw [hml]; rfl) rfl (hb hby d22_1) (by decide) (W := 0) (by show 2 * 0 + _ ≤ _; exact Nat.le_of_eq rfl) (by decide)
  refine EndsK.go st1 ?_
  refine EndsK.go (fun _ kz => XS.aloadN X1.here hx rfl (hb hby d22_4) rfl rfl kz) ?_
  obtain ⟨cq2, kq2, qa2, qb2, qc2⟩ := isOf hZ e1 Ex
  obtain ⟨_, T2, Lc2, X2, hQ2, st2⟩ := doneT X1 (X1.virtualBack hx (y := mn31) (z := mn31) hown (mvT hZ (tw hw 163 rfl)) (mvT hZ (tw hw 164 rfl)) (notFace_of_selects (args := #[]) (mvT hZ (tw hw 166 rfl))) (mvT hZ (tw hw 166 rfl)) (mvT hZ (tw hw 165 rfl)) (by decide) (backOf (W := 0) (rm_gval l Z a0 hw [] x t h0 n0 Z0 Fv) hZ (tw hw 167 rfl) (tw hw 48 rfl) (by decide) (by decide)) qa2 qc2 (g := (mkF m 5 #[vr y, vr x, .val .null, .unset, .unset] [(.ref x)])) rfl (by rw [hml]; rfl) (Steps.refl _) (argsL := []) (rest := []) (lenOf pd21 rfl) rfl (by show 2 * 0 + _ ≤ _; exact Nat.le_of_eq rfl) (hb hby d22_5) (fun _ _ => ⟨rfl, e1, (by decide : 0 + 0 ≤ _), (by decide : 0 + 0 ≤ _)⟩))
  obtain ⟨rfl, N2, e2⟩ := hQ2
  have M2 := Fr.app N0 N2
  refine EndsK.tr st2 ?_
  refine EndsK.go (fun _ kz => XS.astoreN X2.here hx rfl (hb hby d22_8) rfl rfl (l' := #[vr y, vr x, .val .null, vr t, .unset]) rfl (XS.aloadN X2.here hx rfl (hb hby d22_9) rfl rfl kz)) ?_
  obtain ⟨cq3, kq3, qa3, qb3, qc3⟩ := isOf hZ e2 Ex
  obtain ⟨_, T3, Lc3, X3, hQ3, st3⟩ := doneT X2 (X2.virtualBack hx (y := mn32) (z := mn33) hown (mvT hZ (tw hw 168 rfl)) (mvT hZ (tw hw 169 rfl)) (notFace_by (args := #[]) (mvT hZ (tw hw 89 rfl)) rfl) (mvT hZ (tw hw 171 rfl)) (mvT hZ (tw hw 172 rfl)) (by decide) (backOf (W := 0) (rm_sbl l Z a0 hw [] x (Int32.ofNat n) h0 n0 Z0 Ex Fn) hZ (tw hw 173 rfl) (tw hw 32 rfl) (by decide) (by decide)) qa3 qc3 (g := (mkF m 10 #[vr y, vr x, .val .null, vr t, .unset] [(.ref x)])) rfl (by rw [hml]; rfl) (Steps.refl _) (argsL := []) (rest := []) (lenOf pd9 rfl) rfl (by show 2 * 0 + _ ≤ _; exact Nat.le_of_eq rfl) (hb hby d22_10) (fun _ _ => ⟨rfl, e2, (by decide : 0 + 0 + 0 ≤ _), (by decide : 0 + 0 + 0 ≤ _)⟩))
  obtain ⟨rfl, N3, e3⟩ := hQ3
  have M3 := Fr.app M2 N3
  refine EndsK.tr st3 ?_
  refine EndsK.go (fun _ kz => XS.istore X3.here hx rfl (hb hby d22_13) rfl (l' := #[vr y, vr x, .val .null, vr t, vi (Int32.ofNat n)]) rfl (XS.aloadN X3.here hx rfl (hb hby d22_15) rfl rfl kz)) ?_
  obtain ⟨cq4, kq4, qa4, qb4, qc4⟩ := isOf hZ e3 Ex
  obtain ⟨_, T4, Lc4, X4, hQ4, st4⟩ := doneT X3 (X3.virtualBack hx (y := mn7) (z := mn7) hown (mvT hZ (tw hw 176 rfl)) (mvT hZ (tw hw 177 rfl)) (notFace_of_selects (args := #[]) (mvT hZ (tw hw 179 rfl))) (mvT hZ (tw hw 179 rfl)) (mvT hZ (tw hw 178 rfl)) (by decide) (backOf (W := 0) (rm_isl l Z a0 hw [] x zc h0 n0 Z0 SC hzc Fc) hZ (tw hw 180 rfl) (tw hw 48 rfl) (by decide) (by decide)) qa4 qc4 (g := (mkF m 16 #[vr y, vr x, .val .null, vr t, vi (Int32.ofNat n)] [(.ref x)])) rfl (by rw [hml]; rfl) (Steps.refl _) (argsL := []) (rest := []) (lenOf pd14 rfl) rfl (by show 2 * 0 + _ ≤ _; exact Nat.le_of_eq rfl) (hb hby d22_16) (fun _ _ => ⟨rfl, e3, (by decide : 0 + 0 + 0 + 0 ≤ _), (by decide : 0 + 0 + 0 + 0 ≤ _)⟩))
  obtain ⟨rfl, N4, e4⟩ := hQ4
  have M4 := Fr.app M3 N4
  refine EndsK.tr st4 ?_
  refine EndsK.go (fun _ kz => XS.ifNo X4.here hx rfl (hb hby d22_19) rfl ((if0 _ _).trans (feq (by decide : ¬ ((1 : Int32) = (0 : Int32)))).1) (XS.aloadN X4.here hx rfl (hb hby d22_22) rfl rfl (XS.iconst X4.here hx rfl (hb hby d22_23) kz))) ?_
  obtain ⟨T5, h5, X5, e5, W5, st5⟩ := putF X4 hx hZ hown (host := "") (Or.inl (tw hw 63 rfl)) Via.refl e4 Fyc Ey (Or.inr ⟨(tw hw 38 rfl), rfl, hnm⟩) (tw hw 35 rfl) (ty := .byte) (by decide) rfl rfl (g := (mkF m 24 #[vr y, vr x, .val .null, vr t, vi (Int32.ofNat n)] [(.int (0 : Int32)), (.ref y)])) rfl rfl (hb hby d22_24)
  refine EndsK.go st5 ?_
  have N5 := Fr.snoc X5 M4 gy
  have E5_x := Ex.wr W5
  have F5_value_x := Fv.other W5 (Or.inl (Ne.symm nyx))
  have F5_coder_x := Fc.other W5 (Or.inl (Ne.symm nyx))
  have F5_count_x := Fn.other W5 (Or.inl (Ne.symm nyx))
  have B5_t := B0.other W5 (Ne.symm nyt)
  have E5_t := Et.wr W5
  have E5_y := Ey.wr W5
  have F5_value_y := Fyv.other W5 (Or.inr (slot_ne (Or.inr (tw hw 37 rfl)) (Or.inr (tw hw 38 rfl)) (by decide) (t := (.array .byte)) (t' := .byte) (by decide) (by decide)))
  have F5_coder := Fyc.same W5
  have Z5 : n0 ≤ h5.size := Nat.le_trans Z0 (Nat.le_of_eq W5.size.symm)
  have K5 := K0.wr W5 (Or.inl (List.mem_singleton.mpr rfl))
  refine EndsK.go (fun _ kz => XS.aloadN X5.here hx rfl (hb hby d22_27) rfl rfl (XS.aloadN X5.here hx rfl (hb hby d22_28) rfl rfl (XS.iconst X5.here hx rfl (hb hby d22_29) (XS.iload X5.here hx rfl (hb hby d22_30) rfl kz)))) ?_
  obtain ⟨_, T6, Lc6, X6, hQ6, st6⟩ := doneG X5 (Jvm.LawKit.callS X5 hx (y := mn30) hown (mvT hZ (tw hw 181 rfl)) (mvT hZ (tw hw 182 rfl)) (mvT hZ (tw hw 183 rfl)) (mvT hZ (tw hw 184 rfl)) (by decide) (backOf (W := 1) (rm_cor l Z a0 hw [] t N f n h5 n0 Z5 B5_t E5_t hnN (by omega)) hZ (tw hw 184 rfl) (tw hw 183 rfl) (by decide) (by decide)) (g := (mkF m 32 #[vr y, vr x, .val .null, vr t, vi (Int32.ofNat n)] [(.int (Int32.ofNat n)), (.int (0 : Int32)), (.ref t), (.ref y)])) rfl (by rw [hml]; rfl) (argsL := [(.ref t), (.int (0 : Int32)), (.int (Int32.ofNat n))]) (rest := [(.ref y)]) (lenOf pd20 rfl) rfl (by show 2 * 0 + _ ≤ _; exact Nat.le_of_eq rfl) (hb hby d22_32) (fun _ _ => ⟨rfl, e5, (by decide : 0 + 0 + 0 + 0 + 1 ≤ _), (by decide : 0 + 0 + 0 + 0 + 64 ≤ _)⟩))
  obtain ⟨b6, F6, rfl, N6, E6, q_s6, B6, q_f6⟩ := hQ6
  have M6 := Fr.app N5 N6
  obtain ⟨h6, e6⟩ : ∃ z, T6.heap = z := ⟨_, rfl⟩
  rw [e6] at E6 B6
  have Z6 : n0 ≤ h6.size := Nat.le_trans Z5 E6.1
  have K6 := K5.ext E6
  have E6_x := E5_x.ext E6
  have F6_value_x := F5_value_x.ext E6
  have F6_coder_x := F5_coder_x.ext E6
  have F6_count_x := F5_count_x.ext E6
  have B6_t := B5_t.ext E6
  have E6_t := E5_t.ext E6
  have E6_y := E5_y.ext E6
  have F6_value_y := F5_value_y.ext E6
  have F6_coder_y := F5_coder.ext E6
  have nb6 : y ≠ b6 := Nat.ne_of_lt (Nat.lt_of_lt_of_le E5_y.lt q_s6)
  refine EndsK.go st6 ?_
  obtain ⟨T7, h7, X7, e7, W7, st7⟩ := putF X6 hx hZ hown (host := "") (Or.inl (tw hw 56 rfl)) Via.refl e6 F6_value_y E6_y (Or.inr ⟨(tw hw 37 rfl), rfl, hnm⟩) (tw hw 35 rfl) (ty := (.array .byte)) (by decide) rfl rfl (g := (mkF m 35 #[vr y, vr x, .val .null, vr t, vi (Int32.ofNat n)] [(.ref b6), (.ref y)])) rfl rfl (hb hby d22_35)
  refine EndsK.go st7 ?_
  have N7 := Fr.snoc X7 M6 gy
  have E7_x := E6_x.wr W7
  have F7_value_x := F6_value_x.other W7 (Or.inl (Ne.symm nyx))
  have F7_coder_x := F6_coder_x.other W7 (Or.inl (Ne.symm nyx))
  have F7_count_x := F6_count_x.other W7 (Or.inl (Ne.symm nyx))
  have B7_t := B6_t.other W7 (Ne.symm nyt)
  have E7_t := E6_t.wr W7
  have E7_y := E6_y.wr W7
  have F7_value := F6_value_y.same W7
  have F7_coder_y := F6_coder_y.other W7 (Or.inr (slot_ne (Or.inr (tw hw 38 rfl)) (Or.inr (tw hw 37 rfl)) (by decide) (t := .byte) (t' := (.array .byte)) (by decide) (by decide)))
  have B7_b6 := B6.other W7 (Ne.symm nb6)
  have Z7 : n0 ≤ h7.size := Nat.le_trans Z6 (Nat.le_of_eq W7.size.symm)
  have K7 := K6.wr W7 (Or.inl (List.mem_singleton.mpr rfl))
  refine EndsK.go (fun _ kz => XS.goto X7.here hx rfl (pc0 := 38) (pc' := 97) rfl (hb hby d22_38) (by decide) (by decide) kz) ?_
  show EndsK p e below _ (T7.setTop (mkF m 97 #[vr y, vr x, .val .null, vr t, vi (Int32.ofNat n)] []))
  exact endV X7 hx Bd.returns (hb hby d22_97) hlk ⟨b6, F6, rfl, N7, by rw [e7]; exact K7, by rw [e7]; exact E7_y, by rw [e7]; exact F7_coder_y, by rw [e7]; exact F7_value, by rw [e7]; exact B7_b6, q_f6⟩ (by decide) (by decide)
abbrev B21 := jdk_42_method_53_code
theorem d21_0 : decode B21 0 = .ok (.aload_n 0, 1) := by decide +kernel
theorem d21_1 : decode B21 1 = .ok (.aload_n 1, 1) := by decide +kernel
theorem d21_2 : decode B21 2 = .ok (.aconst_null, 1) := by decide +kernel
theorem d21_3 : decode B21 3 = .ok (.invokespecial 489, 3) := by decide +kernel
theorem d21_6 : decode B21 6 = .ok (.return_, 1) := by decide +kernel
def Q_si2 (Z : State) (y : Addr) (zc : Int32) (x : Addr) (t : Addr) (N : Nat) (f : Nat → Int32) (n : Nat) (h0 : Heap) (n0 : Nat) (vz : Option Value) (hz : Heap) (Lz : List Loc) : Prop := ∃ (b : Addr) (F : Nat → Int32), vz = none ∧ Fr n0 Lz ∧ Keep h0 hz [y] ∧ Exa Z hz y "java/lang/String" ∧ Fld Z hz y "java/lang/String" "coder" "B" (.int (0 : Int32)) ∧ Fld Z hz y "java/lang/String" "value" "[B" (.ref b) ∧ Byt Z hz b n F ∧ (∀ j, j < n → F j = f j)
abbrev rr_si2 : Room := ({ frames := 4, cells := 1, slots := 64, locals := 102 } : Room)
theorem pd22 : parseMethodDescriptor "(Ljava/lang/AbstractStringBuilder;Ljava/lang/Void;)V" = some ⟨[(.object "java/lang/AbstractStringBuilder"), (.object "java/lang/Void")], none⟩ := by decide +kernel
set_option maxRecDepth 65536 in
set_option maxHeartbeats 40000000 in
theorem rm_si2 (l : Launch) (Z : State) (a0 : Array Value) (hw : ∀ d ∈ tables_1, d.before a0 Z = true) (ws : List Jvm.Cond) (y : Addr) (zc : Int32) (x : Addr) (t : Addr) (N : Nat) (f : Nat → Int32) (n : Nat) (h0 : Heap) (n0 : Nat) (Z0 : n0 ≤ h0.size) (SC : Sta Z h0 "java/lang/String" "COMPACT_STRINGS" "Z" (.int zc)) (hzc : ¬ (zc = (0 : Int32))) (Ey : Exa Z h0 y "java/lang/String") (Fyv : Fld Z h0 y "java/lang/String" "value" "[B" .null) (Fyc : Fld Z h0 y "java/lang/String" "coder" "B" (.int (0 : Int32))) (gy : n0 ≤ y) (S0 : SBt Z h0 x t N f n) (nyx : y ≠ x) (nyt : y ≠ t) :
    MetFree l mn35 (head1 (Jvm.Cond.code mn35 jdk_42_method_53_code 2 none :: ws) rr_si2) (PreK Z #[(.ref y), (.ref x)] h0) (fun _ _ _ _ _ => True) (PosK (Q_si2 Z y zc x t N f n h0 n0) rr_si2) := by
  refine startK n0 (L := #[vr y, vr x]) (plainFor_of_name pn1) (fun _ => rfl) fun p e s m below meth c s₁ Bd hZ hh hx hby hml hown hnm hlk X0 e0 N0 => ?_
  refine EndsK.go (fun _ kz => XS.aloadN X0.here hx rfl (hb hby d21_0) rfl rfl (XS.aloadN X0.here hx rfl (hb hby d21_1) rfl rfl (XS.aconstNull X0.here hx rfl (hb hby d21_2) kz))) ?_
  obtain ⟨_, T1, Lc1, X1, hQ1, st1⟩ := doneT X0 (X0.specialBack hx (y := mn34) rfl hown (mvT hZ (tw hw 159 rfl)) (mvT hZ (tw hw 160 rfl)) (mvT hZ (tw hw 161 rfl)) (by decide) (backOf (W := 0) (rm_si l Z a0 hw [] y zc x t N f n h0 n0 Z0 SC hzc Ey Fyv Fyc gy S0 nyx nyt) hZ (tw hw 161 rfl) (tw hw 34 rfl) (by decide) (by decide)) (g := (mkF m 3 #[vr y, vr x] [.null, (.ref x), (.ref y)])) rfl (by rw [hml]; rfl) (Steps.refl _) (a := y) (argsL := [(.ref x), .null]) (rest := []) (lenOf pd22 rfl) rfl (by show 2 * 0 + _ ≤ _; exact Nat.le_of_eq rfl) (hb hby d21_3) (fun _ _ => ⟨rfl, e0, (by decide : 0 + 1 ≤ _), (by decide : 0 + 64 ≤ _)⟩))
  obtain ⟨b1, F1, rfl, N1, Kc1, Ey1, Fc1, Fv1, B1, q_f1⟩ := hQ1
  have M1 := Fr.app N0 N1
  obtain ⟨h1, e1⟩ : ∃ z, T1.heap = z := ⟨_, rfl⟩
  rw [e1] at Kc1 Ey1 Fc1 Fv1 B1
  have Z1 : n0 ≤ h1.size := Nat.le_trans Z0 Kc1.1
  refine EndsK.tr st1 ?_
  show EndsK p e below _ (T1.setTop (mkF m 6 #[vr y, vr x] []))
  exact endV X1 hx Bd.returns (hb hby d21_6) hlk ⟨b1, F1, rfl, M1, by rw [e1]; exact Kc1, by rw [e1]; exact Ey1, by rw [e1]; exact Fc1, by rw [e1]; exact Fv1, by rw [e1]; exact B1, q_f1⟩ (by decide) (by decide)
abbrev B20 := jdk_67_method_42_code
theorem d20_0 : decode B20 0 = .ok (.new 18, 3) := by decide +kernel
theorem d20_3 : decode B20 3 = .ok (.dup, 1) := by decide +kernel
theorem d20_4 : decode B20 4 = .ok (.aload_n 0, 1) := by decide +kernel
theorem d20_5 : decode B20 5 = .ok (.invokespecial 137, 3) := by decide +kernel
theorem d20_8 : decode B20 8 = .ok (.areturn, 1) := by decide +kernel
def Q_tos (Z : State) (zc : Int32) (x : Addr) (t : Addr) (N : Nat) (f : Nat → Int32) (n : Nat) (h0 : Heap) (n0 : Nat) (vz : Option Value) (hz : Heap) (Lz : List Loc) : Prop := ∃ (a b : Addr) (F : Nat → Int32), vz = some (.ref a) ∧ Fr n0 Lz ∧ Ext h0 hz ∧ Exa Z hz a "java/lang/String" ∧ Fld Z hz a "java/lang/String" "coder" "B" (.int (0 : Int32)) ∧ Fld Z hz a "java/lang/String" "value" "[B" (.ref b) ∧ Byt Z hz b n F ∧ (∀ j, j < n → F j = f j)
abbrev rr_tos : Room := ({ frames := 5, cells := 2, slots := 72, locals := 118 } : Room)
theorem pd23 : parseMethodDescriptor "(Ljava/lang/StringBuilder;)V" = some ⟨[(.object "java/lang/StringBuilder")], none⟩ := by decide +kernel
set_option maxRecDepth 65536 in
set_option maxHeartbeats 40000000 in
theorem rm_tos (l : Launch) (Z : State) (a0 : Array Value) (hw : ∀ d ∈ tables_1, d.before a0 Z = true) (ws : List Jvm.Cond) (zc : Int32) (x : Addr) (t : Addr) (N : Nat) (f : Nat → Int32) (n : Nat) (h0 : Heap) (n0 : Nat) (Z0 : n0 ≤ h0.size) (SC : Sta Z h0 "java/lang/String" "COMPACT_STRINGS" "Z" (.int zc)) (hzc : ¬ (zc = (0 : Int32))) (S0 : SBt Z h0 x t N f n) :
    MetFree l mn36 (head1 (Jvm.Cond.code mn36 jdk_67_method_42_code 1 (some (.object "java/lang/String")) :: ws) rr_tos) (PreK Z #[(.ref x)] h0) (fun _ _ _ _ _ => True) (PosK (Q_tos Z zc x t N f n h0 n0) rr_tos) := by
  refine startK n0 (L := #[vr x]) (plainFor_of_name pn7) (fun _ => rfl) fun p e s m below meth c s₁ Bd hZ hh hx hby hml hown hnm hlk X0 e0 N0 => ?_
  obtain ⟨Ex, Fv, Fc, Fn, B0, Et, hN, nxt, hnN⟩ := id S0
  have K0 : Keep h0 h0 [] := Keep.refl h0 []
  obtain ⟨T1, h1, X1, e1, E1, A1, D1, -, st1⟩ := newO X0 hx hZ hown (tw hw 154 rfl) (tw hw 35 rfl) (tw hw 34 rfl) e0 (g := (mkF m 0 #[vr x] [])) rfl (hb hby d20_0) (by decide) (by decide)
  obtain ⟨a, g1⟩ : ∃ z, z = h0.size := ⟨_, rfl⟩
  rw [← g1] at A1 D1 st1
  refine EndsK.go st1 ?_
  have E1_x := Ex.ext E1
  have F1_value_x := Fv.ext E1
  have F1_coder_x := Fc.ext E1
  have F1_count_x := Fn.ext E1
  have B1_t := B0.ext E1
  have E1_t := Et.ext E1
  have S1_COMPACT_STRINGS := SC.ext E1
  have F1_value : Fld Z h1 a "java/lang/String" "value" "[B" .null := D1 (Or.inr (tw hw 37 rfl)) (ty := (.array .byte)) (by decide)
  have F1_coder : Fld Z h1 a "java/lang/String" "coder" "B" (.int (0 : Int32)) := D1 (Or.inr (tw hw 38 rfl)) (ty := .byte) (by decide)
  have Z1 : n0 ≤ h1.size := Nat.le_trans Z0 E1.1
  have G1 : n0 ≤ a := by rw [g1]; exact Z0
  have K1 := K0.ext E1
  have sz_a : h0.size ≤ a := by rw [g1]; exact K0.1
  have ne_x_a : x ≠ a := Nat.ne_of_lt (by rw [g1]; exact Ex.lt)
  have ne_t_a : t ≠ a := Nat.ne_of_lt (by rw [g1]; exact B0.lt)
  refine EndsK.go (fun _ kz => XS.dup X1.here hx rfl (hb hby d20_3) rfl rfl (XS.aloadN X1.here hx rfl (hb hby d20_4) rfl rfl kz)) ?_
  obtain ⟨_, T2, Lc2, X2, hQ2, st2⟩ := doneT X1 (X1.specialBack hx (y := mn35) rfl hown (mvT hZ (tw hw 155 rfl)) (mvT hZ (tw hw 156 rfl)) (mvT hZ (tw hw 158 rfl)) (by decide) (backOf (W := 1) (rm_si2 l Z a0 hw [] a zc x t N f n h1 n0 Z1 S1_COMPACT_STRINGS hzc A1 F1_value F1_coder G1 ⟨E1_x, F1_value_x, F1_coder_x, F1_count_x, B1_t, E1_t, hN, nxt, hnN⟩ (Ne.symm ne_x_a) (Ne.symm ne_t_a)) hZ (tw hw 158 rfl) (tw hw 34 rfl) (by decide) (by decide)) (g := (mkF m 5 #[vr x] [(.ref x), (.ref a), (.ref a)])) rfl (by rw [hml]; rfl) (Steps.refl _) (a := a) (argsL := [(.ref x)]) (rest := [(.ref a)]) (lenOf pd23 rfl) rfl (by show 2 * 0 + _ ≤ _; exact Nat.le_of_eq rfl) (hb hby d20_5) (fun _ _ => ⟨rfl, e1, (by decide : 0 + 1 + 1 ≤ _), (by decide : 0 + 4 + 64 ≤ _)⟩))
  obtain ⟨b2, F2, rfl, N2, Kc2, Ey2, Fc2, Fv2, B2, q_f2⟩ := hQ2
  have M2 := Fr.app N0 N2
  obtain ⟨h2, e2⟩ : ∃ z, T2.heap = z := ⟨_, rfl⟩
  rw [e2] at Kc2 Ey2 Fc2 Fv2 B2
  have Z2 : n0 ≤ h2.size := Nat.le_trans Z1 Kc2.1
  have K2 := K1.trans Kc2 (allS (Or.inr sz_a) all0)
  have E2_x := E1_x.keep Kc2
  have F2_x_value := F1_value_x.keep Kc2 (ninS ne_x_a nin0)
  have F2_x_coder := F1_coder_x.keep Kc2 (ninS ne_x_a nin0)
  have F2_x_count := F1_count_x.keep Kc2 (ninS ne_x_a nin0)
  have B2_t := B1_t.keep Kc2 (ninS ne_t_a nin0)
  have E2_t := E1_t.keep Kc2
  have E2_a := A1.keep Kc2
  refine EndsK.tr st2 ?_
  show EndsK p e below _ (T2.setTop (mkF m 8 #[vr x] [(.ref a)]))
  exact endR X2 hx Bd.returns rfl rfl (hb hby d20_8) hlk ⟨a, b2, F2, rfl, M2, by rw [e2]; exact ext_kept (ext_refl h0) K2 all0, by rw [e2]; exact Ey2, by rw [e2]; exact Fc2, by rw [e2]; exact Fv2, by rw [e2]; exact B2, q_f2⟩ (by decide) (by decide)
abbrev B32 := jdk_42_method_154_code
theorem d32_0 : decode B32 0 = .ok (.getstatic 38, 3) := by decide +kernel
theorem d32_3 : decode B32 3 = .ok (.ifCond .eq 14, 3) := by decide +kernel
theorem d32_6 : decode B32 6 = .ok (.aload_n 0, 1) := by decide +kernel
theorem d32_7 : decode B32 7 = .ok (.getfield 15, 3) := by decide +kernel
theorem d32_10 : decode B32 10 = .ok (.ifCond .ne 7, 3) := by decide +kernel
theorem d32_13 : decode B32 13 = .ok (.iconst 1, 1) := by decide +kernel
theorem d32_14 : decode B32 14 = .ok (.goto 4, 3) := by decide +kernel
theorem d32_18 : decode B32 18 = .ok (.ireturn, 1) := by decide +kernel
def Q_sisl (Z : State) (x : Addr) (zc : Int32) (h0 : Heap) (n0 : Nat) (vz : Option Value) (hz : Heap) (Lz : List Loc) : Prop := vz = some (.int 1) ∧ Fr n0 Lz ∧ hz = h0
abbrev rr_sisl : Room := ({ frames := 0, cells := 0, slots := 0, locals := 0 } : Room)
set_option maxRecDepth 65536 in
set_option maxHeartbeats 40000000 in
theorem rm_sisl (l : Launch) (Z : State) (a0 : Array Value) (hw : ∀ d ∈ tables_1, d.before a0 Z = true) (ws : List Jvm.Cond) (x : Addr) (zc : Int32) (h0 : Heap) (n0 : Nat) (Z0 : n0 ≤ h0.size) (SC : Sta Z h0 "java/lang/String" "COMPACT_STRINGS" "Z" (.int zc)) (hzc : ¬ (zc = (0 : Int32))) (Fc : Fld Z h0 x "java/lang/String" "coder" "B" (.int (0 : Int32))) :
    MetFree l mn37 (head1 (Jvm.Cond.code mn37 jdk_42_method_154_code 1 (some .boolean) :: ws) rr_sisl) (PreK Z #[(.ref x)] h0) (fun _ _ _ _ _ => True) (PosK (Q_sisl Z x zc h0 n0) rr_sisl) := by
  refine startK n0 (L := #[vr x]) (plainFor_of_name pn1) (fun _ => rfl) fun p e s m below meth c s₁ Bd hZ hh hx hby hml hown hnm hlk X0 e0 N0 => ?_
  obtain ⟨T1, X1, e1, st1⟩ := getS2 X0 hx hZ hown (host := "") (Or.inl (tw hw 62 rfl)) Via.refl e0 SC (g := (mkF m 0 #[vr x] [])) rfl (hb hby d32_0)
  refine EndsK.go st1 ?_
  refine EndsK.go (fun _ kz => XS.ifNo X1.here hx rfl (hb hby d32_3) rfl ((if0 _ _).trans (feq hzc).1) (XS.aloadN X1.here hx rfl (hb hby d32_6) rfl rfl kz)) ?_
  obtain ⟨T2, X2, e2, st2⟩ := getF X1 hx hZ hown (host := "") (Or.inl (tw hw 63 rfl)) Via.refl e1 Fc (g := (mkF m 7 #[vr x] [(.ref x)])) rfl rfl (hb hby d32_7)
  refine EndsK.go st2 ?_
  refine EndsK.go (fun _ kz => XS.ifNo X2.here hx rfl (hb hby d32_10) rfl ((if0 _ _).trans (teq (rfl : (0 : Int32) = (0 : Int32))).2) (XS.iconst X2.here hx rfl (hb hby d32_13) (XS.goto X2.here hx rfl (pc0 := 14) (pc' := 18) rfl (hb hby d32_14) (by decide) (by decide) kz))) ?_
  show EndsK p e below _ (T2.setTop (mkF m 18 #[vr x] [(.int (1 : Int32))]))
  exact endN X2 hx (t := .boolean) Bd.returns (by simp) (hb hby d32_18) hlk ⟨rfl, N0, e2⟩ (by decide) (by decide)
abbrev B35 := jdk_41_method_11_code
theorem d35_0 : decode B35 0 = .ok (.iload_n 0, 1) := by decide +kernel
theorem d35_1 : decode B35 1 = .ok (.ifCond .lt 8, 3) := by decide +kernel
theorem d35_4 : decode B35 4 = .ok (.iload_n 0, 1) := by decide +kernel
theorem d35_5 : decode B35 5 = .ok (.iload_n 1, 1) := by decide +kernel
theorem d35_6 : decode B35 6 = .ok (.if_icmp .lt 10, 3) := by decide +kernel
theorem d35_16 : decode B35 16 = .ok (.iload_n 0, 1) := by decide +kernel
theorem d35_17 : decode B35 17 = .ok (.ireturn, 1) := by decide +kernel
theorem pn8 : plainName "jdk/internal/util/Preconditions" = true := by first | (simp [plainName, overriddenIn]; done) | decide +kernel
def Q_pckN (Z : State) (j : Nat) (N : Nat) (h0 : Heap) (n0 : Nat) (vz : Option Value) (hz : Heap) (Lz : List Loc) : Prop := vz = some (.int (Int32.ofNat j)) ∧ Fr n0 Lz ∧ hz = h0
abbrev rr_pckN : Room := ({ frames := 0, cells := 0, slots := 0, locals := 0 } : Room)
set_option maxRecDepth 65536 in
set_option maxHeartbeats 40000000 in
theorem rm_pckN (l : Launch) (Z : State) (a0 : Array Value) (hw : ∀ d ∈ tables_1, d.before a0 Z = true) (ws : List Jvm.Cond) (j : Nat) (N : Nat) (h0 : Heap) (n0 : Nat) (Z0 : n0 ≤ h0.size) (hj : j < N) (hN : N ≤ 64) :
    MetFree l mn38 (head1 (Jvm.Cond.code mn38 jdk_41_method_11_code 3 (some .int) :: ws) rr_pckN) (PreK Z #[(.int (Int32.ofNat j)), (.int (Int32.ofNat N)), .null] h0) (fun _ _ _ _ _ => True) (PosK (Q_pckN Z j N h0 n0) rr_pckN) := by
  refine startK n0 (L := #[vi (Int32.ofNat j), vi (Int32.ofNat N), .val .null]) (plainFor_of_name pn8) (fun _ => rfl) fun p e s m below meth c s₁ Bd hZ hh hx hby hml hown hnm hlk X0 e0 N0 => ?_
  refine EndsK.go (fun _ kz => XS.iloadN X0.here hx rfl (hb hby d35_0) rfl (XS.ifNo X0.here hx rfl (hb hby d35_1) rfl ((if0 _ _).trans (flt (not_neg (by omega))).1) (XS.iloadN X0.here hx rfl (hb hby d35_4) rfl (XS.iloadN X0.here hx rfl (hb hby d35_5) rfl (XS.icmpYes X0.here hx rfl (pc0 := 6) (pc' := 16) rfl (hb hby d35_6) rfl (tlt ((on_lt (by omega) (by omega)).mpr hj)).1 (by decide) (by decide) (XS.iloadN X0.here hx rfl (hb hby d35_16) rfl kz)))))) ?_
  show EndsK p e below _ (s₁.setTop (mkF m 17 #[vi (Int32.ofNat j), vi (Int32.ofNat N), .val .null] [(.int (Int32.ofNat j))]))
  exact endI X0 hx Bd.returns (hb hby d35_17) hlk ⟨rfl, N0, e0⟩ (by decide) (by decide)
def Q_pckR (Z : State) (j : Nat) (N : Nat) (bf : Addr) (h0 : Heap) (n0 : Nat) (vz : Option Value) (hz : Heap) (Lz : List Loc) : Prop := vz = some (.int (Int32.ofNat j)) ∧ Fr n0 Lz ∧ hz = h0
abbrev rr_pckR : Room := ({ frames := 0, cells := 0, slots := 0, locals := 0 } : Room)
set_option maxRecDepth 65536 in
set_option maxHeartbeats 40000000 in
theorem rm_pckR (l : Launch) (Z : State) (a0 : Array Value) (hw : ∀ d ∈ tables_1, d.before a0 Z = true) (ws : List Jvm.Cond) (j : Nat) (N : Nat) (bf : Addr) (h0 : Heap) (n0 : Nat) (Z0 : n0 ≤ h0.size) (hj : j < N) (hN : N ≤ 64) :
    MetFree l mn38 (head1 (Jvm.Cond.code mn38 jdk_41_method_11_code 3 (some .int) :: ws) rr_pckR) (PreK Z #[(.int (Int32.ofNat j)), (.int (Int32.ofNat N)), (.ref bf)] h0) (fun _ _ _ _ _ => True) (PosK (Q_pckR Z j N bf h0 n0) rr_pckR) := by
  refine startK n0 (L := #[vi (Int32.ofNat j), vi (Int32.ofNat N), vr bf]) (plainFor_of_name pn8) (fun _ => rfl) fun p e s m below meth c s₁ Bd hZ hh hx hby hml hown hnm hlk X0 e0 N0 => ?_
  refine EndsK.go (fun _ kz => XS.iloadN X0.here hx rfl (hb hby d35_0) rfl (XS.ifNo X0.here hx rfl (hb hby d35_1) rfl ((if0 _ _).trans (flt (not_neg (by omega))).1) (XS.iloadN X0.here hx rfl (hb hby d35_4) rfl (XS.iloadN X0.here hx rfl (hb hby d35_5) rfl (XS.icmpYes X0.here hx rfl (pc0 := 6) (pc' := 16) rfl (hb hby d35_6) rfl (tlt ((on_lt (by omega) (by omega)).mpr hj)).1 (by decide) (by decide) (XS.iloadN X0.here hx rfl (hb hby d35_16) rfl kz)))))) ?_
  show EndsK p e below _ (s₁.setTop (mkF m 17 #[vi (Int32.ofNat j), vi (Int32.ofNat N), vr bf] [(.int (Int32.ofNat j))]))
  exact endI X0 hx Bd.returns (hb hby d35_17) hlk ⟨rfl, N0, e0⟩ (by decide) (by decide)
abbrev B34 := jdk_42_method_155_code
theorem d34_0 : decode B34 0 = .ok (.iload_n 0, 1) := by decide +kernel
theorem d34_1 : decode B34 1 = .ok (.iload_n 1, 1) := by decide +kernel
theorem d34_2 : decode B34 2 = .ok (.getstatic 1053, 3) := by decide +kernel
theorem d34_5 : decode B34 5 = .ok (.invokestatic 1059, 3) := by decide +kernel
theorem d34_8 : decode B34 8 = .ok (.pop, 1) := by decide +kernel
theorem d34_9 : decode B34 9 = .ok (.return_, 1) := by decide +kernel
def Q_cki (Z : State) (j : Nat) (N : Nat) (u : Value) (h0 : Heap) (n0 : Nat) (vz : Option Value) (hz : Heap) (Lz : List Loc) : Prop := vz = none ∧ Fr n0 Lz ∧ hz = h0
abbrev rr_cki : Room := ({ frames := 1, cells := 0, slots := 0, locals := 16 } : Room)
theorem pd24 : parseMethodDescriptor "(IILjava/util/function/BiFunction;)I" = some ⟨[.int, .int, (.object "java/util/function/BiFunction")], some .int⟩ := by decide +kernel
set_option maxRecDepth 65536 in
set_option maxHeartbeats 40000000 in
theorem rm_cki (l : Launch) (Z : State) (a0 : Array Value) (hw : ∀ d ∈ tables_1, d.before a0 Z = true) (ws : List Jvm.Cond) (j : Nat) (N : Nat) (u : Value) (h0 : Heap) (n0 : Nat) (Z0 : n0 ≤ h0.size) (hj : j < N) (hN : N ≤ 64) (SF : Sta Z h0 "jdk/internal/util/Preconditions" "SIOOBE_FORMATTER" "Ljava/util/function/BiFunction;" u) (hu : u.isRef = true) :
    MetFree l mn39 (head1 (Jvm.Cond.code mn39 jdk_42_method_155_code 2 none :: ws) rr_cki) (PreK Z #[(.int (Int32.ofNat j)), (.int (Int32.ofNat N))] h0) (fun _ _ _ _ _ => True) (PosK (Q_cki Z j N u h0 n0) rr_cki) := by
  refine startK n0 (L := #[vi (Int32.ofNat j), vi (Int32.ofNat N)]) (plainFor_of_name pn1) (fun _ => rfl) fun p e s m below meth c s₁ Bd hZ hh hx hby hml hown hnm hlk X0 e0 N0 => ?_
  rcases ref_cases hu with rfl | ⟨bf, rfl⟩
  · refine EndsK.go (fun _ kz => XS.iloadN X0.here hx rfl (hb hby d34_0) rfl (XS.iloadN X0.here hx rfl (hb hby d34_1) rfl kz)) ?_
    obtain ⟨T1, X1, e1, st1⟩ := getS2 X0 hx hZ hown (host := "") (Or.inl (tw hw 214 rfl)) Via.refl e0 SF (g := (mkF m 2 #[vi (Int32.ofNat j), vi (Int32.ofNat N)] [(.int (Int32.ofNat N)), (.int (Int32.ofNat j))])) rfl (hb hby d34_2)
    refine EndsK.go st1 ?_
    obtain ⟨_, T2, Lc2, X2, hQ2, st2⟩ := doneG X1 (Jvm.LawKit.callS X1 hx (y := mn38) hown (mvT hZ (tw hw 216 rfl)) (mvT hZ (tw hw 217 rfl)) (mvT hZ (tw hw 215 rfl)) (mvT hZ (tw hw 218 rfl)) (by decide) (backOf (W := 0) (rm_pckN l Z a0 hw [] j N h0 n0 Z0 hj hN) hZ (tw hw 218 rfl) (tw hw 215 rfl) (by decide) (by decide)) (g := (mkF m 5 #[vi (Int32.ofNat j), vi (Int32.ofNat N)] [.null, (.int (Int32.ofNat N)), (.int (Int32.ofNat j))])) rfl (by rw [hml]; rfl) (argsL := [(.int (Int32.ofNat j)), (.int (Int32.ofNat N)), .null]) (rest := []) (lenOf pd24 rfl) rfl (by show 2 * 0 + _ ≤ _; exact Nat.le_of_eq rfl) (hb hby d34_5) (fun _ _ => ⟨rfl, e1, (by decide : 0 + 0 ≤ _), (by decide : 0 + 0 ≤ _)⟩))
    obtain ⟨rfl, N2, e2⟩ := hQ2
    have M2 := Fr.app N0 N2
    refine EndsK.go st2 ?_
    refine EndsK.go (fun _ kz => XS.pop X2.here hx rfl (hb hby d34_8) rfl rfl kz) ?_
    show EndsK p e below _ (T2.setTop (mkF m 9 #[vi (Int32.ofNat j), vi (Int32.ofNat N)] []))
    exact endV X2 hx Bd.returns (hb hby d34_9) hlk ⟨rfl, M2, e2⟩ (by decide) (by decide)
  · refine EndsK.go (fun _ kz => XS.iloadN X0.here hx rfl (hb hby d34_0) rfl (XS.iloadN X0.here hx rfl (hb hby d34_1) rfl kz)) ?_
    obtain ⟨T1, X1, e1, st1⟩ := getS2 X0 hx hZ hown (host := "") (Or.inl (tw hw 214 rfl)) Via.refl e0 SF (g := (mkF m 2 #[vi (Int32.ofNat j), vi (Int32.ofNat N)] [(.int (Int32.ofNat N)), (.int (Int32.ofNat j))])) rfl (hb hby d34_2)
    refine EndsK.go st1 ?_
    obtain ⟨_, T2, Lc2, X2, hQ2, st2⟩ := doneG X1 (Jvm.LawKit.callS X1 hx (y := mn38) hown (mvT hZ (tw hw 216 rfl)) (mvT hZ (tw hw 217 rfl)) (mvT hZ (tw hw 215 rfl)) (mvT hZ (tw hw 218 rfl)) (by decide) (backOf (W := 0) (rm_pckR l Z a0 hw [] j N bf h0 n0 Z0 hj hN) hZ (tw hw 218 rfl) (tw hw 215 rfl) (by decide) (by decide)) (g := (mkF m 5 #[vi (Int32.ofNat j), vi (Int32.ofNat N)] [(.ref bf), (.int (Int32.ofNat N)), (.int (Int32.ofNat j))])) rfl (by rw [hml]; rfl) (argsL := [(.int (Int32.ofNat j)), (.int (Int32.ofNat N)), (.ref bf)]) (rest := []) (lenOf pd24 rfl) rfl (by show 2 * 0 + _ ≤ _; exact Nat.le_of_eq rfl) (hb hby d34_5) (fun _ _ => ⟨rfl, e1, (by decide : 0 + 0 ≤ _), (by decide : 0 + 0 ≤ _)⟩))
    obtain ⟨rfl, N2, e2⟩ := hQ2
    have M2 := Fr.app N0 N2
    refine EndsK.go st2 ?_
    refine EndsK.go (fun _ kz => XS.pop X2.here hx rfl (hb hby d34_8) rfl rfl kz) ?_
    show EndsK p e below _ (T2.setTop (mkF m 9 #[vi (Int32.ofNat j), vi (Int32.ofNat N)] []))
    exact endV X2 hx Bd.returns (hb hby d34_9) hlk ⟨rfl, M2, e2⟩ (by decide) (by decide)
abbrev B33 := jdk_43_method_2_code
theorem d33_0 : decode B33 0 = .ok (.iload_n 1, 1) := by decide +kernel
theorem d33_1 : decode B33 1 = .ok (.aload_n 0, 1) := by decide +kernel
theorem d33_2 : decode B33 2 = .ok (.arraylength, 1) := by decide +kernel
theorem d33_3 : decode B33 3 = .ok (.invokestatic 9, 3) := by decide +kernel
theorem d33_6 : decode B33 6 = .ok (.aload_n 0, 1) := by decide +kernel
theorem d33_7 : decode B33 7 = .ok (.iload_n 1, 1) := by decide +kernel
theorem d33_8 : decode B33 8 = .ok (.baload, 1) := by decide +kernel
theorem d33_9 : decode B33 9 = .ok (.sipush 255, 3) := by decide +kernel
theorem d33_12 : decode B33 12 = .ok (.iand, 1) := by decide +kernel
theorem d33_13 : decode B33 13 = .ok (.i2c, 1) := by decide +kernel
theorem d33_14 : decode B33 14 = .ok (.ireturn, 1) := by decide +kernel
def Q_lch (Z : State) (t : Addr) (f : Nat → Int32) (j : Nat) (N : Nat) (u : Value) (h0 : Heap) (n0 : Nat) (vz : Option Value) (hz : Heap) (Lz : List Loc) : Prop := vz = some (.int (nar .char ((f j &&& 255).toUInt32.toUInt16.toUInt32.toInt32))) ∧ Fr n0 Lz ∧ hz = h0
abbrev rr_lch : Room := ({ frames := 2, cells := 0, slots := 0, locals := 31 } : Room)
set_option maxRecDepth 65536 in
set_option maxHeartbeats 40000000 in
theorem rm_lch (l : Launch) (Z : State) (a0 : Array Value) (hw : ∀ d ∈ tables_1, d.before a0 Z = true) (ws : List Jvm.Cond) (t : Addr) (f : Nat → Int32) (j : Nat) (N : Nat) (u : Value) (h0 : Heap) (n0 : Nat) (Z0 : n0 ≤ h0.size) (B0 : Byt Z h0 t N f) (hj : j < N) (hN : N ≤ 64) (SF : Sta Z h0 "jdk/internal/util/Preconditions" "SIOOBE_FORMATTER" "Ljava/util/function/BiFunction;" u) (hu : u.isRef = true) :
    MetFree l mn40 (head1 (Jvm.Cond.code mn40 jdk_43_method_2_code 2 (some .char) :: ws) rr_lch) (PreK Z #[(.ref t), (.int (Int32.ofNat j))] h0) (fun _ _ _ _ _ => True) (PosK (Q_lch Z t f j N u h0 n0) rr_lch) := by
  refine startK n0 (L := #[vr t, vi (Int32.ofNat j)]) (plainFor_of_name pn3) (fun _ => rfl) fun p e s m below meth c s₁ Bd hZ hh hx hby hml hown hnm hlk X0 e0 N0 => ?_
  obtain ⟨ca, Aa, za, la, Ha⟩ := id B0
  refine EndsK.go (fun _ kz => XS.iloadN X0.here hx rfl (hb hby d33_0) rfl (XS.aloadN X0.here hx rfl (hb hby d33_1) rfl rfl kz)) ?_
  obtain ⟨ca1, Aa1, za1, la1, Ha1⟩ := id B0
  refine EndsK.go (fun tz kz => X0.arraylength hx (by rw [e0]; exact Aa1.1) (State.isArrayOf_alike hZ.alike Aa1.2.1) (g := (mkF m 2 #[vr t, vi (Int32.ofNat j)] [(.ref t), (.int (Int32.ofNat j))])) rfl rfl (hb hby d33_2) tz kz) ?_
  rw [(show ca1.slots.size.toInt32 = Int32.ofNat (N) from by rw [za1])]
  obtain ⟨_, T2, Lc2, X2, hQ2, st2⟩ := doneG X0 (Jvm.LawKit.callS X0 hx (y := mn39) hown (mvT hZ (tw hw 211 rfl)) (mvT hZ (tw hw 212 rfl)) (mvT hZ (tw hw 34 rfl)) (mvT hZ (tw hw 213 rfl)) (by decide) (backOf (W := 0) (rm_cki l Z a0 hw [] j N u h0 n0 Z0 hj hN SF hu) hZ (tw hw 213 rfl) (tw hw 34 rfl) (by decide) (by decide)) (g := (mkF m 3 #[vr t, vi (Int32.ofNat j)] [(.int (Int32.ofNat (N))), (.int (Int32.ofNat j))])) rfl (by rw [hml]; rfl) (argsL := [(.int (Int32.ofNat j)), (.int (Int32.ofNat (N)))]) (rest := []) (lenOf pd19 rfl) rfl (by show 2 * 0 + _ ≤ _; exact Nat.le_of_eq rfl) (hb hby d33_3) (fun _ _ => ⟨rfl, e0, (by decide : 0 + 0 ≤ _), (by decide : 0 + 0 ≤ _)⟩))
  obtain ⟨rfl, N2, e2⟩ := hQ2
  have M2 := Fr.app N0 N2
  refine EndsK.go st2 ?_
  refine EndsK.go (fun _ kz => XS.aloadN X2.here hx rfl (hb hby d33_6) rfl rfl (XS.iloadN X2.here hx rfl (hb hby d33_7) rfl kz)) ?_
  refine EndsK.go (fun tz kz => X2.baloadBytes hx (j := (Int32.ofNat j)) (v := .int (f j)) (by rw [e2]; exact Aa.1) (State.isArrayOf_alike hZ.alike Aa.2.1) Aa.2.2 (byt_in za la hj) (byt_at Ha la hj) (g := (mkF m 8 #[vr t, vi (Int32.ofNat j)] [(.int (Int32.ofNat j)), (.ref t)])) rfl rfl (hb hby d33_8) tz kz) ?_
  refine EndsK.go (fun _ kz => XS.sipush X2.here hx rfl (hb hby d33_9) (XS.iand X2.here hx rfl (hb hby d33_12) rfl (XS.i2c X2.here hx rfl (hb hby d33_13) rfl kz))) ?_
  show EndsK p e below _ (T2.setTop (mkF m 14 #[vr t, vi (Int32.ofNat j)] [(.int ((f j) &&& (255 : Int32)).toUInt32.toUInt16.toUInt32.toInt32)]))
  exact endN X2 hx (t := .char) Bd.returns (by simp) (hb hby d33_14) hlk ⟨rfl, M2, e2⟩ (by decide) (by decide)
abbrev B31 := jdk_42_method_56_code
theorem d31_0 : decode B31 0 = .ok (.aload_n 0, 1) := by decide +kernel
theorem d31_1 : decode B31 1 = .ok (.invokevirtual 492, 3) := by decide +kernel
theorem d31_4 : decode B31 4 = .ok (.ifCond .eq 12, 3) := by decide +kernel
theorem d31_7 : decode B31 7 = .ok (.aload_n 0, 1) := by decide +kernel
theorem d31_8 : decode B31 8 = .ok (.getfield 9, 3) := by decide +kernel
theorem d31_11 : decode B31 11 = .ok (.iload_n 1, 1) := by decide +kernel
theorem d31_12 : decode B31 12 = .ok (.invokestatic 495, 3) := by decide +kernel
theorem d31_15 : decode B31 15 = .ok (.ireturn, 1) := by decide +kernel
def Q_chA (Z : State) (zc : Int32) (o : Addr) (d : Addr) (u : Value) (y : Addr) (t : Addr) (f : Nat → Int32) (j : Nat) (N : Nat) (h0 : Heap) (n0 : Nat) (vz : Option Value) (hz : Heap) (Lz : List Loc) : Prop := vz = some (.int (chF (f j))) ∧ Fr n0 Lz ∧ hz = h0
abbrev rr_chA : Room := ({ frames := 3, cells := 0, slots := 0, locals := 45 } : Room)
theorem pd25 : parseMethodDescriptor "([BI)C" = some ⟨[(.array .byte), .int], some .char⟩ := by decide +kernel
set_option maxRecDepth 65536 in
set_option maxHeartbeats 40000000 in
theorem rm_chA (l : Launch) (Z : State) (a0 : Array Value) (hw : ∀ d ∈ tables_1, d.before a0 Z = true) (ws : List Jvm.Cond) (zc : Int32) (o : Addr) (d : Addr) (u : Value) (y : Addr) (t : Addr) (f : Nat → Int32) (j : Nat) (N : Nat) (h0 : Heap) (n0 : Nat) (Z0 : n0 ≤ h0.size) (J0 : JS Z h0 zc o d u) (Ey : Exa Z h0 y "java/lang/String") (Fyc : Fld Z h0 y "java/lang/String" "coder" "B" (.int (0 : Int32))) (Fyv : Fld Z h0 y "java/lang/String" "value" "[B" (.ref t)) (B0 : Byt Z h0 t N f) (hj : j < N) (hN : N ≤ 64) :
    MetFree l mn41 (head1 (Jvm.Cond.code mn41 jdk_42_method_56_code 2 (some .char) :: ws) rr_chA) (PreK Z #[(.ref y), (.int (Int32.ofNat j))] h0) (fun _ _ _ _ _ => True) (PosK (Q_chA Z zc o d u y t f j N h0 n0) rr_chA) := by
  refine startK n0 (L := #[vr y, vi (Int32.ofNat j)]) (plainFor_of_name pn1) (fun _ => rfl) fun p e s m below meth c s₁ Bd hZ hh hx hby hml hown hnm hlk X0 e0 N0 => ?_
  refine EndsK.go (fun _ kz => XS.aloadN X0.here hx rfl (hb hby d31_0) rfl rfl kz) ?_
  obtain ⟨cq1, kq1, qa1, qb1, qc1⟩ := isOf hZ e0 Ey
  obtain ⟨_, T1, Lc1, X1, hQ1, st1⟩ := doneT X0 (X0.virtualBack hx (y := mn37) (z := mn37) hown (mvT hZ (tw hw 202 rfl)) (mvT hZ (tw hw 203 rfl)) (notFace_of_selects (args := #[]) (mvT hZ (tw hw 205 rfl))) (mvT hZ (tw hw 205 rfl)) (mvT hZ (tw hw 204 rfl)) (by decide) (backOf (W := 0) (rm_sisl l Z a0 hw [] y zc h0 n0 Z0 J0.SC J0.hzc Fyc) hZ (tw hw 206 rfl) (tw hw 34 rfl) (by decide) (by decide)) qa1 qc1 (g := (mkF m 1 #[vr y, vi (Int32.ofNat j)] [(.ref y)])) rfl (by rw [hml]; rfl) (Steps.refl _) (argsL := []) (rest := []) (lenOf pd14 rfl) rfl (by show 2 * 0 + _ ≤ _; exact Nat.le_of_eq rfl) (hb hby d31_1) (fun _ _ => ⟨rfl, e0, (by decide : 0 + 0 ≤ _), (by decide : 0 + 0 ≤ _)⟩))
  obtain ⟨rfl, N1, e1⟩ := hQ1
  have M1 := Fr.app N0 N1
  refine EndsK.tr st1 ?_
  refine EndsK.go (fun _ kz => XS.ifNo X1.here hx rfl (hb hby d31_4) rfl ((if0 _ _).trans (feq (by decide : ¬ ((1 : Int32) = (0 : Int32)))).1) (XS.aloadN X1.here hx rfl (hb hby d31_7) rfl rfl kz)) ?_
  obtain ⟨T2, X2, e2, st2⟩ := getF X1 hx hZ hown (host := "") (Or.inl (tw hw 56 rfl)) Via.refl e1 Fyv (g := (mkF m 8 #[vr y, vi (Int32.ofNat j)] [(.ref y)])) rfl rfl (hb hby d31_8)
  refine EndsK.go st2 ?_
  refine EndsK.go (fun _ kz => XS.iloadN X2.here hx rfl (hb hby d31_11) rfl kz) ?_
  obtain ⟨_, T3, Lc3, X3, hQ3, st3⟩ := doneG X2 (Jvm.LawKit.callS X2 hx (y := mn40) hown (mvT hZ (tw hw 207 rfl)) (mvT hZ (tw hw 208 rfl)) (mvT hZ (tw hw 209 rfl)) (mvT hZ (tw hw 210 rfl)) (by decide) (backOf (W := 0) (rm_lch l Z a0 hw [] t f j N u h0 n0 Z0 B0 hj hN J0.SF J0.hu) hZ (tw hw 210 rfl) (tw hw 209 rfl) (by decide) (by decide)) (g := (mkF m 12 #[vr y, vi (Int32.ofNat j)] [(.int (Int32.ofNat j)), (.ref t)])) rfl (by rw [hml]; rfl) (argsL := [(.ref t), (.int (Int32.ofNat j))]) (rest := []) (lenOf pd25 rfl) rfl (by show 2 * 0 + _ ≤ _; exact Nat.le_of_eq rfl) (hb hby d31_12) (fun _ _ => ⟨rfl, e2, (by decide : 0 + 0 + 0 ≤ _), (by decide : 0 + 0 + 0 ≤ _)⟩))
  obtain ⟨rfl, N3, e3⟩ := hQ3
  have M3 := Fr.app M1 N3
  refine EndsK.go st3 ?_
  show EndsK p e below _ (T3.setTop (mkF m 15 #[vr y, vi (Int32.ofNat j)] [(.int (nar .char ((f j &&& 255).toUInt32.toUInt16.toUInt32.toInt32)))]))
  exact endN X3 hx (t := .char) Bd.returns (by simp) (hb hby d31_15) hlk ⟨rfl, M3, e3⟩ (by decide) (by decide)
theorem sg1 {v : Int32} (h : v < 0) : sg v = 1 := by unfold sg; rw [if_pos h]
theorem sg0 {v : Int32} (h : ¬ v < 0) : sg v = 0 := by unfold sg; rw [if_neg h]
def rj (v : Int32) : Nat → Int64
  | 0 => magF v
  | j + 1 => rj v j / 10
theorem rj_succ (v : Int32) (j : Nat) : rj v j / 10 = rj v (j + 1) := rfl
theorem rj_int (v : Int32) (j : Nat) : (rj v j).toInt = ((mg v / 10 ^ j : Nat) : Int) := by
  induction j with
  | zero => rw [Nat.pow_zero, Nat.div_one]; exact magF_int v
  | succ j ih => rw [dpow]; exact ldiv10 ih
theorem seg_digit {F : Nat → Int32} {pp j : Nat} {v : Int32} (hS : Sg F pp v) (hj : j < dg v) : chF (F (pp + 1 + sl v - 1 - j)) = digF (rj v j) :=
  (chF_of (hS.2.2 j hj) (by omega)).trans (digF_eq (rj_int v j)).symm
theorem seg_in {N pp : Nat} {v : Int32} (j : Nat) (hp : pp + 1 + sl v ≤ N) : pp + 1 + sl v - 1 - j < N := by omega
theorem seg_sub {pp j : Nat} {v : Int32} (hj : j < dg v) : j ≤ pp + 1 + sl v - 1 := by
  have : dg v ≤ sl v := Nat.le_add_left _ _
  omega
abbrev B57 := method_6_code
theorem d57_0 : decode B57 0 = .ok (.aload_n 0, 1) := by decide +kernel
theorem d57_1 : decode B57 1 = .ok (.iload_n 1, 1) := by decide +kernel
theorem d57_2 : decode B57 2 = .ok (.invokevirtual 35, 3) := by decide +kernel
theorem d57_5 : decode B57 5 = .ok (.bipush 32, 2) := by decide +kernel
theorem d57_7 : decode B57 7 = .ok (.if_icmp .eq 5, 3) := by decide +kernel
theorem d57_12 : decode B57 12 = .ok (.iload_n 1, 1) := by decide +kernel
theorem d57_13 : decode B57 13 = .ok (.iconst 1, 1) := by decide +kernel
theorem d57_14 : decode B57 14 = .ok (.iadd, 1) := by decide +kernel
theorem d57_15 : decode B57 15 = .ok (.istore_n 3, 1) := by decide +kernel
theorem d57_16 : decode B57 16 = .ok (.iload_n 2, 1) := by decide +kernel
theorem d57_17 : decode B57 17 = .ok (.ifCond .ge 19, 3) := by decide +kernel
theorem d57_20 : decode B57 20 = .ok (.aload_n 0, 1) := by decide +kernel
theorem d57_21 : decode B57 21 = .ok (.iload_n 3, 1) := by decide +kernel
theorem d57_22 : decode B57 22 = .ok (.invokevirtual 35, 3) := by decide +kernel
theorem d57_25 : decode B57 25 = .ok (.bipush 45, 2) := by decide +kernel
theorem d57_27 : decode B57 27 = .ok (.if_icmp .eq 5, 3) := by decide +kernel
theorem d57_32 : decode B57 32 = .ok (.iload_n 3, 1) := by decide +kernel
theorem d57_33 : decode B57 33 = .ok (.iconst 1, 1) := by decide +kernel
theorem d57_34 : decode B57 34 = .ok (.iadd, 1) := by decide +kernel
theorem d57_35 : decode B57 35 = .ok (.istore_n 3, 1) := by decide +kernel
theorem d57_36 : decode B57 36 = .ok (.iload_n 2, 1) := by decide +kernel
theorem d57_37 : decode B57 37 = .ok (.invokestatic 25, 3) := by decide +kernel
theorem d57_40 : decode B57 40 = .ok (.lstore 4, 2) := by decide +kernel
theorem d57_42 : decode B57 42 = .ok (.lload 4, 2) := by decide +kernel
theorem d57_44 : decode B57 44 = .ok (.invokestatic 31, 3) := by decide +kernel
theorem d57_47 : decode B57 47 = .ok (.istore 6, 2) := by decide +kernel
theorem d57_49 : decode B57 49 = .ok (.iload_n 3, 1) := by decide +kernel
theorem d57_50 : decode B57 50 = .ok (.iload 6, 2) := by decide +kernel
theorem d57_52 : decode B57 52 = .ok (.iadd, 1) := by decide +kernel
theorem d57_53 : decode B57 53 = .ok (.iconst 1, 1) := by decide +kernel
theorem d57_54 : decode B57 54 = .ok (.isub, 1) := by decide +kernel
theorem d57_55 : decode B57 55 = .ok (.istore 7, 2) := by decide +kernel
theorem d57_57 : decode B57 57 = .ok (.aload_n 0, 1) := by decide +kernel
theorem d57_58 : decode B57 58 = .ok (.iload 7, 2) := by decide +kernel
theorem d57_60 : decode B57 60 = .ok (.invokevirtual 35, 3) := by decide +kernel
theorem d57_63 : decode B57 63 = .ok (.lload 4, 2) := by decide +kernel
theorem d57_65 : decode B57 65 = .ok (.invokestatic 41, 3) := by decide +kernel
theorem d57_68 : decode B57 68 = .ok (.if_icmp .eq 5, 3) := by decide +kernel
theorem d57_73 : decode B57 73 = .ok (.lload 4, 2) := by decide +kernel
theorem d57_75 : decode B57 75 = .ok (.ldc2_w 7, 3) := by decide +kernel
theorem d57_78 : decode B57 78 = .ok (.ldiv, 1) := by decide +kernel
theorem d57_79 : decode B57 79 = .ok (.lstore 4, 2) := by decide +kernel
theorem d57_81 : decode B57 81 = .ok (.iload 6, 2) := by decide +kernel
theorem d57_83 : decode B57 83 = .ok (.iconst 1, 1) := by decide +kernel
theorem d57_84 : decode B57 84 = .ok (.if_icmp .le 21, 3) := by decide +kernel
theorem d57_87 : decode B57 87 = .ok (.aload_n 0, 1) := by decide +kernel
theorem d57_88 : decode B57 88 = .ok (.iload 7, 2) := by decide +kernel
theorem d57_90 : decode B57 90 = .ok (.iconst 1, 1) := by decide +kernel
theorem d57_91 : decode B57 91 = .ok (.isub, 1) := by decide +kernel
theorem d57_92 : decode B57 92 = .ok (.invokevirtual 35, 3) := by decide +kernel
theorem d57_95 : decode B57 95 = .ok (.lload 4, 2) := by decide +kernel
theorem d57_97 : decode B57 97 = .ok (.invokestatic 41, 3) := by decide +kernel
theorem d57_100 : decode B57 100 = .ok (.if_icmp .eq 5, 3) := by decide +kernel
theorem d57_105 : decode B57 105 = .ok (.lload 4, 2) := by decide +kernel
theorem d57_107 : decode B57 107 = .ok (.ldc2_w 7, 3) := by decide +kernel
theorem d57_110 : decode B57 110 = .ok (.ldiv, 1) := by decide +kernel
theorem d57_111 : decode B57 111 = .ok (.lstore 4, 2) := by decide +kernel
theorem d57_113 : decode B57 113 = .ok (.iload 6, 2) := by decide +kernel
theorem d57_115 : decode B57 115 = .ok (.iconst 2, 1) := by decide +kernel
theorem d57_116 : decode B57 116 = .ok (.if_icmp .le 21, 3) := by decide +kernel
theorem d57_119 : decode B57 119 = .ok (.aload_n 0, 1) := by decide +kernel
theorem d57_120 : decode B57 120 = .ok (.iload 7, 2) := by decide +kernel
theorem d57_122 : decode B57 122 = .ok (.iconst 2, 1) := by decide +kernel
theorem d57_123 : decode B57 123 = .ok (.isub, 1) := by decide +kernel
theorem d57_124 : decode B57 124 = .ok (.invokevirtual 35, 3) := by decide +kernel
theorem d57_127 : decode B57 127 = .ok (.lload 4, 2) := by decide +kernel
theorem d57_129 : decode B57 129 = .ok (.invokestatic 41, 3) := by decide +kernel
theorem d57_132 : decode B57 132 = .ok (.if_icmp .eq 5, 3) := by decide +kernel
theorem d57_137 : decode B57 137 = .ok (.lload 4, 2) := by decide +kernel
theorem d57_139 : decode B57 139 = .ok (.ldc2_w 7, 3) := by decide +kernel
theorem d57_142 : decode B57 142 = .ok (.ldiv, 1) := by decide +kernel
theorem d57_143 : decode B57 143 = .ok (.lstore 4, 2) := by decide +kernel
theorem d57_145 : decode B57 145 = .ok (.iload 6, 2) := by decide +kernel
theorem d57_147 : decode B57 147 = .ok (.iconst 3, 1) := by decide +kernel
theorem d57_148 : decode B57 148 = .ok (.if_icmp .le 21, 3) := by decide +kernel
theorem d57_151 : decode B57 151 = .ok (.aload_n 0, 1) := by decide +kernel
theorem d57_152 : decode B57 152 = .ok (.iload 7, 2) := by decide +kernel
theorem d57_154 : decode B57 154 = .ok (.iconst 3, 1) := by decide +kernel
theorem d57_155 : decode B57 155 = .ok (.isub, 1) := by decide +kernel
theorem d57_156 : decode B57 156 = .ok (.invokevirtual 35, 3) := by decide +kernel
theorem d57_159 : decode B57 159 = .ok (.lload 4, 2) := by decide +kernel
theorem d57_161 : decode B57 161 = .ok (.invokestatic 41, 3) := by decide +kernel
theorem d57_164 : decode B57 164 = .ok (.if_icmp .eq 5, 3) := by decide +kernel
theorem d57_169 : decode B57 169 = .ok (.lload 4, 2) := by decide +kernel
theorem d57_171 : decode B57 171 = .ok (.ldc2_w 7, 3) := by decide +kernel
theorem d57_174 : decode B57 174 = .ok (.ldiv, 1) := by decide +kernel
theorem d57_175 : decode B57 175 = .ok (.lstore 4, 2) := by decide +kernel
theorem d57_177 : decode B57 177 = .ok (.iload 6, 2) := by decide +kernel
theorem d57_179 : decode B57 179 = .ok (.iconst 4, 1) := by decide +kernel
theorem d57_180 : decode B57 180 = .ok (.if_icmp .le 21, 3) := by decide +kernel
theorem d57_183 : decode B57 183 = .ok (.aload_n 0, 1) := by decide +kernel
theorem d57_184 : decode B57 184 = .ok (.iload 7, 2) := by decide +kernel
theorem d57_186 : decode B57 186 = .ok (.iconst 4, 1) := by decide +kernel
theorem d57_187 : decode B57 187 = .ok (.isub, 1) := by decide +kernel
theorem d57_188 : decode B57 188 = .ok (.invokevirtual 35, 3) := by decide +kernel
theorem d57_191 : decode B57 191 = .ok (.lload 4, 2) := by decide +kernel
theorem d57_193 : decode B57 193 = .ok (.invokestatic 41, 3) := by decide +kernel
theorem d57_196 : decode B57 196 = .ok (.if_icmp .eq 5, 3) := by decide +kernel
theorem d57_201 : decode B57 201 = .ok (.lload 4, 2) := by decide +kernel
theorem d57_203 : decode B57 203 = .ok (.ldc2_w 7, 3) := by decide +kernel
theorem d57_206 : decode B57 206 = .ok (.ldiv, 1) := by decide +kernel
theorem d57_207 : decode B57 207 = .ok (.lstore 4, 2) := by decide +kernel
theorem d57_209 : decode B57 209 = .ok (.iload 6, 2) := by decide +kernel
theorem d57_211 : decode B57 211 = .ok (.iconst 5, 1) := by decide +kernel
theorem d57_212 : decode B57 212 = .ok (.if_icmp .le 21, 3) := by decide +kernel
theorem d57_215 : decode B57 215 = .ok (.aload_n 0, 1) := by decide +kernel
theorem d57_216 : decode B57 216 = .ok (.iload 7, 2) := by decide +kernel
theorem d57_218 : decode B57 218 = .ok (.iconst 5, 1) := by decide +kernel
theorem d57_219 : decode B57 219 = .ok (.isub, 1) := by decide +kernel
theorem d57_220 : decode B57 220 = .ok (.invokevirtual 35, 3) := by decide +kernel
theorem d57_223 : decode B57 223 = .ok (.lload 4, 2) := by decide +kernel
theorem d57_225 : decode B57 225 = .ok (.invokestatic 41, 3) := by decide +kernel
theorem d57_228 : decode B57 228 = .ok (.if_icmp .eq 5, 3) := by decide +kernel
theorem d57_233 : decode B57 233 = .ok (.lload 4, 2) := by decide +kernel
theorem d57_235 : decode B57 235 = .ok (.ldc2_w 7, 3) := by decide +kernel
theorem d57_238 : decode B57 238 = .ok (.ldiv, 1) := by decide +kernel
theorem d57_239 : decode B57 239 = .ok (.lstore 4, 2) := by decide +kernel
theorem d57_241 : decode B57 241 = .ok (.iload 6, 2) := by decide +kernel
theorem d57_243 : decode B57 243 = .ok (.bipush 6, 2) := by decide +kernel
theorem d57_245 : decode B57 245 = .ok (.if_icmp .le 22, 3) := by decide +kernel
theorem d57_248 : decode B57 248 = .ok (.aload_n 0, 1) := by decide +kernel
theorem d57_249 : decode B57 249 = .ok (.iload 7, 2) := by decide +kernel
theorem d57_251 : decode B57 251 = .ok (.bipush 6, 2) := by decide +kernel
theorem d57_253 : decode B57 253 = .ok (.isub, 1) := by decide +kernel
theorem d57_254 : decode B57 254 = .ok (.invokevirtual 35, 3) := by decide +kernel
theorem d57_257 : decode B57 257 = .ok (.lload 4, 2) := by decide +kernel
theorem d57_259 : decode B57 259 = .ok (.invokestatic 41, 3) := by decide +kernel
theorem d57_262 : decode B57 262 = .ok (.if_icmp .eq 5, 3) := by decide +kernel
theorem d57_267 : decode B57 267 = .ok (.lload 4, 2) := by decide +kernel
theorem d57_269 : decode B57 269 = .ok (.ldc2_w 7, 3) := by decide +kernel
theorem d57_272 : decode B57 272 = .ok (.ldiv, 1) := by decide +kernel
theorem d57_273 : decode B57 273 = .ok (.lstore 4, 2) := by decide +kernel
theorem d57_275 : decode B57 275 = .ok (.iload 6, 2) := by decide +kernel
theorem d57_277 : decode B57 277 = .ok (.bipush 7, 2) := by decide +kernel
theorem d57_279 : decode B57 279 = .ok (.if_icmp .le 22, 3) := by decide +kernel
theorem d57_282 : decode B57 282 = .ok (.aload_n 0, 1) := by decide +kernel
theorem d57_283 : decode B57 283 = .ok (.iload 7, 2) := by decide +kernel
theorem d57_285 : decode B57 285 = .ok (.bipush 7, 2) := by decide +kernel
theorem d57_287 : decode B57 287 = .ok (.isub, 1) := by decide +kernel
theorem d57_288 : decode B57 288 = .ok (.invokevirtual 35, 3) := by decide +kernel
theorem d57_291 : decode B57 291 = .ok (.lload 4, 2) := by decide +kernel
theorem d57_293 : decode B57 293 = .ok (.invokestatic 41, 3) := by decide +kernel
theorem d57_296 : decode B57 296 = .ok (.if_icmp .eq 5, 3) := by decide +kernel
theorem d57_301 : decode B57 301 = .ok (.lload 4, 2) := by decide +kernel
theorem d57_303 : decode B57 303 = .ok (.ldc2_w 7, 3) := by decide +kernel
theorem d57_306 : decode B57 306 = .ok (.ldiv, 1) := by decide +kernel
theorem d57_307 : decode B57 307 = .ok (.lstore 4, 2) := by decide +kernel
theorem d57_309 : decode B57 309 = .ok (.iload 6, 2) := by decide +kernel
theorem d57_311 : decode B57 311 = .ok (.bipush 8, 2) := by decide +kernel
theorem d57_313 : decode B57 313 = .ok (.if_icmp .le 22, 3) := by decide +kernel
theorem d57_316 : decode B57 316 = .ok (.aload_n 0, 1) := by decide +kernel
theorem d57_317 : decode B57 317 = .ok (.iload 7, 2) := by decide +kernel
theorem d57_319 : decode B57 319 = .ok (.bipush 8, 2) := by decide +kernel
theorem d57_321 : decode B57 321 = .ok (.isub, 1) := by decide +kernel
theorem d57_322 : decode B57 322 = .ok (.invokevirtual 35, 3) := by decide +kernel
theorem d57_325 : decode B57 325 = .ok (.lload 4, 2) := by decide +kernel
theorem d57_327 : decode B57 327 = .ok (.invokestatic 41, 3) := by decide +kernel
theorem d57_330 : decode B57 330 = .ok (.if_icmp .eq 5, 3) := by decide +kernel
theorem d57_335 : decode B57 335 = .ok (.lload 4, 2) := by decide +kernel
theorem d57_337 : decode B57 337 = .ok (.ldc2_w 7, 3) := by decide +kernel
theorem d57_340 : decode B57 340 = .ok (.ldiv, 1) := by decide +kernel
theorem d57_341 : decode B57 341 = .ok (.lstore 4, 2) := by decide +kernel
theorem d57_343 : decode B57 343 = .ok (.iload 6, 2) := by decide +kernel
theorem d57_345 : decode B57 345 = .ok (.bipush 9, 2) := by decide +kernel
theorem d57_347 : decode B57 347 = .ok (.if_icmp .le 22, 3) := by decide +kernel
theorem d57_350 : decode B57 350 = .ok (.aload_n 0, 1) := by decide +kernel
theorem d57_351 : decode B57 351 = .ok (.iload 7, 2) := by decide +kernel
theorem d57_353 : decode B57 353 = .ok (.bipush 9, 2) := by decide +kernel
theorem d57_355 : decode B57 355 = .ok (.isub, 1) := by decide +kernel
theorem d57_356 : decode B57 356 = .ok (.invokevirtual 35, 3) := by decide +kernel
theorem d57_359 : decode B57 359 = .ok (.lload 4, 2) := by decide +kernel
theorem d57_361 : decode B57 361 = .ok (.invokestatic 41, 3) := by decide +kernel
theorem d57_364 : decode B57 364 = .ok (.if_icmp .eq 5, 3) := by decide +kernel
theorem d57_369 : decode B57 369 = .ok (.iconst 1, 1) := by decide +kernel
theorem d57_370 : decode B57 370 = .ok (.ireturn, 1) := by decide +kernel
def Q_seg (Z : State) (zc : Int32) (o : Addr) (d : Addr) (u : Value) (y : Addr) (t : Addr) (F : Nat → Int32) (N : Nat) (pp : Nat) (v : Int32) (h0 : Heap) (n0 : Nat) (vz : Option Value) (hz : Heap) (Lz : List Loc) : Prop := vz = some (.int 1) ∧ Fr n0 Lz ∧ hz = h0
abbrev rr_seg : Room := ({ frames := 4, cells := 0, slots := 0, locals := 62 } : Room)
theorem pd26 : parseMethodDescriptor "(I)C" = some ⟨[.int], some .char⟩ := by decide +kernel
theorem pd27 : parseMethodDescriptor "(J)C" = some ⟨[.long], some .char⟩ := by decide +kernel
set_option maxRecDepth 65536 in
set_option maxHeartbeats 40000000 in
theorem rm_seg (l : Launch) (Z : State) (a0 : Array Value) (hw : ∀ d ∈ tables_1, d.before a0 Z = true) (ws : List Jvm.Cond) (zc : Int32) (o : Addr) (d : Addr) (u : Value) (y : Addr) (t : Addr) (F : Nat → Int32) (N : Nat) (pp : Nat) (v : Int32) (h0 : Heap) (n0 : Nat) (Z0 : n0 ≤ h0.size) (J0 : JS Z h0 zc o d u) (Ey : Exa Z h0 y "java/lang/String") (Fyc : Fld Z h0 y "java/lang/String" "coder" "B" (.int (0 : Int32))) (Fyv : Fld Z h0 y "java/lang/String" "value" "[B" (.ref t)) (B0 : Byt Z h0 t N F) (hN : N ≤ 64) (hp : pp + 1 + sl v ≤ N) (hS : Sg F pp v) :
    MetFree l mn42 (head1 (Jvm.Cond.code mn42 method_6_code 8 (some .boolean) :: ws) rr_seg) (PreK Z #[(.ref y), (.int (Int32.ofNat pp)), (.int v)] h0) (fun _ _ _ _ _ => True) (PosK (Q_seg Z zc o d u y t F N pp v h0 n0) rr_seg) := by
  refine startK n0 (L := #[vr y, vi (Int32.ofNat pp), vi v, .unset, .unset, .unset, .unset, .unset]) (plainFor_of_name pn0) (fun _ => rfl) fun p e s m below meth c s₁ Bd hZ hh hx hby hml hown hnm hlk X0 e0 N0 => ?_
  have hdg := dg_pos v
  have hsl := sl_le v
  have hsd : sl v = sg v + dg v := rfl
  have hsgl := sg_le v
  have hd31 : dg v < 2 ^ 31 := by omega
  have hj0 : 0 < dg v := hdg.1
  have J36 : ∀ (qq : Nat), qq + dg v = pp + 1 + sl v → ∀ (T : State) (Lc : List Loc), Stand p l e ({ frames := 4, cells := 0, slots := 0, locals := 62 } : Room) s m #[.ref y, .int (Int32.ofNat pp), .int v] below meth c T Lc 0 0 → T.heap = h0 → Fr n0 Lc → EndsK p e below (OQ s (Q_seg Z zc o d u y t F N pp v h0 n0) (({ frames := 4, cells := 0, slots := 0, locals := 62 } : Room)).cells (({ frames := 4, cells := 0, slots := 0, locals := 62 } : Room)).slots) (T.setTop (mkF m 36 #[vr y, vi (Int32.ofNat pp), vi v, vi (Int32.ofNat qq), .unset, .unset, .unset, .unset] [])) := by
    intro qq hqq T Lc XJ eJ NJ
    have F9 : dg v ≤ 8 → ∀ (T : State) (Lc : List Loc), Stand p l e ({ frames := 4, cells := 0, slots := 0, locals := 62 } : Room) s m #[.ref y, .int (Int32.ofNat pp), .int v] below meth c T Lc 0 0 → T.heap = h0 → Fr n0 Lc → EndsK p e below (OQ s (Q_seg Z zc o d u y t F N pp v h0 n0) (({ frames := 4, cells := 0, slots := 0, locals := 62 } : Room)).cells (({ frames := 4, cells := 0, slots := 0, locals := 62 } : Room)).slots) (T.setTop (mkF m 335 #[vr y, vi (Int32.ofNat pp), vi v, vi (Int32.ofNat qq), .val (.long (rj v 8)), .second, vi (Int32.ofNat (dg v)), vi (Int32.ofNat (pp + 1 + sl v - 1))] [])) := by
      intro hF T Lc XJ eJ NJ
      refine EndsK.go (fun _ kz => XS.lload XJ.here hx rfl (hb hby d57_335) rfl (XJ.ldc2J hx hown (mvT hZ (tw hw 331 rfl)) rfl (hb hby d57_337) (XS.ldiv XJ.here hx rfl (hb hby d57_340) rfl (by decide) kz))) ?_
      refine EndsK.start (congrArg (fun z_ => (mkF m 341 #[vr y, vi (Int32.ofNat pp), vi v, vi (Int32.ofNat qq), .val (.long (rj v 8)), .second, vi (Int32.ofNat (dg v)), vi (Int32.ofNat (pp + 1 + sl v - 1))] [(.long z_)])) (rj_succ v 8 : ((rj v 8) / (10 : Int64)) = (rj v 9))) ?_
      refine EndsK.go (fun _ kz => XS.lstore XJ.here hx rfl (hb hby d57_341) rfl (l' := #[vr y, vi (Int32.ofNat pp), vi v, vi (Int32.ofNat qq), .val (.long (rj v 9)), .second, vi (Int32.ofNat (dg v)), vi (Int32.ofNat (pp + 1 + sl v - 1))]) rfl (XS.iload XJ.here hx rfl (hb hby d57_343) rfl (XS.bipush XJ.here hx rfl (hb hby d57_345) (XS.icmpYes XJ.here hx rfl (pc0 := 347) (pc' := 369) rfl (hb hby d57_347) rfl (flt (fun z => absurd ((on_lt (a := 9) (b := dg v) (by decide) hd31).mp z) (by omega))).2.2.2 (by decide) (by decide) (XS.iconst XJ.here hx rfl (hb hby d57_369) kz))))) ?_
      show EndsK p e below _ (T.setTop (mkF m 370 #[vr y, vi (Int32.ofNat pp), vi v, vi (Int32.ofNat qq), .val (.long (rj v 9)), .second, vi (Int32.ofNat (dg v)), vi (Int32.ofNat (pp + 1 + sl v - 1))] [(.int (1 : Int32))]))
      exact endN XJ hx (t := .boolean) Bd.returns (by simp) (hb hby d57_370) hlk ⟨rfl, NJ, eJ⟩ (by decide) (by decide)
    have F8 : dg v ≤ 7 → ∀ (T : State) (Lc : List Loc), Stand p l e ({ frames := 4, cells := 0, slots := 0, locals := 62 } : Room) s m #[.ref y, .int (Int32.ofNat pp), .int v] below meth c T Lc 0 0 → T.heap = h0 → Fr n0 Lc → EndsK p e below (OQ s (Q_seg Z zc o d u y t F N pp v h0 n0) (({ frames := 4, cells := 0, slots := 0, locals := 62 } : Room)).cells (({ frames := 4, cells := 0, slots := 0, locals := 62 } : Room)).slots) (T.setTop (mkF m 301 #[vr y, vi (Int32.ofNat pp), vi v, vi (Int32.ofNat qq), .val (.long (rj v 7)), .second, vi (Int32.ofNat (dg v)), vi (Int32.ofNat (pp + 1 + sl v - 1))] [])) := by
      intro hF T Lc XJ eJ NJ
      refine EndsK.go (fun _ kz => XS.lload XJ.here hx rfl (hb hby d57_301) rfl (XJ.ldc2J hx hown (mvT hZ (tw hw 331 rfl)) rfl (hb hby d57_303) (XS.ldiv XJ.here hx rfl (hb hby d57_306) rfl (by decide) kz))) ?_
      refine EndsK.start (congrArg (fun z_ => (mkF m 307 #[vr y, vi (Int32.ofNat pp), vi v, vi (Int32.ofNat qq), .val (.long (rj v 7)), .second, vi (Int32.ofNat (dg v)), vi (Int32.ofNat (pp + 1 + sl v - 1))] [(.long z_)])) (rj_succ v 7 : ((rj v 7) / (10 : Int64)) = (rj v 8))) ?_
      refine EndsK.go (fun _ kz => XS.lstore XJ.here hx rfl (hb hby d57_307) rfl (l' := #[vr y, vi (Int32.ofNat pp), vi v, vi (Int32.ofNat qq), .val (.long (rj v 8)), .second, vi (Int32.ofNat (dg v)), vi (Int32.ofNat (pp + 1 + sl v - 1))]) rfl (XS.iload XJ.here hx rfl (hb hby d57_309) rfl (XS.bipush XJ.here hx rfl (hb hby d57_311) (XS.icmpYes XJ.here hx rfl (pc0 := 313) (pc' := 335) rfl (hb hby d57_313) rfl (flt (fun z => absurd ((on_lt (a := 8) (b := dg v) (by decide) hd31).mp z) (by omega))).2.2.2 (by decide) (by decide) kz)))) ?_
      exact F9 (by omega) _ _ XJ eJ NJ
    have F7 : dg v ≤ 6 → ∀ (T : State) (Lc : List Loc), Stand p l e ({ frames := 4, cells := 0, slots := 0, locals := 62 } : Room) s m #[.ref y, .int (Int32.ofNat pp), .int v] below meth c T Lc 0 0 → T.heap = h0 → Fr n0 Lc → EndsK p e below (OQ s (Q_seg Z zc o d u y t F N pp v h0 n0) (({ frames := 4, cells := 0, slots := 0, locals := 62 } : Room)).cells (({ frames := 4, cells := 0, slots := 0, locals := 62 } : Room)).slots) (T.setTop (mkF m 267 #[vr y, vi (Int32.ofNat pp), vi v, vi (Int32.ofNat qq), .val (.long (rj v 6)), .second, vi (Int32.ofNat (dg v)), vi (Int32.ofNat (pp + 1 + sl v - 1))] [])) := by
      intro hF T Lc XJ eJ NJ
      refine EndsK.go (fun _ kz => XS.lload XJ.here hx rfl (hb hby d57_267) rfl (XJ.ldc2J hx hown (mvT hZ (tw hw 331 rfl)) rfl (hb hby d57_269) (XS.ldiv XJ.here hx rfl (hb hby d57_272) rfl (by decide) kz))) ?_
      refine EndsK.start (congrArg (fun z_ => (mkF m 273 #[vr y, vi (Int32.ofNat pp), vi v, vi (Int32.ofNat qq), .val (.long (rj v 6)), .second, vi (Int32.ofNat (dg v)), vi (Int32.ofNat (pp + 1 + sl v - 1))] [(.long z_)])) (rj_succ v 6 : ((rj v 6) / (10 : Int64)) = (rj v 7))) ?_
      refine EndsK.go (fun _ kz => XS.lstore XJ.here hx rfl (hb hby d57_273) rfl (l' := #[vr y, vi (Int32.ofNat pp), vi v, vi (Int32.ofNat qq), .val (.long (rj v 7)), .second, vi (Int32.ofNat (dg v)), vi (Int32.ofNat (pp + 1 + sl v - 1))]) rfl (XS.iload XJ.here hx rfl (hb hby d57_275) rfl (XS.bipush XJ.here hx rfl (hb hby d57_277) (XS.icmpYes XJ.here hx rfl (pc0 := 279) (pc' := 301) rfl (hb hby d57_279) rfl (flt (fun z => absurd ((on_lt (a := 7) (b := dg v) (by decide) hd31).mp z) (by omega))).2.2.2 (by decide) (by decide) kz)))) ?_
      exact F8 (by omega) _ _ XJ eJ NJ
    have F6 : dg v ≤ 5 → ∀ (T : State) (Lc : List Loc), Stand p l e ({ frames := 4, cells := 0, slots := 0, locals := 62 } : Room) s m #[.ref y, .int (Int32.ofNat pp), .int v] below meth c T Lc 0 0 → T.heap = h0 → Fr n0 Lc → EndsK p e below (OQ s (Q_seg Z zc o d u y t F N pp v h0 n0) (({ frames := 4, cells := 0, slots := 0, locals := 62 } : Room)).cells (({ frames := 4, cells := 0, slots := 0, locals := 62 } : Room)).slots) (T.setTop (mkF m 233 #[vr y, vi (Int32.ofNat pp), vi v, vi (Int32.ofNat qq), .val (.long (rj v 5)), .second, vi (Int32.ofNat (dg v)), vi (Int32.ofNat (pp + 1 + sl v - 1))] [])) := by
      intro hF T Lc XJ eJ NJ
      refine EndsK.go (fun _ kz => XS.lload XJ.here hx rfl (hb hby d57_233) rfl (XJ.ldc2J hx hown (mvT hZ (tw hw 331 rfl)) rfl (hb hby d57_235) (XS.ldiv XJ.here hx rfl (hb hby d57_238) rfl (by decide) kz))) ?_
      refine EndsK.start (congrArg (fun z_ => (mkF m 239 #[vr y, vi (Int32.ofNat pp), vi v, vi (Int32.ofNat qq), .val (.long (rj v 5)), .second, vi (Int32.ofNat (dg v)), vi (Int32.ofNat (pp + 1 + sl v - 1))] [(.long z_)])) (rj_succ v 5 : ((rj v 5) / (10 : Int64)) = (rj v 6))) ?_
      refine EndsK.go (fun _ kz => XS.lstore XJ.here hx rfl (hb hby d57_239) rfl (l' := #[vr y, vi (Int32.ofNat pp), vi v, vi (Int32.ofNat qq), .val (.long (rj v 6)), .second, vi (Int32.ofNat (dg v)), vi (Int32.ofNat (pp + 1 + sl v - 1))]) rfl (XS.iload XJ.here hx rfl (hb hby d57_241) rfl (XS.bipush XJ.here hx rfl (hb hby d57_243) (XS.icmpYes XJ.here hx rfl (pc0 := 245) (pc' := 267) rfl (hb hby d57_245) rfl (flt (fun z => absurd ((on_lt (a := 6) (b := dg v) (by decide) hd31).mp z) (by omega))).2.2.2 (by decide) (by decide) kz)))) ?_
      exact F7 (by omega) _ _ XJ eJ NJ
    have F5 : dg v ≤ 4 → ∀ (T : State) (Lc : List Loc), Stand p l e ({ frames := 4, cells := 0, slots := 0, locals := 62 } : Room) s m #[.ref y, .int (Int32.ofNat pp), .int v] below meth c T Lc 0 0 → T.heap = h0 → Fr n0 Lc → EndsK p e below (OQ s (Q_seg Z zc o d u y t F N pp v h0 n0) (({ frames := 4, cells := 0, slots := 0, locals := 62 } : Room)).cells (({ frames := 4, cells := 0, slots := 0, locals := 62 } : Room)).slots) (T.setTop (mkF m 201 #[vr y, vi (Int32.ofNat pp), vi v, vi (Int32.ofNat qq), .val (.long (rj v 4)), .second, vi (Int32.ofNat (dg v)), vi (Int32.ofNat (pp + 1 + sl v - 1))] [])) := by
      intro hF T Lc XJ eJ NJ
      refine EndsK.go (fun _ kz => XS.lload XJ.here hx rfl (hb hby d57_201) rfl (XJ.ldc2J hx hown (mvT hZ (tw hw 331 rfl)) rfl (hb hby d57_203) (XS.ldiv XJ.here hx rfl (hb hby d57_206) rfl (by decide) kz))) ?_
      refine EndsK.start (congrArg (fun z_ => (mkF m 207 #[vr y, vi (Int32.ofNat pp), vi v, vi (Int32.ofNat qq), .val (.long (rj v 4)), .second, vi (Int32.ofNat (dg v)), vi (Int32.ofNat (pp + 1 + sl v - 1))] [(.long z_)])) (rj_succ v 4 : ((rj v 4) / (10 : Int64)) = (rj v 5))) ?_
      refine EndsK.go (fun _ kz => XS.lstore XJ.here hx rfl (hb hby d57_207) rfl (l' := #[vr y, vi (Int32.ofNat pp), vi v, vi (Int32.ofNat qq), .val (.long (rj v 5)), .second, vi (Int32.ofNat (dg v)), vi (Int32.ofNat (pp + 1 + sl v - 1))]) rfl (XS.iload XJ.here hx rfl (hb hby d57_209) rfl (XS.iconst XJ.here hx rfl (hb hby d57_211) (XS.icmpYes XJ.here hx rfl (pc0 := 212) (pc' := 233) rfl (hb hby d57_212) rfl (flt (fun z => absurd ((on_lt (a := 5) (b := dg v) (by decide) hd31).mp z) (by omega))).2.2.2 (by decide) (by decide) kz)))) ?_
      exact F6 (by omega) _ _ XJ eJ NJ
    have F4 : dg v ≤ 3 → ∀ (T : State) (Lc : List Loc), Stand p l e ({ frames := 4, cells := 0, slots := 0, locals := 62 } : Room) s m #[.ref y, .int (Int32.ofNat pp), .int v] below meth c T Lc 0 0 → T.heap = h0 → Fr n0 Lc → EndsK p e below (OQ s (Q_seg Z zc o d u y t F N pp v h0 n0) (({ frames := 4, cells := 0, slots := 0, locals := 62 } : Room)).cells (({ frames := 4, cells := 0, slots := 0, locals := 62 } : Room)).slots) (T.setTop (mkF m 169 #[vr y, vi (Int32.ofNat pp), vi v, vi (Int32.ofNat qq), .val (.long (rj v 3)), .second, vi (Int32.ofNat (dg v)), vi (Int32.ofNat (pp + 1 + sl v - 1))] [])) := by
      intro hF T Lc XJ eJ NJ
      refine EndsK.go (fun _ kz => XS.lload XJ.here hx rfl (hb hby d57_169) rfl (XJ.ldc2J hx hown (mvT hZ (tw hw 331 rfl)) rfl (hb hby d57_171) (XS.ldiv XJ.here hx rfl (hb hby d57_174) rfl (by decide) kz))) ?_
      refine EndsK.start (congrArg (fun z_ => (mkF m 175 #[vr y, vi (Int32.ofNat pp), vi v, vi (Int32.ofNat qq), .val (.long (rj v 3)), .second, vi (Int32.ofNat (dg v)), vi (Int32.ofNat (pp + 1 + sl v - 1))] [(.long z_)])) (rj_succ v 3 : ((rj v 3) / (10 : Int64)) = (rj v 4))) ?_
      refine EndsK.go (fun _ kz => XS.lstore XJ.here hx rfl (hb hby d57_175) rfl (l' := #[vr y, vi (Int32.ofNat pp), vi v, vi (Int32.ofNat qq), .val (.long (rj v 4)), .second, vi (Int32.ofNat (dg v)), vi (Int32.ofNat (pp + 1 + sl v - 1))]) rfl (XS.iload XJ.here hx rfl (hb hby d57_177) rfl (XS.iconst XJ.here hx rfl (hb hby d57_179) (XS.icmpYes XJ.here hx rfl (pc0 := 180) (pc' := 201) rfl (hb hby d57_180) rfl (flt (fun z => absurd ((on_lt (a := 4) (b := dg v) (by decide) hd31).mp z) (by omega))).2.2.2 (by decide) (by decide) kz)))) ?_
      exact F5 (by omega) _ _ XJ eJ NJ
    have F3 : dg v ≤ 2 → ∀ (T : State) (Lc : List Loc), Stand p l e ({ frames := 4, cells := 0, slots := 0, locals := 62 } : Room) s m #[.ref y, .int (Int32.ofNat pp), .int v] below meth c T Lc 0 0 → T.heap = h0 → Fr n0 Lc → EndsK p e below (OQ s (Q_seg Z zc o d u y t F N pp v h0 n0) (({ frames := 4, cells := 0, slots := 0, locals := 62 } : Room)).cells (({ frames := 4, cells := 0, slots := 0, locals := 62 } : Room)).slots) (T.setTop (mkF m 137 #[vr y, vi (Int32.ofNat pp), vi v, vi (Int32.ofNat qq), .val (.long (rj v 2)), .second, vi (Int32.ofNat (dg v)), vi (Int32.ofNat (pp + 1 + sl v - 1))] [])) := by
      intro hF T Lc XJ eJ NJ
      refine EndsK.go (fun _ kz => XS.lload XJ.here hx rfl (hb hby d57_137) rfl (XJ.ldc2J hx hown (mvT hZ (tw hw 331 rfl)) rfl (hb hby d57_139) (XS.ldiv XJ.here hx rfl (hb hby d57_142) rfl (by decide) kz))) ?_
      refine EndsK.start (congrArg (fun z_ => (mkF m 143 #[vr y, vi (Int32.ofNat pp), vi v, vi (Int32.ofNat qq), .val (.long (rj v 2)), .second, vi (Int32.ofNat (dg v)), vi (Int32.ofNat (pp + 1 + sl v - 1))] [(.long z_)])) (rj_succ v 2 : ((rj v 2) / (10 : Int64)) = (rj v 3))) ?_
      refine EndsK.go (fun _ kz => XS.lstore XJ.here hx rfl (hb hby d57_143) rfl (l' := #[vr y, vi (Int32.ofNat pp), vi v, vi (Int32.ofNat qq), .val (.long (rj v 3)), .second, vi (Int32.ofNat (dg v)), vi (Int32.ofNat (pp + 1 + sl v - 1))]) rfl (XS.iload XJ.here hx rfl (hb hby d57_145) rfl (XS.iconst XJ.here hx rfl (hb hby d57_147) (XS.icmpYes XJ.here hx rfl (pc0 := 148) (pc' := 169) rfl (hb hby d57_148) rfl (flt (fun z => absurd ((on_lt (a := 3) (b := dg v) (by decide) hd31).mp z) (by omega))).2.2.2 (by decide) (by decide) kz)))) ?_
      exact F4 (by omega) _ _ XJ eJ NJ
    have F2 : dg v ≤ 1 → ∀ (T : State) (Lc : List Loc), Stand p l e ({ frames := 4, cells := 0, slots := 0, locals := 62 } : Room) s m #[.ref y, .int (Int32.ofNat pp), .int v] below meth c T Lc 0 0 → T.heap = h0 → Fr n0 Lc → EndsK p e below (OQ s (Q_seg Z zc o d u y t F N pp v h0 n0) (({ frames := 4, cells := 0, slots := 0, locals := 62 } : Room)).cells (({ frames := 4, cells := 0, slots := 0, locals := 62 } : Room)).slots) (T.setTop (mkF m 105 #[vr y, vi (Int32.ofNat pp), vi v, vi (Int32.ofNat qq), .val (.long (rj v 1)), .second, vi (Int32.ofNat (dg v)), vi (Int32.ofNat (pp + 1 + sl v - 1))] [])) := by
      intro hF T Lc XJ eJ NJ
      refine EndsK.go (fun _ kz => XS.lload XJ.here hx rfl (hb hby d57_105) rfl (XJ.ldc2J hx hown (mvT hZ (tw hw 331 rfl)) rfl (hb hby d57_107) (XS.ldiv XJ.here hx rfl (hb hby d57_110) rfl (by decide) kz))) ?_
      refine EndsK.start (congrArg (fun z_ => (mkF m 111 #[vr y, vi (Int32.ofNat pp), vi v, vi (Int32.ofNat qq), .val (.long (rj v 1)), .second, vi (Int32.ofNat (dg v)), vi (Int32.ofNat (pp + 1 + sl v - 1))] [(.long z_)])) (rj_succ v 1 : ((rj v 1) / (10 : Int64)) = (rj v 2))) ?_
      refine EndsK.go (fun _ kz => XS.lstore XJ.here hx rfl (hb hby d57_111) rfl (l' := #[vr y, vi (Int32.ofNat pp), vi v, vi (Int32.ofNat qq), .val (.long (rj v 2)), .second, vi (Int32.ofNat (dg v)), vi (Int32.ofNat (pp + 1 + sl v - 1))]) rfl (XS.iload XJ.here hx rfl (hb hby d57_113) rfl (XS.iconst XJ.here hx rfl (hb hby d57_115) (XS.icmpYes XJ.here hx rfl (pc0 := 116) (pc' := 137) rfl (hb hby d57_116) rfl (flt (fun z => absurd ((on_lt (a := 2) (b := dg v) (by decide) hd31).mp z) (by omega))).2.2.2 (by decide) (by decide) kz)))) ?_
      exact F3 (by omega) _ _ XJ eJ NJ
    refine EndsK.go (fun _ kz => XS.iloadN XJ.here hx rfl (hb hby d57_36) rfl kz) ?_
    obtain ⟨_, T21, Lc21, X21, hQ21, st21⟩ := doneG XJ (Jvm.LawKit.callS XJ hx (y := mn0) hown (mvT hZ (tw hw 325 rfl)) (mvT hZ (tw hw 326 rfl)) (mvT hZ (tw hw 323 rfl)) (mvT hZ (tw hw 327 rfl)) (by decide) (backOf (W := 0) (rm_mag l Z a0 hw [] v h0 n0 Z0) hZ (tw hw 327 rfl) (tw hw 323 rfl) (by decide) (by decide)) (g := (mkF m 37 #[vr y, vi (Int32.ofNat pp), vi v, vi (Int32.ofNat qq), .unset, .unset, .unset, .unset] [(.int v)])) rfl (by rw [hml]; rfl) (argsL := [(.int v)]) (rest := []) (lenOf pd0 rfl) rfl (by show 2 * 0 + _ ≤ _; exact Nat.le_of_eq rfl) (hb hby d57_37) (fun _ _ => ⟨rfl, eJ, (by decide : 0 + 0 ≤ _), (by decide : 0 + 0 ≤ _)⟩))
    obtain ⟨rfl, N21, e21⟩ := hQ21
    have M21 := Fr.app NJ N21
    refine EndsK.go st21 ?_
    refine EndsK.start (congrArg (fun z_ => (mkF m 40 #[vr y, vi (Int32.ofNat pp), vi v, vi (Int32.ofNat qq), .unset, .unset, .unset, .unset] [(.long z_)])) (rfl : (magF v) = (rj v 0))) ?_
    refine EndsK.go (fun _ kz => XS.lstore X21.here hx rfl (hb hby d57_40) rfl (l' := #[vr y, vi (Int32.ofNat pp), vi v, vi (Int32.ofNat qq), .val (.long (rj v 0)), .second, .unset, .unset]) rfl (XS.lload X21.here hx rfl (hb hby d57_42) rfl kz)) ?_
    refine EndsK.start (congrArg (fun z_ => (mkF m 44 #[vr y, vi (Int32.ofNat pp), vi v, vi (Int32.ofNat qq), .val (.long (rj v 0)), .second, .unset, .unset] [(.long z_)])) (rfl : (rj v 0) = (magF v))) ?_
    obtain ⟨_, T22, Lc22, X22, hQ22, st22⟩ := doneG X21 (Jvm.LawKit.callS X21 hx (y := mn1) hown (mvT hZ (tw hw 328 rfl)) (mvT hZ (tw hw 329 rfl)) (mvT hZ (tw hw 323 rfl)) (mvT hZ (tw hw 330 rfl)) (by decide) (backOf (W := 0) (rm_ndig l Z a0 hw [] (magF v) h0 n0 Z0) hZ (tw hw 330 rfl) (tw hw 323 rfl) (by decide) (by decide)) (g := (mkF m 44 #[vr y, vi (Int32.ofNat pp), vi v, vi (Int32.ofNat qq), .val (.long (rj v 0)), .second, .unset, .unset] [(.long (magF v))])) rfl (by rw [hml]; rfl) (argsL := [(.long (magF v))]) (rest := []) (lenOf pd1 rfl) rfl (by show 2 * 0 + _ ≤ _; exact Nat.le_of_eq rfl) (hb hby d57_44) (fun _ _ => ⟨rfl, e21, (by decide : 0 + 0 + 0 ≤ _), (by decide : 0 + 0 + 0 ≤ _)⟩))
    obtain ⟨rfl, N22, e22⟩ := hQ22
    have M22 := Fr.app M21 N22
    refine EndsK.go st22 ?_
    refine EndsK.start (congrArg (fun z_ => (mkF m 47 #[vr y, vi (Int32.ofNat pp), vi v, vi (Int32.ofNat qq), .val (.long (rj v 0)), .second, .unset, .unset] [(.int z_)])) (ndig_mag v : (ndigF (magF v)) = (Int32.ofNat (dg v)))) ?_
    refine EndsK.go (fun _ kz => XS.istore X22.here hx rfl (hb hby d57_47) rfl (l' := #[vr y, vi (Int32.ofNat pp), vi v, vi (Int32.ofNat qq), .val (.long (rj v 0)), .second, vi (Int32.ofNat (dg v)), .unset]) rfl (XS.iloadN X22.here hx rfl (hb hby d57_49) rfl (XS.iload X22.here hx rfl (hb hby d57_50) rfl (XS.iadd X22.here hx rfl (hb hby d57_52) rfl kz)))) ?_
    refine EndsK.start (congrArg (fun z_ => (mkF m 53 #[vr y, vi (Int32.ofNat pp), vi v, vi (Int32.ofNat qq), .val (.long (rj v 0)), .second, vi (Int32.ofNat (dg v)), .unset] [(.int z_)])) (on_add _ _ : ((Int32.ofNat qq) + (Int32.ofNat (dg v))) = (Int32.ofNat (qq + dg v)))) ?_
    refine EndsK.go (fun _ kz => XS.iconst X22.here hx rfl (hb hby d57_53) (XS.isub X22.here hx rfl (hb hby d57_54) rfl kz)) ?_
    refine EndsK.start (congrArg (fun z_ => (mkF m 55 #[vr y, vi (Int32.ofNat pp), vi v, vi (Int32.ofNat qq), .val (.long (rj v 0)), .second, vi (Int32.ofNat (dg v)), .unset] [(.int z_)])) (on_subN (b := 1) (by omega) (by omega) : ((Int32.ofNat (qq + dg v)) - (1 : Int32)) = (Int32.ofNat (pp + 1 + sl v - 1)))) ?_
    refine EndsK.go (fun _ kz => XS.istore X22.here hx rfl (hb hby d57_55) rfl (l' := #[vr y, vi (Int32.ofNat pp), vi v, vi (Int32.ofNat qq), .val (.long (rj v 0)), .second, vi (Int32.ofNat (dg v)), vi (Int32.ofNat (pp + 1 + sl v - 1))]) rfl (XS.aloadN X22.here hx rfl (hb hby d57_57) rfl rfl (XS.iload X22.here hx rfl (hb hby d57_58) rfl kz))) ?_
    refine EndsK.start (congrArg (fun z_ => (mkF m 60 #[vr y, vi (Int32.ofNat pp), vi v, vi (Int32.ofNat qq), .val (.long (rj v 0)), .second, vi (Int32.ofNat (dg v)), vi (Int32.ofNat (pp + 1 + sl v - 1))] [(.int z_), (.ref y)])) (rfl : (Int32.ofNat (pp + 1 + sl v - 1)) = (Int32.ofNat (pp + 1 + sl v - 1 - 0)))) ?_
    obtain ⟨cq23, kq23, qa23, qb23, qc23⟩ := isOf hZ e22 Ey
    obtain ⟨_, T23, Lc23, X23, hQ23, st23⟩ := doneT X22 (X22.virtualBack hx (y := mn41) (z := mn41) hown (mvT hZ (tw hw 197 rfl)) (mvT hZ (tw hw 198 rfl)) (notFace_of_selects (args := #[]) (mvT hZ (tw hw 200 rfl))) (mvT hZ (tw hw 200 rfl)) (mvT hZ (tw hw 199 rfl)) (by decide) (backOf (W := 0) (rm_chA l Z a0 hw [] zc o d u y t F (pp + 1 + sl v - 1 - 0) N h0 n0 Z0 J0 Ey Fyc Fyv B0 (seg_in 0 hp) hN) hZ (tw hw 201 rfl) (tw hw 34 rfl) (by decide) (by decide)) qa23 qc23 (g := (mkF m 60 #[vr y, vi (Int32.ofNat pp), vi v, vi (Int32.ofNat qq), .val (.long (rj v 0)), .second, vi (Int32.ofNat (dg v)), vi (Int32.ofNat (pp + 1 + sl v - 1))] [(.int (Int32.ofNat (pp + 1 + sl v - 1 - 0))), (.ref y)])) rfl (by rw [hml]; rfl) (Steps.refl _) (argsL := [(.int (Int32.ofNat (pp + 1 + sl v - 1 - 0)))]) (rest := []) (lenOf pd26 rfl) rfl (by show 2 * 0 + _ ≤ _; exact Nat.le_of_eq rfl) (hb hby d57_60) (fun _ _ => ⟨rfl, e22, (by decide : 0 + 0 + 0 + 0 ≤ _), (by decide : 0 + 0 + 0 + 0 ≤ _)⟩))
    obtain ⟨rfl, N23, e23⟩ := hQ23
    have M23 := Fr.app M22 N23
    refine EndsK.tr st23 ?_
    refine EndsK.go (fun _ kz => XS.lload X23.here hx rfl (hb hby d57_63) rfl kz) ?_
    obtain ⟨_, T24, Lc24, X24, hQ24, st24⟩ := doneG X23 (Jvm.LawKit.callS X23 hx (y := mn2) hown (mvT hZ (tw hw 337 rfl)) (mvT hZ (tw hw 338 rfl)) (mvT hZ (tw hw 323 rfl)) (mvT hZ (tw hw 339 rfl)) (by decide) (backOf (W := 1) (rm_dig l Z a0 hw [] (rj v 0) h0 n0 Z0) hZ (tw hw 339 rfl) (tw hw 323 rfl) (by decide) (by decide)) (g := (mkF m 65 #[vr y, vi (Int32.ofNat pp), vi v, vi (Int32.ofNat qq), .val (.long (rj v 0)), .second, vi (Int32.ofNat (dg v)), vi (Int32.ofNat (pp + 1 + sl v - 1))] [(.long (rj v 0)), (.int (chF (F (pp + 1 + sl v - 1 - 0))))])) rfl (by rw [hml]; rfl) (argsL := [(.long (rj v 0))]) (rest := [(.int (chF (F (pp + 1 + sl v - 1 - 0))))]) (lenOf pd27 rfl) rfl (by show 2 * 0 + _ ≤ _; exact Nat.le_of_eq rfl) (hb hby d57_65) (fun _ _ => ⟨rfl, e23, (by decide : 0 + 0 + 0 + 0 + 0 ≤ _), (by decide : 0 + 0 + 0 + 0 + 0 ≤ _)⟩))
    obtain ⟨rfl, N24, e24⟩ := hQ24
    have M24 := Fr.app M23 N24
    refine EndsK.go st24 ?_
    refine EndsK.go (fun _ kz => XS.icmpYes X24.here hx rfl (pc0 := 68) (pc' := 73) rfl (hb hby d57_68) rfl (teq (seg_digit hS hj0)).1 (by decide) (by decide) (XS.lload X24.here hx rfl (hb hby d57_73) rfl (X24.ldc2J hx hown (mvT hZ (tw hw 331 rfl)) rfl (hb hby d57_75) (XS.ldiv X24.here hx rfl (hb hby d57_78) rfl (by decide) kz)))) ?_
    refine EndsK.start (congrArg (fun z_ => (mkF m 79 #[vr y, vi (Int32.ofNat pp), vi v, vi (Int32.ofNat qq), .val (.long (rj v 0)), .second, vi (Int32.ofNat (dg v)), vi (Int32.ofNat (pp + 1 + sl v - 1))] [(.long z_)])) (rj_succ v 0 : ((rj v 0) / (10 : Int64)) = (rj v 1))) ?_
    refine EndsK.go (fun _ kz => XS.lstore X24.here hx rfl (hb hby d57_79) rfl (l' := #[vr y, vi (Int32.ofNat pp), vi v, vi (Int32.ofNat qq), .val (.long (rj v 1)), .second, vi (Int32.ofNat (dg v)), vi (Int32.ofNat (pp + 1 + sl v - 1))]) rfl (XS.iload X24.here hx rfl (hb hby d57_81) rfl (XS.iconst X24.here hx rfl (hb hby d57_83) kz))) ?_
    show EndsK p e below _ (T24.setTop (mkF m 84 #[vr y, vi (Int32.ofNat pp), vi v, vi (Int32.ofNat qq), .val (.long (rj v 1)), .second, vi (Int32.ofNat (dg v)), vi (Int32.ofNat (pp + 1 + sl v - 1))] [(.int (1 : Int32)), (.int (Int32.ofNat (dg v)))]))
    by_cases H84_25 : (1 : Int32) < (Int32.ofNat (dg v))
    · refine EndsK.go (fun _ kz => XS.icmpNo X24.here hx rfl (hb hby d57_84) rfl (tlt H84_25).2.2.2 (XS.aloadN X24.here hx rfl (hb hby d57_87) rfl rfl (XS.iload X24.here hx rfl (hb hby d57_88) rfl (XS.iconst X24.here hx rfl (hb hby d57_90) (XS.isub X24.here hx rfl (hb hby d57_91) rfl kz))))) ?_
      have hj1 : 1 < dg v := (on_lt (a := 1) (b := dg v) (by decide) hd31).mp H84_25
      refine EndsK.start (congrArg (fun z_ => (mkF m 92 #[vr y, vi (Int32.ofNat pp), vi v, vi (Int32.ofNat qq), .val (.long (rj v 1)), .second, vi (Int32.ofNat (dg v)), vi (Int32.ofNat (pp + 1 + sl v - 1))] [(.int z_), (.ref y)])) (on_subN (b := 1) (seg_sub hj1) rfl : ((Int32.ofNat (pp + 1 + sl v - 1)) - (1 : Int32)) = (Int32.ofNat (pp + 1 + sl v - 1 - 1)))) ?_
      obtain ⟨cq26, kq26, qa26, qb26, qc26⟩ := isOf hZ e24 Ey
      obtain ⟨_, T26, Lc26, X26, hQ26, st26⟩ := doneT X24 (X24.virtualBack hx (y := mn41) (z := mn41) hown (mvT hZ (tw hw 197 rfl)) (mvT hZ (tw hw 198 rfl)) (notFace_of_selects (args := #[]) (mvT hZ (tw hw 200 rfl))) (mvT hZ (tw hw 200 rfl)) (mvT hZ (tw hw 199 rfl)) (by decide) (backOf (W := 0) (rm_chA l Z a0 hw [] zc o d u y t F (pp + 1 + sl v - 1 - 1) N h0 n0 Z0 J0 Ey Fyc Fyv B0 (seg_in 1 hp) hN) hZ (tw hw 201 rfl) (tw hw 34 rfl) (by decide) (by decide)) qa26 qc26 (g := (mkF m 92 #[vr y, vi (Int32.ofNat pp), vi v, vi (Int32.ofNat qq), .val (.long (rj v 1)), .second, vi (Int32.ofNat (dg v)), vi (Int32.ofNat (pp + 1 + sl v - 1))] [(.int (Int32.ofNat (pp + 1 + sl v - 1 - 1))), (.ref y)])) rfl (by rw [hml]; rfl) (Steps.refl _) (argsL := [(.int (Int32.ofNat (pp + 1 + sl v - 1 - 1)))]) (rest := []) (lenOf pd26 rfl) rfl (by show 2 * 0 + _ ≤ _; exact Nat.le_of_eq rfl) (hb hby d57_92) (fun _ _ => ⟨rfl, e24, (by decide : 0 + 0 + 0 + 0 + 0 + 0 ≤ _), (by decide : 0 + 0 + 0 + 0 + 0 + 0 ≤ _)⟩))
      obtain ⟨rfl, N26, e26⟩ := hQ26
      have M26 := Fr.app M24 N26
      refine EndsK.tr st26 ?_
      refine EndsK.go (fun _ kz => XS.lload X26.here hx rfl (hb hby d57_95) rfl kz) ?_
      obtain ⟨_, T27, Lc27, X27, hQ27, st27⟩ := doneG X26 (Jvm.LawKit.callS X26 hx (y := mn2) hown (mvT hZ (tw hw 337 rfl)) (mvT hZ (tw hw 338 rfl)) (mvT hZ (tw hw 323 rfl)) (mvT hZ (tw hw 339 rfl)) (by decide) (backOf (W := 1) (rm_dig l Z a0 hw [] (rj v 1) h0 n0 Z0) hZ (tw hw 339 rfl) (tw hw 323 rfl) (by decide) (by decide)) (g := (mkF m 97 #[vr y, vi (Int32.ofNat pp), vi v, vi (Int32.ofNat qq), .val (.long (rj v 1)), .second, vi (Int32.ofNat (dg v)), vi (Int32.ofNat (pp + 1 + sl v - 1))] [(.long (rj v 1)), (.int (chF (F (pp + 1 + sl v - 1 - 1))))])) rfl (by rw [hml]; rfl) (argsL := [(.long (rj v 1))]) (rest := [(.int (chF (F (pp + 1 + sl v - 1 - 1))))]) (lenOf pd27 rfl) rfl (by show 2 * 0 + _ ≤ _; exact Nat.le_of_eq rfl) (hb hby d57_97) (fun _ _ => ⟨rfl, e26, (by decide : 0 + 0 + 0 + 0 + 0 + 0 + 0 ≤ _), (by decide : 0 + 0 + 0 + 0 + 0 + 0 + 0 ≤ _)⟩))
      obtain ⟨rfl, N27, e27⟩ := hQ27
      have M27 := Fr.app M26 N27
      refine EndsK.go st27 ?_
      refine EndsK.go (fun _ kz => XS.icmpYes X27.here hx rfl (pc0 := 100) (pc' := 105) rfl (hb hby d57_100) rfl (teq (seg_digit hS hj1)).1 (by decide) (by decide) (XS.lload X27.here hx rfl (hb hby d57_105) rfl (X27.ldc2J hx hown (mvT hZ (tw hw 331 rfl)) rfl (hb hby d57_107) (XS.ldiv X27.here hx rfl (hb hby d57_110) rfl (by decide) kz)))) ?_
      refine EndsK.start (congrArg (fun z_ => (mkF m 111 #[vr y, vi (Int32.ofNat pp), vi v, vi (Int32.ofNat qq), .val (.long (rj v 1)), .second, vi (Int32.ofNat (dg v)), vi (Int32.ofNat (pp + 1 + sl v - 1))] [(.long z_)])) (rj_succ v 1 : ((rj v 1) / (10 : Int64)) = (rj v 2))) ?_
      refine EndsK.go (fun _ kz => XS.lstore X27.here hx rfl (hb hby d57_111) rfl (l' := #[vr y, vi (Int32.ofNat pp), vi v, vi (Int32.ofNat qq), .val (.long (rj v 2)), .second, vi (Int32.ofNat (dg v)), vi (Int32.ofNat (pp + 1 + sl v - 1))]) rfl (XS.iload X27.here hx rfl (hb hby d57_113) rfl (XS.iconst X27.here hx rfl (hb hby d57_115) kz))) ?_
      show EndsK p e below _ (T27.setTop (mkF m 116 #[vr y, vi (Int32.ofNat pp), vi v, vi (Int32.ofNat qq), .val (.long (rj v 2)), .second, vi (Int32.ofNat (dg v)), vi (Int32.ofNat (pp + 1 + sl v - 1))] [(.int (2 : Int32)), (.int (Int32.ofNat (dg v)))]))
      by_cases H116_28 : (2 : Int32) < (Int32.ofNat (dg v))
      · refine EndsK.go (fun _ kz => XS.icmpNo X27.here hx rfl (hb hby d57_116) rfl (tlt H116_28).2.2.2 (XS.aloadN X27.here hx rfl (hb hby d57_119) rfl rfl (XS.iload X27.here hx rfl (hb hby d57_120) rfl (XS.iconst X27.here hx rfl (hb hby d57_122) (XS.isub X27.here hx rfl (hb hby d57_123) rfl kz))))) ?_
        have hj2 : 2 < dg v := (on_lt (a := 2) (b := dg v) (by decide) hd31).mp H116_28
        refine EndsK.start (congrArg (fun z_ => (mkF m 124 #[vr y, vi (Int32.ofNat pp), vi v, vi (Int32.ofNat qq), .val (.long (rj v 2)), .second, vi (Int32.ofNat (dg v)), vi (Int32.ofNat (pp + 1 + sl v - 1))] [(.int z_), (.ref y)])) (on_subN (b := 2) (seg_sub hj2) rfl : ((Int32.ofNat (pp + 1 + sl v - 1)) - (2 : Int32)) = (Int32.ofNat (pp + 1 + sl v - 1 - 2)))) ?_
        obtain ⟨cq29, kq29, qa29, qb29, qc29⟩ := isOf hZ e27 Ey
        obtain ⟨_, T29, Lc29, X29, hQ29, st29⟩ := doneT X27 (X27.virtualBack hx (y := mn41) (z := mn41) hown (mvT hZ (tw hw 197 rfl)) (mvT hZ (tw hw 198 rfl)) (notFace_of_selects (args := #[]) (mvT hZ (tw hw 200 rfl))) (mvT hZ (tw hw 200 rfl)) (mvT hZ (tw hw 199 rfl)) (by decide) (backOf (W := 0) (rm_chA l Z a0 hw [] zc o d u y t F (pp + 1 + sl v - 1 - 2) N h0 n0 Z0 J0 Ey Fyc Fyv B0 (seg_in 2 hp) hN) hZ (tw hw 201 rfl) (tw hw 34 rfl) (by decide) (by decide)) qa29 qc29 (g := (mkF m 124 #[vr y, vi (Int32.ofNat pp), vi v, vi (Int32.ofNat qq), .val (.long (rj v 2)), .second, vi (Int32.ofNat (dg v)), vi (Int32.ofNat (pp + 1 + sl v - 1))] [(.int (Int32.ofNat (pp + 1 + sl v - 1 - 2))), (.ref y)])) rfl (by rw [hml]; rfl) (Steps.refl _) (argsL := [(.int (Int32.ofNat (pp + 1 + sl v - 1 - 2)))]) (rest := []) (lenOf pd26 rfl) rfl (by show 2 * 0 + _ ≤ _; exact Nat.le_of_eq rfl) (hb hby d57_124) (fun _ _ => ⟨rfl, e27, (by decide : 0 + 0 + 0 + 0 + 0 + 0 + 0 + 0 ≤ _), (by decide : 0 + 0 + 0 + 0 + 0 + 0 + 0 + 0 ≤ _)⟩))
        obtain ⟨rfl, N29, e29⟩ := hQ29
        have M29 := Fr.app M27 N29
        refine EndsK.tr st29 ?_
        refine EndsK.go (fun _ kz => XS.lload X29.here hx rfl (hb hby d57_127) rfl kz) ?_
        obtain ⟨_, T30, Lc30, X30, hQ30, st30⟩ := doneG X29 (Jvm.LawKit.callS X29 hx (y := mn2) hown (mvT hZ (tw hw 337 rfl)) (mvT hZ (tw hw 338 rfl)) (mvT hZ (tw hw 323 rfl)) (mvT hZ (tw hw 339 rfl)) (by decide) (backOf (W := 1) (rm_dig l Z a0 hw [] (rj v 2) h0 n0 Z0) hZ (tw hw 339 rfl) (tw hw 323 rfl) (by decide) (by decide)) (g := (mkF m 129 #[vr y, vi (Int32.ofNat pp), vi v, vi (Int32.ofNat qq), .val (.long (rj v 2)), .second, vi (Int32.ofNat (dg v)), vi (Int32.ofNat (pp + 1 + sl v - 1))] [(.long (rj v 2)), (.int (chF (F (pp + 1 + sl v - 1 - 2))))])) rfl (by rw [hml]; rfl) (argsL := [(.long (rj v 2))]) (rest := [(.int (chF (F (pp + 1 + sl v - 1 - 2))))]) (lenOf pd27 rfl) rfl (by show 2 * 0 + _ ≤ _; exact Nat.le_of_eq rfl) (hb hby d57_129) (fun _ _ => ⟨rfl, e29, (by decide : 0 + 0 + 0 + 0 + 0 + 0 + 0 + 0 + 0 ≤ _), (by decide : 0 + 0 + 0 + 0 + 0 + 0 + 0 + 0 + 0 ≤ _)⟩))
        obtain ⟨rfl, N30, e30⟩ := hQ30
        have M30 := Fr.app M29 N30
        refine EndsK.go st30 ?_
        refine EndsK.go (fun _ kz => XS.icmpYes X30.here hx rfl (pc0 := 132) (pc' := 137) rfl (hb hby d57_132) rfl (teq (seg_digit hS hj2)).1 (by decide) (by decide) (XS.lload X30.here hx rfl (hb hby d57_137) rfl (X30.ldc2J hx hown (mvT hZ (tw hw 331 rfl)) rfl (hb hby d57_139) (XS.ldiv X30.here hx rfl (hb hby d57_142) rfl (by decide) kz)))) ?_
        refine EndsK.start (congrArg (fun z_ => (mkF m 143 #[vr y, vi (Int32.ofNat pp), vi v, vi (Int32.ofNat qq), .val (.long (rj v 2)), .second, vi (Int32.ofNat (dg v)), vi (Int32.ofNat (pp + 1 + sl v - 1))] [(.long z_)])) (rj_succ v 2 : ((rj v 2) / (10 : Int64)) = (rj v 3))) ?_
        refine EndsK.go (fun _ kz => XS.lstore X30.here hx rfl (hb hby d57_143) rfl (l' := #[vr y, vi (Int32.ofNat pp), vi v, vi (Int32.ofNat qq), .val (.long (rj v 3)), .second, vi (Int32.ofNat (dg v)), vi (Int32.ofNat (pp + 1 + sl v - 1))]) rfl (XS.iload X30.here hx rfl (hb hby d57_145) rfl (XS.iconst X30.here hx rfl (hb hby d57_147) kz))) ?_
        show EndsK p e below _ (T30.setTop (mkF m 148 #[vr y, vi (Int32.ofNat pp), vi v, vi (Int32.ofNat qq), .val (.long (rj v 3)), .second, vi (Int32.ofNat (dg v)), vi (Int32.ofNat (pp + 1 + sl v - 1))] [(.int (3 : Int32)), (.int (Int32.ofNat (dg v)))]))
        by_cases H148_31 : (3 : Int32) < (Int32.ofNat (dg v))
        · refine EndsK.go (fun _ kz => XS.icmpNo X30.here hx rfl (hb hby d57_148) rfl (tlt H148_31).2.2.2 (XS.aloadN X30.here hx rfl (hb hby d57_151) rfl rfl (XS.iload X30.here hx rfl (hb hby d57_152) rfl (XS.iconst X30.here hx rfl (hb hby d57_154) (XS.isub X30.here hx rfl (hb hby d57_155) rfl kz))))) ?_
          have hj3 : 3 < dg v := (on_lt (a := 3) (b := dg v) (by decide) hd31).mp H148_31
          refine EndsK.start (congrArg (fun z_ => (mkF m 156 #[vr y, vi (Int32.ofNat pp), vi v, vi (Int32.ofNat qq), .val (.long (rj v 3)), .second, vi (Int32.ofNat (dg v)), vi (Int32.ofNat (pp + 1 + sl v - 1))] [(.int z_), (.ref y)])) (on_subN (b := 3) (seg_sub hj3) rfl : ((Int32.ofNat (pp + 1 + sl v - 1)) - (3 : Int32)) = (Int32.ofNat (pp + 1 + sl v - 1 - 3)))) ?_
          obtain ⟨cq32, kq32, qa32, qb32, qc32⟩ := isOf hZ e30 Ey
          obtain ⟨_, T32, Lc32, X32, hQ32, st32⟩ := doneT X30 (X30.virtualBack hx (y := mn41) (z := mn41) hown (mvT hZ (tw hw 197 rfl)) (mvT hZ (tw hw 198 rfl)) (notFace_of_selects (args := #[]) (mvT hZ (tw hw 200 rfl))) (mvT hZ (tw hw 200 rfl)) (mvT hZ (tw hw 199 rfl)) (by decide) (backOf (W := 0) (rm_chA l Z a0 hw [] zc o d u y t F (pp + 1 + sl v - 1 - 3) N h0 n0 Z0 J0 Ey Fyc Fyv B0 (seg_in 3 hp) hN) hZ (tw hw 201 rfl) (tw hw 34 rfl) (by decide) (by decide)) qa32 qc32 (g := (mkF m 156 #[vr y, vi (Int32.ofNat pp), vi v, vi (Int32.ofNat qq), .val (.long (rj v 3)), .second, vi (Int32.ofNat (dg v)), vi (Int32.ofNat (pp + 1 + sl v - 1))] [(.int (Int32.ofNat (pp + 1 + sl v - 1 - 3))), (.ref y)])) rfl (by rw [hml]; rfl) (Steps.refl _) (argsL := [(.int (Int32.ofNat (pp + 1 + sl v - 1 - 3)))]) (rest := []) (lenOf pd26 rfl) rfl (by show 2 * 0 + _ ≤ _; exact Nat.le_of_eq rfl) (hb hby d57_156) (fun _ _ => ⟨rfl, e30, (by decide : 0 + 0 + 0 + 0 + 0 + 0 + 0 + 0 + 0 + 0 ≤ _), (by decide : 0 + 0 + 0 + 0 + 0 + 0 + 0 + 0 + 0 + 0 ≤ _)⟩))
          obtain ⟨rfl, N32, e32⟩ := hQ32
          have M32 := Fr.app M30 N32
          refine EndsK.tr st32 ?_
          refine EndsK.go (fun _ kz => XS.lload X32.here hx rfl (hb hby d57_159) rfl kz) ?_
          obtain ⟨_, T33, Lc33, X33, hQ33, st33⟩ := doneG X32 (Jvm.LawKit.callS X32 hx (y := mn2) hown (mvT hZ (tw hw 337 rfl)) (mvT hZ (tw hw 338 rfl)) (mvT hZ (tw hw 323 rfl)) (mvT hZ (tw hw 339 rfl)) (by decide) (backOf (W := 1) (rm_dig l Z a0 hw [] (rj v 3) h0 n0 Z0) hZ (tw hw 339 rfl) (tw hw 323 rfl) (by decide) (by decide)) (g := (mkF m 161 #[vr y, vi (Int32.ofNat pp), vi v, vi (Int32.ofNat qq), .val (.long (rj v 3)), .second, vi (Int32.ofNat (dg v)), vi (Int32.ofNat (pp + 1 + sl v - 1))] [(.long (rj v 3)), (.int (chF (F (pp + 1 + sl v - 1 - 3))))])) rfl (by rw [hml]; rfl) (argsL := [(.long (rj v 3))]) (rest := [(.int (chF (F (pp + 1 + sl v - 1 - 3))))]) (lenOf pd27 rfl) rfl (by show 2 * 0 + _ ≤ _; exact Nat.le_of_eq rfl) (hb hby d57_161) (fun _ _ => ⟨rfl, e32, (by decide : 0 + 0 + 0 + 0 + 0 + 0 + 0 + 0 + 0 + 0 + 0 ≤ _), (by decide : 0 + 0 + 0 + 0 + 0 + 0 + 0 + 0 + 0 + 0 + 0 ≤ _)⟩))
          obtain ⟨rfl, N33, e33⟩ := hQ33
          have M33 := Fr.app M32 N33
          refine EndsK.go st33 ?_
          refine EndsK.go (fun _ kz => XS.icmpYes X33.here hx rfl (pc0 := 164) (pc' := 169) rfl (hb hby d57_164) rfl (teq (seg_digit hS hj3)).1 (by decide) (by decide) (XS.lload X33.here hx rfl (hb hby d57_169) rfl (X33.ldc2J hx hown (mvT hZ (tw hw 331 rfl)) rfl (hb hby d57_171) (XS.ldiv X33.here hx rfl (hb hby d57_174) rfl (by decide) kz)))) ?_
          refine EndsK.start (congrArg (fun z_ => (mkF m 175 #[vr y, vi (Int32.ofNat pp), vi v, vi (Int32.ofNat qq), .val (.long (rj v 3)), .second, vi (Int32.ofNat (dg v)), vi (Int32.ofNat (pp + 1 + sl v - 1))] [(.long z_)])) (rj_succ v 3 : ((rj v 3) / (10 : Int64)) = (rj v 4))) ?_
          refine EndsK.go (fun _ kz => XS.lstore X33.here hx rfl (hb hby d57_175) rfl (l' := #[vr y, vi (Int32.ofNat pp), vi v, vi (Int32.ofNat qq), .val (.long (rj v 4)), .second, vi (Int32.ofNat (dg v)), vi (Int32.ofNat (pp + 1 + sl v - 1))]) rfl (XS.iload X33.here hx rfl (hb hby d57_177) rfl (XS.iconst X33.here hx rfl (hb hby d57_179) kz))) ?_
          show EndsK p e below _ (T33.setTop (mkF m 180 #[vr y, vi (Int32.ofNat pp), vi v, vi (Int32.ofNat qq), .val (.long (rj v 4)), .second, vi (Int32.ofNat (dg v)), vi (Int32.ofNat (pp + 1 + sl v - 1))] [(.int (4 : Int32)), (.int (Int32.ofNat (dg v)))]))
          by_cases H180_34 : (4 : Int32) < (Int32.ofNat (dg v))
          · refine EndsK.go (fun _ kz => XS.icmpNo X33.here hx rfl (hb hby d57_180) rfl (tlt H180_34).2.2.2 (XS.aloadN X33.here hx rfl (hb hby d57_183) rfl rfl (XS.iload X33.here hx rfl (hb hby d57_184) rfl (XS.iconst X33.here hx rfl (hb hby d57_186) (XS.isub X33.here hx rfl (hb hby d57_187) rfl kz))))) ?_
            have hj4 : 4 < dg v := (on_lt (a := 4) (b := dg v) (by decide) hd31).mp H180_34
            refine EndsK.start (congrArg (fun z_ => (mkF m 188 #[vr y, vi (Int32.ofNat pp), vi v, vi (Int32.ofNat qq), .val (.long (rj v 4)), .second, vi (Int32.ofNat (dg v)), vi (Int32.ofNat (pp + 1 + sl v - 1))] [(.int z_), (.ref y)])) (on_subN (b := 4) (seg_sub hj4) rfl : ((Int32.ofNat (pp + 1 + sl v - 1)) - (4 : Int32)) = (Int32.ofNat (pp + 1 + sl v - 1 - 4)))) ?_
            obtain ⟨cq35, kq35, qa35, qb35, qc35⟩ := isOf hZ e33 Ey
            obtain ⟨_, T35, Lc35, X35, hQ35, st35⟩ := doneT X33 (X33.virtualBack hx (y := mn41) (z := mn41) hown (mvT hZ (tw hw 197 rfl)) (mvT hZ (tw hw 198 rfl)) (notFace_of_selects (args := #[]) (mvT hZ (tw hw 200 rfl))) (mvT hZ (tw hw 200 rfl)) (mvT hZ (tw hw 199 rfl)) (by decide) (backOf (W := 0) (rm_chA l Z a0 hw [] zc o d u y t F (pp + 1 + sl v - 1 - 4) N h0 n0 Z0 J0 Ey Fyc Fyv B0 (seg_in 4 hp) hN) hZ (tw hw 201 rfl) (tw hw 34 rfl) (by decide) (by decide)) qa35 qc35 (g := (mkF m 188 #[vr y, vi (Int32.ofNat pp), vi v, vi (Int32.ofNat qq), .val (.long (rj v 4)), .second, vi (Int32.ofNat (dg v)), vi (Int32.ofNat (pp + 1 + sl v - 1))] [(.int (Int32.ofNat (pp + 1 + sl v - 1 - 4))), (.ref y)])) rfl (by rw [hml]; rfl) (Steps.refl _) (argsL := [(.int (Int32.ofNat (pp + 1 + sl v - 1 - 4)))]) (rest := []) (lenOf pd26 rfl) rfl (by show 2 * 0 + _ ≤ _; exact Nat.le_of_eq rfl) (hb hby d57_188) (fun _ _ => ⟨rfl, e33, (by decide : 0 + 0 + 0 + 0 + 0 + 0 + 0 + 0 + 0 + 0 + 0 + 0 ≤ _), (by decide : 0 + 0 + 0 + 0 + 0 + 0 + 0 + 0 + 0 + 0 + 0 + 0 ≤ _)⟩))
            obtain ⟨rfl, N35, e35⟩ := hQ35
            have M35 := Fr.app M33 N35
            refine EndsK.tr st35 ?_
            refine EndsK.go (fun _ kz => XS.lload X35.here hx rfl (hb hby d57_191) rfl kz) ?_
            obtain ⟨_, T36, Lc36, X36, hQ36, st36⟩ := doneG X35 (Jvm.LawKit.callS X35 hx (y := mn2) hown (mvT hZ (tw hw 337 rfl)) (mvT hZ (tw hw 338 rfl)) (mvT hZ (tw hw 323 rfl)) (mvT hZ (tw hw 339 rfl)) (by decide) (backOf (W := 1) (rm_dig l Z a0 hw [] (rj v 4) h0 n0 Z0) hZ (tw hw 339 rfl) (tw hw 323 rfl) (by decide) (by decide)) (g := (mkF m 193 #[vr y, vi (Int32.ofNat pp), vi v, vi (Int32.ofNat qq), .val (.long (rj v 4)), .second, vi (Int32.ofNat (dg v)), vi (Int32.ofNat (pp + 1 + sl v - 1))] [(.long (rj v 4)), (.int (chF (F (pp + 1 + sl v - 1 - 4))))])) rfl (by rw [hml]; rfl) (argsL := [(.long (rj v 4))]) (rest := [(.int (chF (F (pp + 1 + sl v - 1 - 4))))]) (lenOf pd27 rfl) rfl (by show 2 * 0 + _ ≤ _; exact Nat.le_of_eq rfl) (hb hby d57_193) (fun _ _ => ⟨rfl, e35, (by decide : 0 + 0 + 0 + 0 + 0 + 0 + 0 + 0 + 0 + 0 + 0 + 0 + 0 ≤ _), (by decide : 0 + 0 + 0 + 0 + 0 + 0 + 0 + 0 + 0 + 0 + 0 + 0 + 0 ≤ _)⟩))
            obtain ⟨rfl, N36, e36⟩ := hQ36
            have M36 := Fr.app M35 N36
            refine EndsK.go st36 ?_
            refine EndsK.go (fun _ kz => XS.icmpYes X36.here hx rfl (pc0 := 196) (pc' := 201) rfl (hb hby d57_196) rfl (teq (seg_digit hS hj4)).1 (by decide) (by decide) (XS.lload X36.here hx rfl (hb hby d57_201) rfl (X36.ldc2J hx hown (mvT hZ (tw hw 331 rfl)) rfl (hb hby d57_203) (XS.ldiv X36.here hx rfl (hb hby d57_206) rfl (by decide) kz)))) ?_
            refine EndsK.start (congrArg (fun z_ => (mkF m 207 #[vr y, vi (Int32.ofNat pp), vi v, vi (Int32.ofNat qq), .val (.long (rj v 4)), .second, vi (Int32.ofNat (dg v)), vi (Int32.ofNat (pp + 1 + sl v - 1))] [(.long z_)])) (rj_succ v 4 : ((rj v 4) / (10 : Int64)) = (rj v 5))) ?_
            refine EndsK.go (fun _ kz => XS.lstore X36.here hx rfl (hb hby d57_207) rfl (l' := #[vr y, vi (Int32.ofNat pp), vi v, vi (Int32.ofNat qq), .val (.long (rj v 5)), .second, vi (Int32.ofNat (dg v)), vi (Int32.ofNat (pp + 1 + sl v - 1))]) rfl (XS.iload X36.here hx rfl (hb hby d57_209) rfl (XS.iconst X36.here hx rfl (hb hby d57_211) kz))) ?_
            show EndsK p e below _ (T36.setTop (mkF m 212 #[vr y, vi (Int32.ofNat pp), vi v, vi (Int32.ofNat qq), .val (.long (rj v 5)), .second, vi (Int32.ofNat (dg v)), vi (Int32.ofNat (pp + 1 + sl v - 1))] [(.int (5 : Int32)), (.int (Int32.ofNat (dg v)))]))
            by_cases H212_37 : (5 : Int32) < (Int32.ofNat (dg v))
            · refine EndsK.go (fun _ kz => XS.icmpNo X36.here hx rfl (hb hby d57_212) rfl (tlt H212_37).2.2.2 (XS.aloadN X36.here hx rfl (hb hby d57_215) rfl rfl (XS.iload X36.here hx rfl (hb hby d57_216) rfl (XS.iconst X36.here hx rfl (hb hby d57_218) (XS.isub X36.here hx rfl (hb hby d57_219) rfl kz))))) ?_
              have hj5 : 5 < dg v := (on_lt (a := 5) (b := dg v) (by decide) hd31).mp H212_37
              refine EndsK.start (congrArg (fun z_ => (mkF m 220 #[vr y, vi (Int32.ofNat pp), vi v, vi (Int32.ofNat qq), .val (.long (rj v 5)), .second, vi (Int32.ofNat (dg v)), vi (Int32.ofNat (pp + 1 + sl v - 1))] [(.int z_), (.ref y)])) (on_subN (b := 5) (seg_sub hj5) rfl : ((Int32.ofNat (pp + 1 + sl v - 1)) - (5 : Int32)) = (Int32.ofNat (pp + 1 + sl v - 1 - 5)))) ?_
              obtain ⟨cq38, kq38, qa38, qb38, qc38⟩ := isOf hZ e36 Ey
              obtain ⟨_, T38, Lc38, X38, hQ38, st38⟩ := doneT X36 (X36.virtualBack hx (y := mn41) (z := mn41) hown (mvT hZ (tw hw 197 rfl)) (mvT hZ (tw hw 198 rfl)) (notFace_of_selects (args := #[]) (mvT hZ (tw hw 200 rfl))) (mvT hZ (tw hw 200 rfl)) (mvT hZ (tw hw 199 rfl)) (by decide) (backOf (W := 0) (rm_chA l Z a0 hw [] zc o d u y t F (pp + 1 + sl v - 1 - 5) N h0 n0 Z0 J0 Ey Fyc Fyv B0 (seg_in 5 hp) hN) hZ (tw hw 201 rfl) (tw hw 34 rfl) (by decide) (by decide)) qa38 qc38 (g := (mkF m 220 #[vr y, vi (Int32.ofNat pp), vi v, vi (Int32.ofNat qq), .val (.long (rj v 5)), .second, vi (Int32.ofNat (dg v)), vi (Int32.ofNat (pp + 1 + sl v - 1))] [(.int (Int32.ofNat (pp + 1 + sl v - 1 - 5))), (.ref y)])) rfl (by rw [hml]; rfl) (Steps.refl _) (argsL := [(.int (Int32.ofNat (pp + 1 + sl v - 1 - 5)))]) (rest := []) (lenOf pd26 rfl) rfl (by show 2 * 0 + _ ≤ _; exact Nat.le_of_eq rfl) (hb hby d57_220) (fun _ _ => ⟨rfl, e36, (by decide : 0 + 0 + 0 + 0 + 0 + 0 + 0 + 0 + 0 + 0 + 0 + 0 + 0 + 0 ≤ _), (by decide : 0 + 0 + 0 + 0 + 0 + 0 + 0 + 0 + 0 + 0 + 0 + 0 + 0 + 0 ≤ _)⟩))
              obtain ⟨rfl, N38, e38⟩ := hQ38
              have M38 := Fr.app M36 N38
              refine EndsK.tr st38 ?_
              refine EndsK.go (fun _ kz => XS.lload X38.here hx rfl (hb hby d57_223) rfl kz) ?_
              obtain ⟨_, T39, Lc39, X39, hQ39, st39⟩ := doneG X38 (Jvm.LawKit.callS X38 hx (y := mn2) hown (mvT hZ (tw hw 337 rfl)) (mvT hZ (tw hw 338 rfl)) (mvT hZ (tw hw 323 rfl)) (mvT hZ (tw hw 339 rfl)) (by decide) (backOf (W := 1) (rm_dig l Z a0 hw [] (rj v 5) h0 n0 Z0) hZ (tw hw 339 rfl) (tw hw 323 rfl) (by decide) (by decide)) (g := (mkF m 225 #[vr y, vi (Int32.ofNat pp), vi v, vi (Int32.ofNat qq), .val (.long (rj v 5)), .second, vi (Int32.ofNat (dg v)), vi (Int32.ofNat (pp + 1 + sl v - 1))] [(.long (rj v 5)), (.int (chF (F (pp + 1 + sl v - 1 - 5))))])) rfl (by rw [hml]; rfl) (argsL := [(.long (rj v 5))]) (rest := [(.int (chF (F (pp + 1 + sl v - 1 - 5))))]) (lenOf pd27 rfl) rfl (by show 2 * 0 + _ ≤ _; exact Nat.le_of_eq rfl) (hb hby d57_225) (fun _ _ => ⟨rfl, e38, (by decide : 0 + 0 + 0 + 0 + 0 + 0 + 0 + 0 + 0 + 0 + 0 + 0 + 0 + 0 + 0 ≤ _), (by decide : 0 + 0 + 0 + 0 + 0 + 0 + 0 + 0 + 0 + 0 + 0 + 0 + 0 + 0 + 0 ≤ _)⟩))
              obtain ⟨rfl, N39, e39⟩ := hQ39
              have M39 := Fr.app M38 N39
              refine EndsK.go st39 ?_
              refine EndsK.go (fun _ kz => XS.icmpYes X39.here hx rfl (pc0 := 228) (pc' := 233) rfl (hb hby d57_228) rfl (teq (seg_digit hS hj5)).1 (by decide) (by decide) (XS.lload X39.here hx rfl (hb hby d57_233) rfl (X39.ldc2J hx hown (mvT hZ (tw hw 331 rfl)) rfl (hb hby d57_235) (XS.ldiv X39.here hx rfl (hb hby d57_238) rfl (by decide) kz)))) ?_
              refine EndsK.start (congrArg (fun z_ => (mkF m 239 #[vr y, vi (Int32.ofNat pp), vi v, vi (Int32.ofNat qq), .val (.long (rj v 5)), .second, vi (Int32.ofNat (dg v)), vi (Int32.ofNat (pp + 1 + sl v - 1))] [(.long z_)])) (rj_succ v 5 : ((rj v 5) / (10 : Int64)) = (rj v 6))) ?_
              refine EndsK.go (fun _ kz => XS.lstore X39.here hx rfl (hb hby d57_239) rfl (l' := #[vr y, vi (Int32.ofNat pp), vi v, vi (Int32.ofNat qq), .val (.long (rj v 6)), .second, vi (Int32.ofNat (dg v)), vi (Int32.ofNat (pp + 1 + sl v - 1))]) rfl (XS.iload X39.here hx rfl (hb hby d57_241) rfl (XS.bipush X39.here hx rfl (hb hby d57_243) kz))) ?_
              show EndsK p e below _ (T39.setTop (mkF m 245 #[vr y, vi (Int32.ofNat pp), vi v, vi (Int32.ofNat qq), .val (.long (rj v 6)), .second, vi (Int32.ofNat (dg v)), vi (Int32.ofNat (pp + 1 + sl v - 1))] [(.int (6 : Int32)), (.int (Int32.ofNat (dg v)))]))
              by_cases H245_40 : (6 : Int32) < (Int32.ofNat (dg v))
              · refine EndsK.go (fun _ kz => XS.icmpNo X39.here hx rfl (hb hby d57_245) rfl (tlt H245_40).2.2.2 (XS.aloadN X39.here hx rfl (hb hby d57_248) rfl rfl (XS.iload X39.here hx rfl (hb hby d57_249) rfl (XS.bipush X39.here hx rfl (hb hby d57_251) (XS.isub X39.here hx rfl (hb hby d57_253) rfl kz))))) ?_
                have hj6 : 6 < dg v := (on_lt (a := 6) (b := dg v) (by decide) hd31).mp H245_40
                refine EndsK.start (congrArg (fun z_ => (mkF m 254 #[vr y, vi (Int32.ofNat pp), vi v, vi (Int32.ofNat qq), .val (.long (rj v 6)), .second, vi (Int32.ofNat (dg v)), vi (Int32.ofNat (pp + 1 + sl v - 1))] [(.int z_), (.ref y)])) (on_subN (b := 6) (seg_sub hj6) rfl : ((Int32.ofNat (pp + 1 + sl v - 1)) - (6 : Int32)) = (Int32.ofNat (pp + 1 + sl v - 1 - 6)))) ?_
                obtain ⟨cq41, kq41, qa41, qb41, qc41⟩ := isOf hZ e39 Ey
                obtain ⟨_, T41, Lc41, X41, hQ41, st41⟩ := doneT X39 (X39.virtualBack hx (y := mn41) (z := mn41) hown (mvT hZ (tw hw 197 rfl)) (mvT hZ (tw hw 198 rfl)) (notFace_of_selects (args := #[]) (mvT hZ (tw hw 200 rfl))) (mvT hZ (tw hw 200 rfl)) (mvT hZ (tw hw 199 rfl)) (by decide) (backOf (W := 0) (rm_chA l Z a0 hw [] zc o d u y t F (pp + 1 + sl v - 1 - 6) N h0 n0 Z0 J0 Ey Fyc Fyv B0 (seg_in 6 hp) hN) hZ (tw hw 201 rfl) (tw hw 34 rfl) (by decide) (by decide)) qa41 qc41 (g := (mkF m 254 #[vr y, vi (Int32.ofNat pp), vi v, vi (Int32.ofNat qq), .val (.long (rj v 6)), .second, vi (Int32.ofNat (dg v)), vi (Int32.ofNat (pp + 1 + sl v - 1))] [(.int (Int32.ofNat (pp + 1 + sl v - 1 - 6))), (.ref y)])) rfl (by rw [hml]; rfl) (Steps.refl _) (argsL := [(.int (Int32.ofNat (pp + 1 + sl v - 1 - 6)))]) (rest := []) (lenOf pd26 rfl) rfl (by show 2 * 0 + _ ≤ _; exact Nat.le_of_eq rfl) (hb hby d57_254) (fun _ _ => ⟨rfl, e39, (by decide : 0 + 0 + 0 + 0 + 0 + 0 + 0 + 0 + 0 + 0 + 0 + 0 + 0 + 0 + 0 + 0 ≤ _), (by decide : 0 + 0 + 0 + 0 + 0 + 0 + 0 + 0 + 0 + 0 + 0 + 0 + 0 + 0 + 0 + 0 ≤ _)⟩))
                obtain ⟨rfl, N41, e41⟩ := hQ41
                have M41 := Fr.app M39 N41
                refine EndsK.tr st41 ?_
                refine EndsK.go (fun _ kz => XS.lload X41.here hx rfl (hb hby d57_257) rfl kz) ?_
                obtain ⟨_, T42, Lc42, X42, hQ42, st42⟩ := doneG X41 (Jvm.LawKit.callS X41 hx (y := mn2) hown (mvT hZ (tw hw 337 rfl)) (mvT hZ (tw hw 338 rfl)) (mvT hZ (tw hw 323 rfl)) (mvT hZ (tw hw 339 rfl)) (by decide) (backOf (W := 1) (rm_dig l Z a0 hw [] (rj v 6) h0 n0 Z0) hZ (tw hw 339 rfl) (tw hw 323 rfl) (by decide) (by decide)) (g := (mkF m 259 #[vr y, vi (Int32.ofNat pp), vi v, vi (Int32.ofNat qq), .val (.long (rj v 6)), .second, vi (Int32.ofNat (dg v)), vi (Int32.ofNat (pp + 1 + sl v - 1))] [(.long (rj v 6)), (.int (chF (F (pp + 1 + sl v - 1 - 6))))])) rfl (by rw [hml]; rfl) (argsL := [(.long (rj v 6))]) (rest := [(.int (chF (F (pp + 1 + sl v - 1 - 6))))]) (lenOf pd27 rfl) rfl (by show 2 * 0 + _ ≤ _; exact Nat.le_of_eq rfl) (hb hby d57_259) (fun _ _ => ⟨rfl, e41, (by decide : 0 + 0 + 0 + 0 + 0 + 0 + 0 + 0 + 0 + 0 + 0 + 0 + 0 + 0 + 0 + 0 + 0 ≤ _), (by decide : 0 + 0 + 0 + 0 + 0 + 0 + 0 + 0 + 0 + 0 + 0 + 0 + 0 + 0 + 0 + 0 + 0 ≤ _)⟩))
                obtain ⟨rfl, N42, e42⟩ := hQ42
                have M42 := Fr.app M41 N42
                refine EndsK.go st42 ?_
                refine EndsK.go (fun _ kz => XS.icmpYes X42.here hx rfl (pc0 := 262) (pc' := 267) rfl (hb hby d57_262) rfl (teq (seg_digit hS hj6)).1 (by decide) (by decide) (XS.lload X42.here hx rfl (hb hby d57_267) rfl (X42.ldc2J hx hown (mvT hZ (tw hw 331 rfl)) rfl (hb hby d57_269) (XS.ldiv X42.here hx rfl (hb hby d57_272) rfl (by decide) kz)))) ?_
                refine EndsK.start (congrArg (fun z_ => (mkF m 273 #[vr y, vi (Int32.ofNat pp), vi v, vi (Int32.ofNat qq), .val (.long (rj v 6)), .second, vi (Int32.ofNat (dg v)), vi (Int32.ofNat (pp + 1 + sl v - 1))] [(.long z_)])) (rj_succ v 6 : ((rj v 6) / (10 : Int64)) = (rj v 7))) ?_
                refine EndsK.go (fun _ kz => XS.lstore X42.here hx rfl (hb hby d57_273) rfl (l' := #[vr y, vi (Int32.ofNat pp), vi v, vi (Int32.ofNat qq), .val (.long (rj v 7)), .second, vi (Int32.ofNat (dg v)), vi (Int32.ofNat (pp + 1 + sl v - 1))]) rfl (XS.iload X42.here hx rfl (hb hby d57_275) rfl (XS.bipush X42.here hx rfl (hb hby d57_277) kz))) ?_
                show EndsK p e below _ (T42.setTop (mkF m 279 #[vr y, vi (Int32.ofNat pp), vi v, vi (Int32.ofNat qq), .val (.long (rj v 7)), .second, vi (Int32.ofNat (dg v)), vi (Int32.ofNat (pp + 1 + sl v - 1))] [(.int (7 : Int32)), (.int (Int32.ofNat (dg v)))]))
                by_cases H279_43 : (7 : Int32) < (Int32.ofNat (dg v))
                · refine EndsK.go (fun _ kz => XS.icmpNo X42.here hx rfl (hb hby d57_279) rfl (tlt H279_43).2.2.2 (XS.aloadN X42.here hx rfl (hb hby d57_282) rfl rfl (XS.iload X42.here hx rfl (hb hby d57_283) rfl (XS.bipush X42.here hx rfl (hb hby d57_285) (XS.isub X42.here hx rfl (hb hby d57_287) rfl kz))))) ?_
                  have hj7 : 7 < dg v := (on_lt (a := 7) (b := dg v) (by decide) hd31).mp H279_43
                  refine EndsK.start (congrArg (fun z_ => (mkF m 288 #[vr y, vi (Int32.ofNat pp), vi v, vi (Int32.ofNat qq), .val (.long (rj v 7)), .second, vi (Int32.ofNat (dg v)), vi (Int32.ofNat (pp + 1 + sl v - 1))] [(.int z_), (.ref y)])) (on_subN (b := 7) (seg_sub hj7) rfl : ((Int32.ofNat (pp + 1 + sl v - 1)) - (7 : Int32)) = (Int32.ofNat (pp + 1 + sl v - 1 - 7)))) ?_
                  obtain ⟨cq44, kq44, qa44, qb44, qc44⟩ := isOf hZ e42 Ey
                  obtain ⟨_, T44, Lc44, X44, hQ44, st44⟩ := doneT X42 (X42.virtualBack hx (y := mn41) (z := mn41) hown (mvT hZ (tw hw 197 rfl)) (mvT hZ (tw hw 198 rfl)) (notFace_of_selects (args := #[]) (mvT hZ (tw hw 200 rfl))) (mvT hZ (tw hw 200 rfl)) (mvT hZ (tw hw 199 rfl)) (by decide) (backOf (W := 0) (rm_chA l Z a0 hw [] zc o d u y t F (pp + 1 + sl v - 1 - 7) N h0 n0 Z0 J0 Ey Fyc Fyv B0 (seg_in 7 hp) hN) hZ (tw hw 201 rfl) (tw hw 34 rfl) (by decide) (by decide)) qa44 qc44 (g := (mkF m 288 #[vr y, vi (Int32.ofNat pp), vi v, vi (Int32.ofNat qq), .val (.long (rj v 7)), .second, vi (Int32.ofNat (dg v)), vi (Int32.ofNat (pp + 1 + sl v - 1))] [(.int (Int32.ofNat (pp + 1 + sl v - 1 - 7))), (.ref y)])) rfl (by rw [hml]; rfl) (Steps.refl _) (argsL := [(.int (Int32.ofNat (pp + 1 + sl v - 1 - 7)))]) (rest := []) (lenOf pd26 rfl) rfl (by show 2 * 0 + _ ≤ _; exact Nat.le_of_eq rfl) (hb hby d57_288) (fun _ _ => ⟨rfl, e42, (by decide : 0 + 0 + 0 + 0 + 0 + 0 + 0 + 0 + 0 + 0 + 0 + 0 + 0 + 0 + 0 + 0 + 0 + 0 ≤ _), (by decide : 0 + 0 + 0 + 0 + 0 + 0 + 0 + 0 + 0 + 0 + 0 + 0 + 0 + 0 + 0 + 0 + 0 + 0 ≤ _)⟩))
                  obtain ⟨rfl, N44, e44⟩ := hQ44
                  have M44 := Fr.app M42 N44
                  refine EndsK.tr st44 ?_
                  refine EndsK.go (fun _ kz => XS.lload X44.here hx rfl (hb hby d57_291) rfl kz) ?_
                  obtain ⟨_, T45, Lc45, X45, hQ45, st45⟩ := doneG X44 (Jvm.LawKit.callS X44 hx (y := mn2) hown (mvT hZ (tw hw 337 rfl)) (mvT hZ (tw hw 338 rfl)) (mvT hZ (tw hw 323 rfl)) (mvT hZ (tw hw 339 rfl)) (by decide) (backOf (W := 1) (rm_dig l Z a0 hw [] (rj v 7) h0 n0 Z0) hZ (tw hw 339 rfl) (tw hw 323 rfl) (by decide) (by decide)) (g := (mkF m 293 #[vr y, vi (Int32.ofNat pp), vi v, vi (Int32.ofNat qq), .val (.long (rj v 7)), .second, vi (Int32.ofNat (dg v)), vi (Int32.ofNat (pp + 1 + sl v - 1))] [(.long (rj v 7)), (.int (chF (F (pp + 1 + sl v - 1 - 7))))])) rfl (by rw [hml]; rfl) (argsL := [(.long (rj v 7))]) (rest := [(.int (chF (F (pp + 1 + sl v - 1 - 7))))]) (lenOf pd27 rfl) rfl (by show 2 * 0 + _ ≤ _; exact Nat.le_of_eq rfl) (hb hby d57_293) (fun _ _ => ⟨rfl, e44, (by decide : 0 + 0 + 0 + 0 + 0 + 0 + 0 + 0 + 0 + 0 + 0 + 0 + 0 + 0 + 0 + 0 + 0 + 0 + 0 ≤ _), (by decide : 0 + 0 + 0 + 0 + 0 + 0 + 0 + 0 + 0 + 0 + 0 + 0 + 0 + 0 + 0 + 0 + 0 + 0 + 0 ≤ _)⟩))
                  obtain ⟨rfl, N45, e45⟩ := hQ45
                  have M45 := Fr.app M44 N45
                  refine EndsK.go st45 ?_
                  refine EndsK.go (fun _ kz => XS.icmpYes X45.here hx rfl (pc0 := 296) (pc' := 301) rfl (hb hby d57_296) rfl (teq (seg_digit hS hj7)).1 (by decide) (by decide) (XS.lload X45.here hx rfl (hb hby d57_301) rfl (X45.ldc2J hx hown (mvT hZ (tw hw 331 rfl)) rfl (hb hby d57_303) (XS.ldiv X45.here hx rfl (hb hby d57_306) rfl (by decide) kz)))) ?_
                  refine EndsK.start (congrArg (fun z_ => (mkF m 307 #[vr y, vi (Int32.ofNat pp), vi v, vi (Int32.ofNat qq), .val (.long (rj v 7)), .second, vi (Int32.ofNat (dg v)), vi (Int32.ofNat (pp + 1 + sl v - 1))] [(.long z_)])) (rj_succ v 7 : ((rj v 7) / (10 : Int64)) = (rj v 8))) ?_
                  refine EndsK.go (fun _ kz => XS.lstore X45.here hx rfl (hb hby d57_307) rfl (l' := #[vr y, vi (Int32.ofNat pp), vi v, vi (Int32.ofNat qq), .val (.long (rj v 8)), .second, vi (Int32.ofNat (dg v)), vi (Int32.ofNat (pp + 1 + sl v - 1))]) rfl (XS.iload X45.here hx rfl (hb hby d57_309) rfl (XS.bipush X45.here hx rfl (hb hby d57_311) kz))) ?_
                  show EndsK p e below _ (T45.setTop (mkF m 313 #[vr y, vi (Int32.ofNat pp), vi v, vi (Int32.ofNat qq), .val (.long (rj v 8)), .second, vi (Int32.ofNat (dg v)), vi (Int32.ofNat (pp + 1 + sl v - 1))] [(.int (8 : Int32)), (.int (Int32.ofNat (dg v)))]))
                  by_cases H313_46 : (8 : Int32) < (Int32.ofNat (dg v))
                  · refine EndsK.go (fun _ kz => XS.icmpNo X45.here hx rfl (hb hby d57_313) rfl (tlt H313_46).2.2.2 (XS.aloadN X45.here hx rfl (hb hby d57_316) rfl rfl (XS.iload X45.here hx rfl (hb hby d57_317) rfl (XS.bipush X45.here hx rfl (hb hby d57_319) (XS.isub X45.here hx rfl (hb hby d57_321) rfl kz))))) ?_
                    have hj8 : 8 < dg v := (on_lt (a := 8) (b := dg v) (by decide) hd31).mp H313_46
                    refine EndsK.start (congrArg (fun z_ => (mkF m 322 #[vr y, vi (Int32.ofNat pp), vi v, vi (Int32.ofNat qq), .val (.long (rj v 8)), .second, vi (Int32.ofNat (dg v)), vi (Int32.ofNat (pp + 1 + sl v - 1))] [(.int z_), (.ref y)])) (on_subN (b := 8) (seg_sub hj8) rfl : ((Int32.ofNat (pp + 1 + sl v - 1)) - (8 : Int32)) = (Int32.ofNat (pp + 1 + sl v - 1 - 8)))) ?_
                    obtain ⟨cq47, kq47, qa47, qb47, qc47⟩ := isOf hZ e45 Ey
                    obtain ⟨_, T47, Lc47, X47, hQ47, st47⟩ := doneT X45 (X45.virtualBack hx (y := mn41) (z := mn41) hown (mvT hZ (tw hw 197 rfl)) (mvT hZ (tw hw 198 rfl)) (notFace_of_selects (args := #[]) (mvT hZ (tw hw 200 rfl))) (mvT hZ (tw hw 200 rfl)) (mvT hZ (tw hw 199 rfl)) (by decide) (backOf (W := 0) (rm_chA l Z a0 hw [] zc o d u y t F (pp + 1 + sl v - 1 - 8) N h0 n0 Z0 J0 Ey Fyc Fyv B0 (seg_in 8 hp) hN) hZ (tw hw 201 rfl) (tw hw 34 rfl) (by decide) (by decide)) qa47 qc47 (g := (mkF m 322 #[vr y, vi (Int32.ofNat pp), vi v, vi (Int32.ofNat qq), .val (.long (rj v 8)), .second, vi (Int32.ofNat (dg v)), vi (Int32.ofNat (pp + 1 + sl v - 1))] [(.int (Int32.ofNat (pp + 1 + sl v - 1 - 8))), (.ref y)])) rfl (by rw [hml]; rfl) (Steps.refl _) (argsL := [(.int (Int32.ofNat (pp + 1 + sl v - 1 - 8)))]) (rest := []) (lenOf pd26 rfl) rfl (by show 2 * 0 + _ ≤ _; exact Nat.le_of_eq rfl) (hb hby d57_322) (fun _ _ => ⟨rfl, e45, (by decide : 0 + 0 + 0 + 0 + 0 + 0 + 0 + 0 + 0 + 0 + 0 + 0 + 0 + 0 + 0 + 0 + 0 + 0 + 0 + 0 ≤ _), (by decide : 0 + 0 + 0 + 0 + 0 + 0 + 0 + 0 + 0 + 0 + 0 + 0 + 0 + 0 + 0 + 0 + 0 + 0 + 0 + 0 ≤ _)⟩))
                    obtain ⟨rfl, N47, e47⟩ := hQ47
                    have M47 := Fr.app M45 N47
                    refine EndsK.tr st47 ?_
                    refine EndsK.go (fun _ kz => XS.lload X47.here hx rfl (hb hby d57_325) rfl kz) ?_
                    obtain ⟨_, T48, Lc48, X48, hQ48, st48⟩ := doneG X47 (Jvm.LawKit.callS X47 hx (y := mn2) hown (mvT hZ (tw hw 337 rfl)) (mvT hZ (tw hw 338 rfl)) (mvT hZ (tw hw 323 rfl)) (mvT hZ (tw hw 339 rfl)) (by decide) (backOf (W := 1) (rm_dig l Z a0 hw [] (rj v 8) h0 n0 Z0) hZ (tw hw 339 rfl) (tw hw 323 rfl) (by decide) (by decide)) (g := (mkF m 327 #[vr y, vi (Int32.ofNat pp), vi v, vi (Int32.ofNat qq), .val (.long (rj v 8)), .second, vi (Int32.ofNat (dg v)), vi (Int32.ofNat (pp + 1 + sl v - 1))] [(.long (rj v 8)), (.int (chF (F (pp + 1 + sl v - 1 - 8))))])) rfl (by rw [hml]; rfl) (argsL := [(.long (rj v 8))]) (rest := [(.int (chF (F (pp + 1 + sl v - 1 - 8))))]) (lenOf pd27 rfl) rfl (by show 2 * 0 + _ ≤ _; exact Nat.le_of_eq rfl) (hb hby d57_327) (fun _ _ => ⟨rfl, e47, (by decide : 0 + 0 + 0 + 0 + 0 + 0 + 0 + 0 + 0 + 0 + 0 + 0 + 0 + 0 + 0 + 0 + 0 + 0 + 0 + 0 + 0 ≤ _), (by decide : 0 + 0 + 0 + 0 + 0 + 0 + 0 + 0 + 0 + 0 + 0 + 0 + 0 + 0 + 0 + 0 + 0 + 0 + 0 + 0 + 0 ≤ _)⟩))
                    obtain ⟨rfl, N48, e48⟩ := hQ48
                    have M48 := Fr.app M47 N48
                    refine EndsK.go st48 ?_
                    refine EndsK.go (fun _ kz => XS.icmpYes X48.here hx rfl (pc0 := 330) (pc' := 335) rfl (hb hby d57_330) rfl (teq (seg_digit hS hj8)).1 (by decide) (by decide) (XS.lload X48.here hx rfl (hb hby d57_335) rfl (X48.ldc2J hx hown (mvT hZ (tw hw 331 rfl)) rfl (hb hby d57_337) (XS.ldiv X48.here hx rfl (hb hby d57_340) rfl (by decide) kz)))) ?_
                    refine EndsK.start (congrArg (fun z_ => (mkF m 341 #[vr y, vi (Int32.ofNat pp), vi v, vi (Int32.ofNat qq), .val (.long (rj v 8)), .second, vi (Int32.ofNat (dg v)), vi (Int32.ofNat (pp + 1 + sl v - 1))] [(.long z_)])) (rj_succ v 8 : ((rj v 8) / (10 : Int64)) = (rj v 9))) ?_
                    refine EndsK.go (fun _ kz => XS.lstore X48.here hx rfl (hb hby d57_341) rfl (l' := #[vr y, vi (Int32.ofNat pp), vi v, vi (Int32.ofNat qq), .val (.long (rj v 9)), .second, vi (Int32.ofNat (dg v)), vi (Int32.ofNat (pp + 1 + sl v - 1))]) rfl (XS.iload X48.here hx rfl (hb hby d57_343) rfl (XS.bipush X48.here hx rfl (hb hby d57_345) kz))) ?_
                    show EndsK p e below _ (T48.setTop (mkF m 347 #[vr y, vi (Int32.ofNat pp), vi v, vi (Int32.ofNat qq), .val (.long (rj v 9)), .second, vi (Int32.ofNat (dg v)), vi (Int32.ofNat (pp + 1 + sl v - 1))] [(.int (9 : Int32)), (.int (Int32.ofNat (dg v)))]))
                    by_cases H347_49 : (9 : Int32) < (Int32.ofNat (dg v))
                    · refine EndsK.go (fun _ kz => XS.icmpNo X48.here hx rfl (hb hby d57_347) rfl (tlt H347_49).2.2.2 (XS.aloadN X48.here hx rfl (hb hby d57_350) rfl rfl (XS.iload X48.here hx rfl (hb hby d57_351) rfl (XS.bipush X48.here hx rfl (hb hby d57_353) (XS.isub X48.here hx rfl (hb hby d57_355) rfl kz))))) ?_
                      have hj9 : 9 < dg v := (on_lt (a := 9) (b := dg v) (by decide) hd31).mp H347_49
                      refine EndsK.start (congrArg (fun z_ => (mkF m 356 #[vr y, vi (Int32.ofNat pp), vi v, vi (Int32.ofNat qq), .val (.long (rj v 9)), .second, vi (Int32.ofNat (dg v)), vi (Int32.ofNat (pp + 1 + sl v - 1))] [(.int z_), (.ref y)])) (on_subN (b := 9) (seg_sub hj9) rfl : ((Int32.ofNat (pp + 1 + sl v - 1)) - (9 : Int32)) = (Int32.ofNat (pp + 1 + sl v - 1 - 9)))) ?_
                      obtain ⟨cq50, kq50, qa50, qb50, qc50⟩ := isOf hZ e48 Ey
                      obtain ⟨_, T50, Lc50, X50, hQ50, st50⟩ := doneT X48 (X48.virtualBack hx (y := mn41) (z := mn41) hown (mvT hZ (tw hw 197 rfl)) (mvT hZ (tw hw 198 rfl)) (notFace_of_selects (args := #[]) (mvT hZ (tw hw 200 rfl))) (mvT hZ (tw hw 200 rfl)) (mvT hZ (tw hw 199 rfl)) (by decide) (backOf (W := 0) (rm_chA l Z a0 hw [] zc o d u y t F (pp + 1 + sl v - 1 - 9) N h0 n0 Z0 J0 Ey Fyc Fyv B0 (seg_in 9 hp) hN) hZ (tw hw 201 rfl) (tw hw 34 rfl) (by decide) (by decide)) qa50 qc50 (g := (mkF m 356 #[vr y, vi (Int32.ofNat pp), vi v, vi (Int32.ofNat qq), .val (.long (rj v 9)), .second, vi (Int32.ofNat (dg v)), vi (Int32.ofNat (pp + 1 + sl v - 1))] [(.int (Int32.ofNat (pp + 1 + sl v - 1 - 9))), (.ref y)])) rfl (by rw [hml]; rfl) (Steps.refl _) (argsL := [(.int (Int32.ofNat (pp + 1 + sl v - 1 - 9)))]) (rest := []) (lenOf pd26 rfl) rfl (by show 2 * 0 + _ ≤ _; exact Nat.le_of_eq rfl) (hb hby d57_356) (fun _ _ => ⟨rfl, e48, (by decide : 0 + 0 + 0 + 0 + 0 + 0 + 0 + 0 + 0 + 0 + 0 + 0 + 0 + 0 + 0 + 0 + 0 + 0 + 0 + 0 + 0 + 0 ≤ _), (by decide : 0 + 0 + 0 + 0 + 0 + 0 + 0 + 0 + 0 + 0 + 0 + 0 + 0 + 0 + 0 + 0 + 0 + 0 + 0 + 0 + 0 + 0 ≤ _)⟩))
                      obtain ⟨rfl, N50, e50⟩ := hQ50
                      have M50 := Fr.app M48 N50
                      refine EndsK.tr st50 ?_
                      refine EndsK.go (fun _ kz => XS.lload X50.here hx rfl (hb hby d57_359) rfl kz) ?_
                      obtain ⟨_, T51, Lc51, X51, hQ51, st51⟩ := doneG X50 (Jvm.LawKit.callS X50 hx (y := mn2) hown (mvT hZ (tw hw 337 rfl)) (mvT hZ (tw hw 338 rfl)) (mvT hZ (tw hw 323 rfl)) (mvT hZ (tw hw 339 rfl)) (by decide) (backOf (W := 1) (rm_dig l Z a0 hw [] (rj v 9) h0 n0 Z0) hZ (tw hw 339 rfl) (tw hw 323 rfl) (by decide) (by decide)) (g := (mkF m 361 #[vr y, vi (Int32.ofNat pp), vi v, vi (Int32.ofNat qq), .val (.long (rj v 9)), .second, vi (Int32.ofNat (dg v)), vi (Int32.ofNat (pp + 1 + sl v - 1))] [(.long (rj v 9)), (.int (chF (F (pp + 1 + sl v - 1 - 9))))])) rfl (by rw [hml]; rfl) (argsL := [(.long (rj v 9))]) (rest := [(.int (chF (F (pp + 1 + sl v - 1 - 9))))]) (lenOf pd27 rfl) rfl (by show 2 * 0 + _ ≤ _; exact Nat.le_of_eq rfl) (hb hby d57_361) (fun _ _ => ⟨rfl, e50, (by decide : 0 + 0 + 0 + 0 + 0 + 0 + 0 + 0 + 0 + 0 + 0 + 0 + 0 + 0 + 0 + 0 + 0 + 0 + 0 + 0 + 0 + 0 + 0 ≤ _), (by decide : 0 + 0 + 0 + 0 + 0 + 0 + 0 + 0 + 0 + 0 + 0 + 0 + 0 + 0 + 0 + 0 + 0 + 0 + 0 + 0 + 0 + 0 + 0 ≤ _)⟩))
                      obtain ⟨rfl, N51, e51⟩ := hQ51
                      have M51 := Fr.app M50 N51
                      refine EndsK.go st51 ?_
                      refine EndsK.go (fun _ kz => XS.icmpYes X51.here hx rfl (pc0 := 364) (pc' := 369) rfl (hb hby d57_364) rfl (teq (seg_digit hS hj9)).1 (by decide) (by decide) (XS.iconst X51.here hx rfl (hb hby d57_369) kz)) ?_
                      show EndsK p e below _ (T51.setTop (mkF m 370 #[vr y, vi (Int32.ofNat pp), vi v, vi (Int32.ofNat qq), .val (.long (rj v 9)), .second, vi (Int32.ofNat (dg v)), vi (Int32.ofNat (pp + 1 + sl v - 1))] [(.int (1 : Int32))]))
                      exact endN X51 hx (t := .boolean) Bd.returns (by simp) (hb hby d57_370) hlk ⟨rfl, M51, e51⟩ (by decide) (by decide)
                    · refine EndsK.go (fun _ kz => XS.icmpYes X48.here hx rfl (pc0 := 347) (pc' := 369) rfl (hb hby d57_347) rfl (flt H347_49).2.2.2 (by decide) (by decide) (XS.iconst X48.here hx rfl (hb hby d57_369) kz)) ?_
                      show EndsK p e below _ (T48.setTop (mkF m 370 #[vr y, vi (Int32.ofNat pp), vi v, vi (Int32.ofNat qq), .val (.long (rj v 9)), .second, vi (Int32.ofNat (dg v)), vi (Int32.ofNat (pp + 1 + sl v - 1))] [(.int (1 : Int32))]))
                      exact endN X48 hx (t := .boolean) Bd.returns (by simp) (hb hby d57_370) hlk ⟨rfl, M48, e48⟩ (by decide) (by decide)
                  · refine EndsK.go (fun _ kz => XS.icmpYes X45.here hx rfl (pc0 := 313) (pc' := 335) rfl (hb hby d57_313) rfl (flt H313_46).2.2.2 (by decide) (by decide) kz) ?_
                    exact F9 (Nat.le_of_not_lt fun z => H313_46 ((on_lt (a := 8) (b := dg v) (by decide) hd31).mpr z)) _ _ (X45.mono (by decide) (by decide)) e45 M45
                · refine EndsK.go (fun _ kz => XS.icmpYes X42.here hx rfl (pc0 := 279) (pc' := 301) rfl (hb hby d57_279) rfl (flt H279_43).2.2.2 (by decide) (by decide) kz) ?_
                  exact F8 (Nat.le_of_not_lt fun z => H279_43 ((on_lt (a := 7) (b := dg v) (by decide) hd31).mpr z)) _ _ (X42.mono (by decide) (by decide)) e42 M42
              · refine EndsK.go (fun _ kz => XS.icmpYes X39.here hx rfl (pc0 := 245) (pc' := 267) rfl (hb hby d57_245) rfl (flt H245_40).2.2.2 (by decide) (by decide) kz) ?_
                exact F7 (Nat.le_of_not_lt fun z => H245_40 ((on_lt (a := 6) (b := dg v) (by decide) hd31).mpr z)) _ _ (X39.mono (by decide) (by decide)) e39 M39
            · refine EndsK.go (fun _ kz => XS.icmpYes X36.here hx rfl (pc0 := 212) (pc' := 233) rfl (hb hby d57_212) rfl (flt H212_37).2.2.2 (by decide) (by decide) kz) ?_
              exact F6 (Nat.le_of_not_lt fun z => H212_37 ((on_lt (a := 5) (b := dg v) (by decide) hd31).mpr z)) _ _ (X36.mono (by decide) (by decide)) e36 M36
          · refine EndsK.go (fun _ kz => XS.icmpYes X33.here hx rfl (pc0 := 180) (pc' := 201) rfl (hb hby d57_180) rfl (flt H180_34).2.2.2 (by decide) (by decide) kz) ?_
            exact F5 (Nat.le_of_not_lt fun z => H180_34 ((on_lt (a := 4) (b := dg v) (by decide) hd31).mpr z)) _ _ (X33.mono (by decide) (by decide)) e33 M33
        · refine EndsK.go (fun _ kz => XS.icmpYes X30.here hx rfl (pc0 := 148) (pc' := 169) rfl (hb hby d57_148) rfl (flt H148_31).2.2.2 (by decide) (by decide) kz) ?_
          exact F4 (Nat.le_of_not_lt fun z => H148_31 ((on_lt (a := 3) (b := dg v) (by decide) hd31).mpr z)) _ _ (X30.mono (by decide) (by decide)) e30 M30
      · refine EndsK.go (fun _ kz => XS.icmpYes X27.here hx rfl (pc0 := 116) (pc' := 137) rfl (hb hby d57_116) rfl (flt H116_28).2.2.2 (by decide) (by decide) kz) ?_
        exact F3 (Nat.le_of_not_lt fun z => H116_28 ((on_lt (a := 2) (b := dg v) (by decide) hd31).mpr z)) _ _ (X27.mono (by decide) (by decide)) e27 M27
    · refine EndsK.go (fun _ kz => XS.icmpYes X24.here hx rfl (pc0 := 84) (pc' := 105) rfl (hb hby d57_84) rfl (flt H84_25).2.2.2 (by decide) (by decide) kz) ?_
      exact F2 (Nat.le_of_not_lt fun z => H84_25 ((on_lt (a := 1) (b := dg v) (by decide) hd31).mpr z)) _ _ (X24.mono (by decide) (by decide)) e24 M24
  refine EndsK.go (fun _ kz => XS.aloadN X0.here hx rfl (hb hby d57_0) rfl rfl (XS.iloadN X0.here hx rfl (hb hby d57_1) rfl kz)) ?_
  obtain ⟨cq41, kq41, qa41, qb41, qc41⟩ := isOf hZ e0 Ey
  obtain ⟨_, T41, Lc41, X41, hQ41, st41⟩ := doneT X0 (X0.virtualBack hx (y := mn41) (z := mn41) hown (mvT hZ (tw hw 197 rfl)) (mvT hZ (tw hw 198 rfl)) (notFace_of_selects (args := #[]) (mvT hZ (tw hw 200 rfl))) (mvT hZ (tw hw 200 rfl)) (mvT hZ (tw hw 199 rfl)) (by decide) (backOf (W := 0) (rm_chA l Z a0 hw [] zc o d u y t F (pp) N h0 n0 Z0 J0 Ey Fyc Fyv B0 (by omega) hN) hZ (tw hw 201 rfl) (tw hw 34 rfl) (by decide) (by decide)) qa41 qc41 (g := (mkF m 2 #[vr y, vi (Int32.ofNat pp), vi v, .unset, .unset, .unset, .unset, .unset] [(.int (Int32.ofNat pp)), (.ref y)])) rfl (by rw [hml]; rfl) (Steps.refl _) (argsL := [(.int (Int32.ofNat pp))]) (rest := []) (lenOf pd26 rfl) rfl (by show 2 * 0 + _ ≤ _; exact Nat.le_of_eq rfl) (hb hby d57_2) (fun _ _ => ⟨rfl, e0, (by decide : 0 + 0 ≤ _), (by decide : 0 + 0 ≤ _)⟩))
  obtain ⟨rfl, N41, e41⟩ := hQ41
  have M41 := Fr.app N0 N41
  refine EndsK.tr st41 ?_
  refine EndsK.go (fun _ kz => XS.bipush X41.here hx rfl (hb hby d57_5) (XS.icmpYes X41.here hx rfl (pc0 := 7) (pc' := 12) rfl (hb hby d57_7) rfl (teq (chF_of (k := 32) hS.1 (by decide))).1 (by decide) (by decide) (XS.iloadN X41.here hx rfl (hb hby d57_12) rfl (XS.iconst X41.here hx rfl (hb hby d57_13) (XS.iadd X41.here hx rfl (hb hby d57_14) rfl kz))))) ?_
  refine EndsK.start (congrArg (fun z_ => (mkF m 15 #[vr y, vi (Int32.ofNat pp), vi v, .unset, .unset, .unset, .unset, .unset] [(.int z_)])) (on_succ pp : ((Int32.ofNat pp) + (1 : Int32)) = (Int32.ofNat (pp + 1)))) ?_
  refine EndsK.go (fun _ kz => XS.istoreN X41.here hx rfl (hb hby d57_15) rfl (l' := #[vr y, vi (Int32.ofNat pp), vi v, vi (Int32.ofNat (pp + 1)), .unset, .unset, .unset, .unset]) rfl (XS.iloadN X41.here hx rfl (hb hby d57_16) rfl kz)) ?_
  show EndsK p e below _ (T41.setTop (mkF m 17 #[vr y, vi (Int32.ofNat pp), vi v, vi (Int32.ofNat (pp + 1)), .unset, .unset, .unset, .unset] [(.int v)]))
  by_cases H17_42 : v < (0 : Int32)
  · refine EndsK.go (fun _ kz => XS.ifNo X41.here hx rfl (hb hby d57_17) rfl ((if0 _ _).trans (tlt H17_42).2.1) (XS.aloadN X41.here hx rfl (hb hby d57_20) rfl rfl (XS.iloadN X41.here hx rfl (hb hby d57_21) rfl kz))) ?_
    obtain ⟨cq43, kq43, qa43, qb43, qc43⟩ := isOf hZ e41 Ey
    obtain ⟨_, T43, Lc43, X43, hQ43, st43⟩ := doneT X41 (X41.virtualBack hx (y := mn41) (z := mn41) hown (mvT hZ (tw hw 197 rfl)) (mvT hZ (tw hw 198 rfl)) (notFace_of_selects (args := #[]) (mvT hZ (tw hw 200 rfl))) (mvT hZ (tw hw 200 rfl)) (mvT hZ (tw hw 199 rfl)) (by decide) (backOf (W := 0) (rm_chA l Z a0 hw [] zc o d u y t F (pp + 1) N h0 n0 Z0 J0 Ey Fyc Fyv B0 (by omega) hN) hZ (tw hw 201 rfl) (tw hw 34 rfl) (by decide) (by decide)) qa43 qc43 (g := (mkF m 22 #[vr y, vi (Int32.ofNat pp), vi v, vi (Int32.ofNat (pp + 1)), .unset, .unset, .unset, .unset] [(.int (Int32.ofNat (pp + 1))), (.ref y)])) rfl (by rw [hml]; rfl) (Steps.refl _) (argsL := [(.int (Int32.ofNat (pp + 1)))]) (rest := []) (lenOf pd26 rfl) rfl (by show 2 * 0 + _ ≤ _; exact Nat.le_of_eq rfl) (hb hby d57_22) (fun _ _ => ⟨rfl, e41, (by decide : 0 + 0 + 0 ≤ _), (by decide : 0 + 0 + 0 ≤ _)⟩))
    obtain ⟨rfl, N43, e43⟩ := hQ43
    have M43 := Fr.app M41 N43
    refine EndsK.tr st43 ?_
    refine EndsK.go (fun _ kz => XS.bipush X43.here hx rfl (hb hby d57_25) (XS.icmpYes X43.here hx rfl (pc0 := 27) (pc' := 32) rfl (hb hby d57_27) rfl (teq (chF_of (k := 45) (hS.2.1 H17_42) (by decide))).1 (by decide) (by decide) (XS.iloadN X43.here hx rfl (hb hby d57_32) rfl (XS.iconst X43.here hx rfl (hb hby d57_33) (XS.iadd X43.here hx rfl (hb hby d57_34) rfl kz))))) ?_
    refine EndsK.start (congrArg (fun z_ => (mkF m 35 #[vr y, vi (Int32.ofNat pp), vi v, vi (Int32.ofNat (pp + 1)), .unset, .unset, .unset, .unset] [(.int z_)])) (on_succ (pp + 1) : ((Int32.ofNat (pp + 1)) + (1 : Int32)) = (Int32.ofNat (pp + 1 + 1)))) ?_
    refine EndsK.go (fun _ kz => XS.istoreN X43.here hx rfl (hb hby d57_35) rfl (l' := #[vr y, vi (Int32.ofNat pp), vi v, vi (Int32.ofNat (pp + 1 + 1)), .unset, .unset, .unset, .unset]) rfl kz) ?_
    exact J36 (pp + 1 + 1) (by have z := sg1 H17_42; omega) _ _ (X43.mono (by decide) (by decide)) e43 M43
  · refine EndsK.go (fun _ kz => XS.ifYes X41.here hx rfl (pc0 := 17) (pc' := 36) rfl (hb hby d57_17) rfl ((if0 _ _).trans (flt H17_42).2.1) (by decide) (by decide) kz) ?_
    exact J36 (pp + 1) (by have z := sg0 H17_42; omega) _ _ (X41.mono (by decide) (by decide)) e41 M41
def IC (Z : State) (h : Heap) (ca : Addr) (cl : Cell) : Prop := (Sta Z h "java/lang/Integer$IntegerCache" "high" "I" (.int (127 : Int32))) ∧ (Sta Z h "java/lang/Integer$IntegerCache" "cache" "[Ljava/lang/Integer;" (.ref ca)) ∧ (Arr Z h ca cl (.object "java/lang/Integer")) ∧ (cl.slots.size = 256) ∧ (∀ j : Nat, j < 256 → ∃ b, cl.slots[j]? = some (.ref b) ∧ Exa Z h b "java/lang/Integer" ∧ ∃ r : Int32, r.toInt = (j : Int) - 128 ∧ Fld Z h b "java/lang/Integer" "value" "I" (.int r))
theorem IC.SH {Z : State} {h : Heap} {ca : Addr} {cl : Cell} (J : IC Z h ca cl) : Sta Z h "java/lang/Integer$IntegerCache" "high" "I" (.int (127 : Int32)) := J.1
theorem IC.SA {Z : State} {h : Heap} {ca : Addr} {cl : Cell} (J : IC Z h ca cl) : Sta Z h "java/lang/Integer$IntegerCache" "cache" "[Ljava/lang/Integer;" (.ref ca) := J.2.1
theorem IC.AC {Z : State} {h : Heap} {ca : Addr} {cl : Cell} (J : IC Z h ca cl) : Arr Z h ca cl (.object "java/lang/Integer") := J.2.2.1
theorem IC.sz {Z : State} {h : Heap} {ca : Addr} {cl : Cell} (J : IC Z h ca cl) : cl.slots.size = 256 := J.2.2.2.1
theorem IC.el {Z : State} {h : Heap} {ca : Addr} {cl : Cell} (J : IC Z h ca cl) : ∀ j : Nat, j < 256 → ∃ b, cl.slots[j]? = some (.ref b) ∧ Exa Z h b "java/lang/Integer" ∧ ∃ r : Int32, r.toInt = (j : Int) - 128 ∧ Fld Z h b "java/lang/Integer" "value" "I" (.int r) := J.2.2.2.2
theorem IC.ext {Z : State} {h h' : Heap} {ca : Addr} {cl : Cell} (C : IC Z h ca cl) (E : Ext h h') : IC Z h' ca cl := ⟨C.SH.ext E, C.SA.ext E, C.AC.ext E, C.sz, fun j hj => by obtain ⟨b, q1, q2, r, q3, q4⟩ := C.el j hj; exact ⟨b, q1, q2.ext E, r, q3, q4.ext E⟩⟩
def LS (Z : State) (h : Heap) (dce : Addr) (cd : Cell) : Prop := (Sta Z h "java/util/ArrayList" "DEFAULTCAPACITY_EMPTY_ELEMENTDATA" "[Ljava/lang/Object;" (.ref dce)) ∧ (Arr Z h dce cd (.object "java/lang/Object")) ∧ (cd.slots.size = 0)
theorem LS.SD {Z : State} {h : Heap} {dce : Addr} {cd : Cell} (J : LS Z h dce cd) : Sta Z h "java/util/ArrayList" "DEFAULTCAPACITY_EMPTY_ELEMENTDATA" "[Ljava/lang/Object;" (.ref dce) := J.1
theorem LS.AD {Z : State} {h : Heap} {dce : Addr} {cd : Cell} (J : LS Z h dce cd) : Arr Z h dce cd (.object "java/lang/Object") := J.2.1
theorem LS.zd {Z : State} {h : Heap} {dce : Addr} {cd : Cell} (J : LS Z h dce cd) : cd.slots.size = 0 := J.2.2
theorem LS.ext {Z : State} {h h' : Heap} {dce : Addr} {cd : Cell} (C : LS Z h dce cd) (E : Ext h h') : LS Z h' dce cd := ⟨C.SD.ext E, C.AD.ext E, C.zd⟩
theorem cidx {v : Int32} (h1 : ¬ v < (-128 : Int32)) (h2 : ¬ (127 : Int32) < v) : ∃ J : Nat, J < 256 ∧ v.toInt = (J : Int) - 128 := by
  rw [Int32.lt_iff_toInt_lt] at h1 h2
  have a : (-128 : Int32).toInt = -128 := rfl
  have b : (127 : Int32).toInt = 127 := rfl
  exact ⟨(v.toInt + 128).toNat, by omega, by omega⟩
theorem cidx2 {v : Int32} {J : Nat} (hJ : J < 256) (h : v.toInt = (J : Int) - 128) : v + (128 : Int32) = Int32.ofNat J := by
  apply on_of
  have a := c_iadd v 128
  have b := rng32 (v + 128)
  have c : (128 : Int32).toInt = 128 := rfl
  omega
/-- the list of n elements -/
def LI (Z : State) (h : Heap) (w t : Addr) (n : Nat) (mc : Int32) : Prop := Exa Z h w "java/util/ArrayList" ∧ Fld Z h w "java/util/ArrayList" "size" "I" (.int (Int32.ofNat n)) ∧ Fld Z h w "java/util/ArrayList" "elementData" "[Ljava/lang/Object;" (.ref t) ∧ Fld Z h w "java/util/AbstractList" "modCount" "I" (.int mc)
theorem LI.ext {Z : State} {h h' : Heap} {w t : Addr} {n : Nat} {mc : Int32} (S : LI Z h w t n mc) (E : Ext h h') : LI Z h' w t n mc := ⟨S.1.ext E, S.2.1.ext E, S.2.2.1.ext E, S.2.2.2.ext E⟩
def IT (Z : State) (h : Heap) (it w : Addr) (i : Nat) (mc : Int32) : Prop := Exa Z h it "java/util/ArrayList$Itr" ∧ Fld Z h it "java/util/ArrayList$Itr" "this$0" "Ljava/util/ArrayList;" (.ref w) ∧ Fld Z h it "java/util/ArrayList$Itr" "cursor" "I" (.int (Int32.ofNat i)) ∧ Fld Z h it "java/util/ArrayList$Itr" "expectedModCount" "I" (.int mc) ∧ ∃ r : Int32, Fld Z h it "java/util/ArrayList$Itr" "lastRet" "I" (.int r)
theorem IT.ext {Z : State} {h h' : Heap} {it w : Addr} {i : Nat} {mc : Int32} (S : IT Z h it w i mc) (E : Ext h h') : IT Z h' it w i mc := by obtain ⟨a, b, c, d, r, f⟩ := S; exact ⟨a.ext E, b.ext E, c.ext E, d.ext E, r, f.ext E⟩
theorem IT.keep {Z : State} {h h' : Heap} {it w : Addr} {i : Nat} {mc : Int32} {ws : List Addr} (S : IT Z h it w i mc) (K : Keep h h' ws) (q : it ∉ ws) : IT Z h' it w i mc := by obtain ⟨a, b, c, d, r, f⟩ := S; exact ⟨a.keep K, b.keep K q, c.keep K q, d.keep K q, r, f.keep K q⟩
abbrev B38 := jdk_18_method_1_code
theorem d38_0 : decode B38 0 = .ok (.aload_n 0, 1) := by decide +kernel
theorem d38_1 : decode B38 1 = .ok (.invokespecial 1, 3) := by decide +kernel
theorem d38_4 : decode B38 4 = .ok (.return_, 1) := by decide +kernel
theorem pn9 : plainName "java/lang/Number" = true := by first | (simp [plainName, overriddenIn]; done) | decide +kernel
def Q_num (Z : State) (a : Addr) (h0 : Heap) (n0 : Nat) (vz : Option Value) (hz : Heap) (Lz : List Loc) : Prop := vz = none ∧ Fr n0 Lz ∧ hz = h0
abbrev rr_num : Room := ({ frames := 1, cells := 0, slots := 0, locals := 12 } : Room)
set_option maxRecDepth 65536 in
set_option maxHeartbeats 40000000 in
theorem rm_num (l : Launch) (Z : State) (a0 : Array Value) (hw : ∀ d ∈ tables_1, d.before a0 Z = true) (ws : List Jvm.Cond) (a : Addr) (h0 : Heap) (n0 : Nat) (Z0 : n0 ≤ h0.size)  :
    MetFree l mn43 (head1 (Jvm.Cond.code mn43 jdk_18_method_1_code 1 none :: ws) rr_num) (PreK Z #[(.ref a)] h0) (fun _ _ _ _ _ => True) (PosK (Q_num Z a h0 n0) rr_num) := by
  refine startK n0 (L := #[vr a]) (plainFor_of_name pn9) (fun _ => rfl) fun p e s m below meth c s₁ Bd hZ hh hx hby hml hown hnm hlk X0 e0 N0 => ?_
  refine EndsK.go (fun _ kz => XS.aloadN X0.here hx rfl (hb hby d38_0) rfl rfl kz) ?_
  obtain ⟨T1, X1, e1, st1⟩ := initO X0 hx hZ hown (tw hw 237 rfl) (tw hw 19 rfl) (tw hw 20 rfl) e0 (g := (mkF m 1 #[vr a] [(.ref a)])) rfl (by rw [hml]; rfl) rfl (hb hby d38_1) (by decide) (W := 0) (by show 2 * 0 + _ ≤ _; exact Nat.le_of_eq rfl) (by decide)
  refine EndsK.go st1 ?_
  show EndsK p e below _ (T1.setTop (mkF m 4 #[vr a] []))
  exact endV X1 hx Bd.returns (hb hby d38_4) hlk ⟨rfl, N0, e1⟩ (by decide) (by decide)
abbrev B3 := jdk_22_method_1_code
theorem d3_0 : decode B3 0 = .ok (.aload_n 0, 1) := by decide +kernel
theorem d3_1 : decode B3 1 = .ok (.invokespecial 1, 3) := by decide +kernel
theorem d3_4 : decode B3 4 = .ok (.return_, 1) := by decide +kernel
theorem pn10 : plainName "java/util/AbstractCollection" = true := by first | (simp [plainName, overriddenIn]; done) | decide +kernel
def Q_acl (Z : State) (a : Addr) (h0 : Heap) (n0 : Nat) (vz : Option Value) (hz : Heap) (Lz : List Loc) : Prop := vz = none ∧ Fr n0 Lz ∧ hz = h0
abbrev rr_acl : Room := ({ frames := 1, cells := 0, slots := 0, locals := 12 } : Room)
set_option maxRecDepth 65536 in
set_option maxHeartbeats 40000000 in
theorem rm_acl (l : Launch) (Z : State) (a0 : Array Value) (hw : ∀ d ∈ tables_1, d.before a0 Z = true) (ws : List Jvm.Cond) (a : Addr) (h0 : Heap) (n0 : Nat) (Z0 : n0 ≤ h0.size)  :
    MetFree l mn44 (head1 (Jvm.Cond.code mn44 jdk_22_method_1_code 1 none :: ws) rr_acl) (PreK Z #[(.ref a)] h0) (fun _ _ _ _ _ => True) (PosK (Q_acl Z a h0 n0) rr_acl) := by
  refine startK n0 (L := #[vr a]) (plainFor_of_name pn10) (fun _ => rfl) fun p e s m below meth c s₁ Bd hZ hh hx hby hml hown hnm hlk X0 e0 N0 => ?_
  refine EndsK.go (fun _ kz => XS.aloadN X0.here hx rfl (hb hby d3_0) rfl rfl kz) ?_
  obtain ⟨T1, X1, e1, st1⟩ := initO X0 hx hZ hown (tw hw 18 rfl) (tw hw 19 rfl) (tw hw 20 rfl) e0 (g := (mkF m 1 #[vr a] [(.ref a)])) rfl (by rw [hml]; rfl) rfl (hb hby d3_1) (by decide) (W := 0) (by show 2 * 0 + _ ≤ _; exact Nat.le_of_eq rfl) (by decide)
  refine EndsK.go st1 ?_
  show EndsK p e below _ (T1.setTop (mkF m 4 #[vr a] []))
  exact endV X1 hx Bd.returns (hb hby d3_4) hlk ⟨rfl, N0, e1⟩ (by decide) (by decide)
abbrev B37 := jdk_33_method_23_code
theorem d37_0 : decode B37 0 = .ok (.aload_n 0, 1) := by decide +kernel
theorem d37_1 : decode B37 1 = .ok (.invokespecial 202, 3) := by decide +kernel
theorem d37_4 : decode B37 4 = .ok (.aload_n 0, 1) := by decide +kernel
theorem d37_5 : decode B37 5 = .ok (.iload_n 1, 1) := by decide +kernel
theorem d37_6 : decode B37 6 = .ok (.putfield 205, 3) := by decide +kernel
theorem d37_9 : decode B37 9 = .ok (.return_, 1) := by decide +kernel
def Q_ii (Z : State) (a : Addr) (v : Int32) (h0 : Heap) (n0 : Nat) (vz : Option Value) (hz : Heap) (Lz : List Loc) : Prop := vz = none ∧ Fr n0 Lz ∧ Keep h0 hz [a] ∧ Exa Z hz a "java/lang/Integer" ∧ Fld Z hz a "java/lang/Integer" "value" "I" (.int v)
abbrev rr_ii : Room := ({ frames := 2, cells := 0, slots := 0, locals := 24 } : Room)
theorem pd28 : parseMethodDescriptor "()V" = some ⟨[], none⟩ := by decide +kernel
set_option maxRecDepth 65536 in
set_option maxHeartbeats 40000000 in
theorem rm_ii (l : Launch) (Z : State) (a0 : Array Value) (hw : ∀ d ∈ tables_1, d.before a0 Z = true) (ws : List Jvm.Cond) (a : Addr) (v : Int32) (h0 : Heap) (n0 : Nat) (Z0 : n0 ≤ h0.size) (ga : n0 ≤ a) (Ea : Exa Z h0 a "java/lang/Integer") (Fa : Fld Z h0 a "java/lang/Integer" "value" "I" (.int (0 : Int32))) :
    MetFree l mn45 (head1 (Jvm.Cond.code mn45 jdk_33_method_23_code 2 none :: ws) rr_ii) (PreK Z #[(.ref a), (.int v)] h0) (fun _ _ _ _ _ => True) (PosK (Q_ii Z a v h0 n0) rr_ii) := by
  refine startK n0 (L := #[vr a, vi v]) (plainFor_of_name pn5) (fun _ => rfl) fun p e s m below meth c s₁ Bd hZ hh hx hby hml hown hnm hlk X0 e0 N0 => ?_
  have K0 : Keep h0 h0 [a] := Keep.refl _ _
  refine EndsK.go (fun _ kz => XS.aloadN X0.here hx rfl (hb hby d37_0) rfl rfl kz) ?_
  obtain ⟨_, T1, Lc1, X1, hQ1, st1⟩ := doneT X0 (X0.specialBack hx (y := mn43) rfl hown (mvT hZ (tw hw 231 rfl)) (mvT hZ (tw hw 232 rfl)) (mvT hZ (tw hw 236 rfl)) (by decide) (backOf (W := 0) (rm_num l Z a0 hw [] a h0 n0 Z0) hZ (tw hw 236 rfl) (tw hw 235 rfl) (by decide) (by decide)) (g := (mkF m 1 #[vr a, vi v] [(.ref a)])) rfl (by rw [hml]; rfl) (Steps.refl _) (a := a) (argsL := []) (rest := []) (lenOf pd28 rfl) rfl (by show 2 * 0 + _ ≤ _; exact Nat.le_of_eq rfl) (hb hby d37_1) (fun _ _ => ⟨rfl, e0, (by decide : 0 + 0 ≤ _), (by decide : 0 + 0 ≤ _)⟩))
  obtain ⟨rfl, N1, e1⟩ := hQ1
  have M1 := Fr.app N0 N1
  refine EndsK.tr st1 ?_
  refine EndsK.go (fun _ kz => XS.aloadN X1.here hx rfl (hb hby d37_4) rfl rfl (XS.iloadN X1.here hx rfl (hb hby d37_5) rfl kz)) ?_
  obtain ⟨T2, h2, X2, e2, W2, st2⟩ := putF X1 hx hZ hown (host := "") (Or.inl (tw hw 238 rfl)) Via.refl e1 Fa Ea (Or.inr ⟨(tw hw 239 rfl), rfl, hnm⟩) (tw hw 226 rfl) (ty := .int) (by decide) rfl rfl (g := (mkF m 6 #[vr a, vi v] [(.int v), (.ref a)])) rfl rfl (hb hby d37_6)
  refine EndsK.go st2 ?_
  have N2 := Fr.snoc X2 M1 ga
  have E2_a := Ea.wr W2
  have F2_value := Fa.same W2
  have Z2 : n0 ≤ h2.size := Nat.le_trans Z0 (Nat.le_of_eq W2.size.symm)
  have K2 := K0.wr W2 (Or.inl (List.mem_singleton.mpr rfl))
  show EndsK p e below _ (T2.setTop (mkF m 9 #[vr a, vi v] []))
  exact endV X2 hx Bd.returns (hb hby d37_9) hlk ⟨rfl, N2, by rw [e2]; exact K2, by rw [e2]; exact E2_a, by rw [e2]; exact F2_value⟩ (by decide) (by decide)
abbrev B36 := jdk_33_method_22_code
theorem d36_0 : decode B36 0 = .ok (.iload_n 0, 1) := by decide +kernel
theorem d36_1 : decode B36 1 = .ok (.bipush (-128), 2) := by decide +kernel
theorem d36_3 : decode B36 3 = .ok (.if_icmp .lt 20, 3) := by decide +kernel
theorem d36_6 : decode B36 6 = .ok (.iload_n 0, 1) := by decide +kernel
theorem d36_7 : decode B36 7 = .ok (.getstatic 191, 3) := by decide +kernel
theorem d36_10 : decode B36 10 = .ok (.if_icmp .gt 13, 3) := by decide +kernel
theorem d36_13 : decode B36 13 = .ok (.getstatic 195, 3) := by decide +kernel
theorem d36_16 : decode B36 16 = .ok (.iload_n 0, 1) := by decide +kernel
theorem d36_17 : decode B36 17 = .ok (.sipush 128, 3) := by decide +kernel
theorem d36_20 : decode B36 20 = .ok (.iadd, 1) := by decide +kernel
theorem d36_21 : decode B36 21 = .ok (.aaload, 1) := by decide +kernel
theorem d36_22 : decode B36 22 = .ok (.areturn, 1) := by decide +kernel
theorem d36_23 : decode B36 23 = .ok (.new 1, 3) := by decide +kernel
theorem d36_26 : decode B36 26 = .ok (.dup, 1) := by decide +kernel
theorem d36_27 : decode B36 27 = .ok (.iload_n 0, 1) := by decide +kernel
theorem d36_28 : decode B36 28 = .ok (.invokespecial 199, 3) := by decide +kernel
theorem d36_31 : decode B36 31 = .ok (.areturn, 1) := by decide +kernel
def Q_vo (Z : State) (v : Int32) (ca : Addr) (cl : Cell) (h0 : Heap) (n0 : Nat) (vz : Option Value) (hz : Heap) (Lz : List Loc) : Prop := ∃ b : Addr, vz = some (.ref b) ∧ Fr n0 Lz ∧ Ext h0 hz ∧ Exa Z hz b "java/lang/Integer" ∧ Fld Z hz b "java/lang/Integer" "value" "I" (.int v)
abbrev rr_vo : Room := ({ frames := 3, cells := 1, slots := 1, locals := 39 } : Room)
set_option maxRecDepth 65536 in
set_option maxHeartbeats 40000000 in
theorem rm_vo (l : Launch) (Z : State) (a0 : Array Value) (hw : ∀ d ∈ tables_1, d.before a0 Z = true) (ws : List Jvm.Cond) (v : Int32) (ca : Addr) (cl : Cell) (h0 : Heap) (n0 : Nat) (Z0 : n0 ≤ h0.size) (C0 : IC Z h0 ca cl) :
    MetFree l mn46 (head1 (Jvm.Cond.code mn46 jdk_33_method_22_code 1 (some (.object "java/lang/Integer")) :: ws) rr_vo) (PreK Z #[(.int v)] h0) (fun _ _ _ _ _ => True) (PosK (Q_vo Z v ca cl h0 n0) rr_vo) := by
  refine startK n0 (L := #[vi v]) (plainFor_of_name pn5) (fun _ => rfl) fun p e s m below meth c s₁ Bd hZ hh hx hby hml hown hnm hlk X0 e0 N0 => ?_
  have K0 : Keep h0 h0 [] := Keep.refl _ _
  refine EndsK.go (fun _ kz => XS.iloadN X0.here hx rfl (hb hby d36_0) rfl (XS.bipush X0.here hx rfl (hb hby d36_1) kz)) ?_
  show EndsK p e below _ (s₁.setTop (mkF m 3 #[vi v] [(.int (-128 : Int32)), (.int v)]))
  by_cases H3_1 : v < (-128 : Int32)
  · refine EndsK.go (fun _ kz => XS.icmpYes X0.here hx rfl (pc0 := 3) (pc' := 23) rfl (hb hby d36_3) rfl (tlt H3_1).1 (by decide) (by decide) kz) ?_
    obtain ⟨T2, h2, X2, e2, E2, A2, D2, -, st2⟩ := newO X0 hx hZ hown (tw hw 225 rfl) (tw hw 226 rfl) (tw hw 221 rfl) e0 (g := (mkF m 23 #[vi v] [])) rfl (hb hby d36_23) (by decide) (by decide)
    obtain ⟨a, g2⟩ : ∃ z, z = h0.size := ⟨_, rfl⟩
    rw [← g2] at A2 D2 st2
    refine EndsK.go st2 ?_
    have S2_high := C0.SH.ext E2
    have S2_cache := C0.SA.ext E2
    have F2_value : Fld Z h2 a "java/lang/Integer" "value" "I" (.int (0 : Int32)) := D2 (Or.inr (tw hw 239 rfl)) (ty := .int) (by decide)
    have Z2 : n0 ≤ h2.size := Nat.le_trans Z0 E2.1
    have G2 : n0 ≤ a := by rw [g2]; exact Z0
    have K2 := K0.ext E2
    have sz_a : h0.size ≤ a := by rw [g2]; exact K0.1
    refine EndsK.go (fun _ kz => XS.dup X2.here hx rfl (hb hby d36_26) rfl rfl (XS.iloadN X2.here hx rfl (hb hby d36_27) rfl kz)) ?_
    obtain ⟨_, T3, Lc3, X3, hQ3, st3⟩ := doneT X2 (X2.specialBack hx (y := mn45) rfl hown (mvT hZ (tw hw 227 rfl)) (mvT hZ (tw hw 228 rfl)) (mvT hZ (tw hw 230 rfl)) (by decide) (backOf (W := 1) (rm_ii l Z a0 hw [] a v h2 n0 Z2 G2 A2 F2_value) hZ (tw hw 230 rfl) (tw hw 221 rfl) (by decide) (by decide)) (g := (mkF m 28 #[vi v] [(.int v), (.ref a), (.ref a)])) rfl (by rw [hml]; rfl) (Steps.refl _) (a := a) (argsL := [(.int v)]) (rest := [(.ref a)]) (lenOf pd10 rfl) rfl (by show 2 * 0 + _ ≤ _; exact Nat.le_of_eq rfl) (hb hby d36_28) (fun _ _ => ⟨rfl, e2, (by decide : 0 + 1 + 0 ≤ _), (by decide : 0 + 1 + 0 ≤ _)⟩))
    obtain ⟨rfl, N3, Kc3, Ec3, Fc3⟩ := hQ3
    have M3 := Fr.app N0 N3
    obtain ⟨h3, e3⟩ : ∃ z, T3.heap = z := ⟨_, rfl⟩
    rw [e3] at Kc3 Ec3 Fc3
    have Z3 : n0 ≤ h3.size := Nat.le_trans Z2 Kc3.1
    have K3 := K2.trans Kc3 (allS (Or.inr sz_a) all0)
    have E3_a := A2.keep Kc3
    refine EndsK.tr st3 ?_
    show EndsK p e below _ (T3.setTop (mkF m 31 #[vi v] [(.ref a)]))
    exact endR X3 hx Bd.returns rfl rfl (hb hby d36_31) hlk ⟨a, rfl, M3, by rw [e3]; exact ext_kept (ext_refl h0) K3 all0, by rw [e3]; exact Ec3, by rw [e3]; exact Fc3⟩ (by decide) (by decide)
  · refine EndsK.go (fun _ kz => XS.icmpNo X0.here hx rfl (hb hby d36_3) rfl (flt H3_1).1 (XS.iloadN X0.here hx rfl (hb hby d36_6) rfl kz)) ?_
    obtain ⟨T4, X4, e4, st4⟩ := getS2 X0 hx hZ hown (host := "") (Or.inl (tw hw 223 rfl)) Via.refl e0 C0.SH (g := (mkF m 7 #[vi v] [(.int v)])) rfl (hb hby d36_7)
    refine EndsK.go st4 ?_
    show EndsK p e below _ (T4.setTop (mkF m 10 #[vi v] [(.int (127 : Int32)), (.int v)]))
    by_cases H10_5 : (127 : Int32) < v
    · refine EndsK.go (fun _ kz => XS.icmpYes X4.here hx rfl (pc0 := 10) (pc' := 23) rfl (hb hby d36_10) rfl (tlt H10_5).2.2.1 (by decide) (by decide) kz) ?_
      obtain ⟨T6, h6, X6, e6, E6, A6, D6, -, st6⟩ := newO X4 hx hZ hown (tw hw 225 rfl) (tw hw 226 rfl) (tw hw 221 rfl) e4 (g := (mkF m 23 #[vi v] [])) rfl (hb hby d36_23) (by decide) (by decide)
      obtain ⟨a, g6⟩ : ∃ z, z = h0.size := ⟨_, rfl⟩
      rw [← g6] at A6 D6 st6
      refine EndsK.go st6 ?_
      have S6_high := C0.SH.ext E6
      have S6_cache := C0.SA.ext E6
      have F6_value : Fld Z h6 a "java/lang/Integer" "value" "I" (.int (0 : Int32)) := D6 (Or.inr (tw hw 239 rfl)) (ty := .int) (by decide)
      have Z6 : n0 ≤ h6.size := Nat.le_trans Z0 E6.1
      have G6 : n0 ≤ a := by rw [g6]; exact Z0
      have K6 := K0.ext E6
      have sz_a : h0.size ≤ a := by rw [g6]; exact K0.1
      refine EndsK.go (fun _ kz => XS.dup X6.here hx rfl (hb hby d36_26) rfl rfl (XS.iloadN X6.here hx rfl (hb hby d36_27) rfl kz)) ?_
      obtain ⟨_, T7, Lc7, X7, hQ7, st7⟩ := doneT X6 (X6.specialBack hx (y := mn45) rfl hown (mvT hZ (tw hw 227 rfl)) (mvT hZ (tw hw 228 rfl)) (mvT hZ (tw hw 230 rfl)) (by decide) (backOf (W := 1) (rm_ii l Z a0 hw [] a v h6 n0 Z6 G6 A6 F6_value) hZ (tw hw 230 rfl) (tw hw 221 rfl) (by decide) (by decide)) (g := (mkF m 28 #[vi v] [(.int v), (.ref a), (.ref a)])) rfl (by rw [hml]; rfl) (Steps.refl _) (a := a) (argsL := [(.int v)]) (rest := [(.ref a)]) (lenOf pd10 rfl) rfl (by show 2 * 0 + _ ≤ _; exact Nat.le_of_eq rfl) (hb hby d36_28) (fun _ _ => ⟨rfl, e6, (by decide : 0 + 1 + 0 ≤ _), (by decide : 0 + 1 + 0 ≤ _)⟩))
      obtain ⟨rfl, N7, Kc7, Ec7, Fc7⟩ := hQ7
      have M7 := Fr.app N0 N7
      obtain ⟨h7, e7⟩ : ∃ z, T7.heap = z := ⟨_, rfl⟩
      rw [e7] at Kc7 Ec7 Fc7
      have Z7 : n0 ≤ h7.size := Nat.le_trans Z6 Kc7.1
      have K7 := K6.trans Kc7 (allS (Or.inr sz_a) all0)
      have E7_a := A6.keep Kc7
      refine EndsK.tr st7 ?_
      show EndsK p e below _ (T7.setTop (mkF m 31 #[vi v] [(.ref a)]))
      exact endR X7 hx Bd.returns rfl rfl (hb hby d36_31) hlk ⟨a, rfl, M7, by rw [e7]; exact ext_kept (ext_refl h0) K7 all0, by rw [e7]; exact Ec7, by rw [e7]; exact Fc7⟩ (by decide) (by decide)
    · refine EndsK.go (fun _ kz => XS.icmpNo X4.here hx rfl (hb hby d36_10) rfl (flt H10_5).2.2.1 kz) ?_
      obtain ⟨T8, X8, e8, st8⟩ := getS2 X4 hx hZ hown (host := "") (Or.inl (tw hw 361 rfl)) Via.refl e4 C0.SA (g := (mkF m 13 #[vi v] [])) rfl (hb hby d36_13)
      refine EndsK.go st8 ?_
      refine EndsK.go (fun _ kz => XS.iloadN X8.here hx rfl (hb hby d36_16) rfl (XS.sipush X8.here hx rfl (hb hby d36_17) (XS.iadd X8.here hx rfl (hb hby d36_20) rfl kz))) ?_
      obtain ⟨J, hJ, hJ2⟩ := cidx H3_1 H10_5
      obtain ⟨bz, z1, z2, rz, z3, z4⟩ := C0.el J hJ
      have erz : rz = v := Int32.toInt_inj.mp (by rw [z3, hJ2])
      subst erz
      refine EndsK.start (congrArg (fun z_ => (mkF m 21 #[vi rz] [(.int z_), (.ref ca)])) (cidx2 hJ hJ2 : (rz + (128 : Int32)) = (Int32.ofNat J))) ?_
      refine EndsK.go (fun tz kz => X8.aaload hx (j := (Int32.ofNat J)) (v := .ref bz) (by rw [e8]; exact C0.AC.1) (State.isArrayOf_alike hZ.alike C0.AC.2.1) rfl C0.AC.2.2 (byt_in C0.sz (by decide) hJ) (by rw [on_clamp (a := J) (by omega)]; exact z1) (g := (mkF m 21 #[vi rz] [(.int (Int32.ofNat J)), (.ref ca)])) rfl rfl (hb hby d36_21) tz kz) ?_
      show EndsK p e below _ (T8.setTop (mkF m 22 #[vi rz] [(.ref bz)]))
      exact endR X8 hx Bd.returns rfl rfl (hb hby d36_22) hlk ⟨bz, rfl, N0, by rw [e8]; exact ext_refl _, by rw [e8]; exact z2, by rw [e8]; exact z4⟩ (by decide) (by decide)
abbrev B46 := jdk_33_method_27_code
theorem d46_0 : decode B46 0 = .ok (.aload_n 0, 1) := by decide +kernel
theorem d46_1 : decode B46 1 = .ok (.getfield 205, 3) := by decide +kernel
theorem d46_4 : decode B46 4 = .ok (.ireturn, 1) := by decide +kernel
def Q_iv (Z : State) (a : Addr) (v : Int32) (h0 : Heap) (n0 : Nat) (vz : Option Value) (hz : Heap) (Lz : List Loc) : Prop := vz = some (.int v) ∧ Fr n0 Lz ∧ hz = h0
abbrev rr_iv : Room := ({ frames := 0, cells := 0, slots := 0, locals := 0 } : Room)
set_option maxRecDepth 65536 in
set_option maxHeartbeats 40000000 in
theorem rm_iv (l : Launch) (Z : State) (a0 : Array Value) (hw : ∀ d ∈ tables_1, d.before a0 Z = true) (ws : List Jvm.Cond) (a : Addr) (v : Int32) (h0 : Heap) (n0 : Nat) (Z0 : n0 ≤ h0.size) (Fa : Fld Z h0 a "java/lang/Integer" "value" "I" (.int v)) :
    MetFree l mn47 (head1 (Jvm.Cond.code mn47 jdk_33_method_27_code 1 (some .int) :: ws) rr_iv) (PreK Z #[(.ref a)] h0) (fun _ _ _ _ _ => True) (PosK (Q_iv Z a v h0 n0) rr_iv) := by
  refine startK n0 (L := #[vr a]) (plainFor_of_name pn5) (fun _ => rfl) fun p e s m below meth c s₁ Bd hZ hh hx hby hml hown hnm hlk X0 e0 N0 => ?_
  refine EndsK.go (fun _ kz => XS.aloadN X0.here hx rfl (hb hby d46_0) rfl rfl kz) ?_
  obtain ⟨T1, X1, e1, st1⟩ := getF X0 hx hZ hown (host := "") (Or.inl (tw hw 238 rfl)) Via.refl e0 Fa (g := (mkF m 1 #[vr a] [(.ref a)])) rfl rfl (hb hby d46_1)
  refine EndsK.go st1 ?_
  show EndsK p e below _ (T1.setTop (mkF m 4 #[vr a] [(.int v)]))
  exact endI X1 hx Bd.returns (hb hby d46_4) hlk ⟨rfl, N0, e1⟩ (by decide) (by decide)
abbrev B2 := jdk_39_method_1_code
theorem d2_0 : decode B2 0 = .ok (.aload_n 0, 1) := by decide +kernel
theorem d2_1 : decode B2 1 = .ok (.invokespecial 1, 3) := by decide +kernel
theorem d2_4 : decode B2 4 = .ok (.aload_n 0, 1) := by decide +kernel
theorem d2_5 : decode B2 5 = .ok (.iconst 0, 1) := by decide +kernel
theorem d2_6 : decode B2 6 = .ok (.putfield 7, 3) := by decide +kernel
theorem d2_9 : decode B2 9 = .ok (.return_, 1) := by decide +kernel
theorem pn11 : plainName "java/util/AbstractList" = true := by first | (simp [plainName, overriddenIn]; done) | decide +kernel
def Q_abl (Z : State) (w : Addr) (h0 : Heap) (n0 : Nat) (vz : Option Value) (hz : Heap) (Lz : List Loc) : Prop := vz = none ∧ Fr n0 Lz ∧ Keep h0 hz [w] ∧ Exa Z hz w "java/util/ArrayList" ∧ Fld Z hz w "java/util/ArrayList" "size" "I" (.int (0 : Int32)) ∧ Fld Z hz w "java/util/ArrayList" "elementData" "[Ljava/lang/Object;" .null ∧ Fld Z hz w "java/util/AbstractList" "modCount" "I" (.int (0 : Int32))
abbrev rr_abl : Room := ({ frames := 2, cells := 0, slots := 0, locals := 24 } : Room)
set_option maxRecDepth 65536 in
set_option maxHeartbeats 40000000 in
theorem rm_abl (l : Launch) (Z : State) (a0 : Array Value) (hw : ∀ d ∈ tables_1, d.before a0 Z = true) (ws : List Jvm.Cond) (w : Addr) (h0 : Heap) (n0 : Nat) (Z0 : n0 ≤ h0.size) (Ew : Exa Z h0 w "java/util/ArrayList") (Fs : Fld Z h0 w "java/util/ArrayList" "size" "I" (.int (0 : Int32))) (Fe : Fld Z h0 w "java/util/ArrayList" "elementData" "[Ljava/lang/Object;" .null) (Fm : Fld Z h0 w "java/util/AbstractList" "modCount" "I" (.int (0 : Int32))) (gw : n0 ≤ w) :
    MetFree l mn48 (head1 (Jvm.Cond.code mn48 jdk_39_method_1_code 1 none :: ws) rr_abl) (PreK Z #[(.ref w)] h0) (fun _ _ _ _ _ => True) (PosK (Q_abl Z w h0 n0) rr_abl) := by
  refine startK n0 (L := #[vr w]) (plainFor_of_name pn11) (fun _ => rfl) fun p e s m below meth c s₁ Bd hZ hh hx hby hml hown hnm hlk X0 e0 N0 => ?_
  have K0 : Keep h0 h0 [w] := Keep.refl _ _
  refine EndsK.go (fun _ kz => XS.aloadN X0.here hx rfl (hb hby d2_0) rfl rfl kz) ?_
  obtain ⟨_, T1, Lc1, X1, hQ1, st1⟩ := doneT X0 (X0.specialBack hx (y := mn44) rfl hown (mvT hZ (tw hw 12 rfl)) (mvT hZ (tw hw 13 rfl)) (mvT hZ (tw hw 17 rfl)) (by decide) (backOf (W := 0) (rm_acl l Z a0 hw [] w h0 n0 Z0) hZ (tw hw 17 rfl) (tw hw 16 rfl) (by decide) (by decide)) (g := (mkF m 1 #[vr w] [(.ref w)])) rfl (by rw [hml]; rfl) (Steps.refl _) (a := w) (argsL := []) (rest := []) (lenOf pd28 rfl) rfl (by show 2 * 0 + _ ≤ _; exact Nat.le_of_eq rfl) (hb hby d2_1) (fun _ _ => ⟨rfl, e0, (by decide : 0 + 0 ≤ _), (by decide : 0 + 0 ≤ _)⟩))
  obtain ⟨rfl, N1, e1⟩ := hQ1
  have M1 := Fr.app N0 N1
  refine EndsK.tr st1 ?_
  refine EndsK.go (fun _ kz => XS.aloadN X1.here hx rfl (hb hby d2_4) rfl rfl (XS.iconst X1.here hx rfl (hb hby d2_5) kz)) ?_
  obtain ⟨T2, h2, X2, e2, W2, st2⟩ := putF X1 hx hZ hown (host := "") (Or.inl (tw hw 21 rfl)) Via.refl e1 Fm Ew (Or.inl (tw hw 22 rfl)) (tw hw 1 rfl) (ty := .int) (by decide) rfl rfl (g := (mkF m 6 #[vr w] [(.int (0 : Int32)), (.ref w)])) rfl rfl (hb hby d2_6)
  refine EndsK.go st2 ?_
  have N2 := Fr.snoc X2 M1 gw
  have E2_w := Ew.wr W2
  have F2_size_w := Fs.other W2 (Or.inr (slot_ne (Or.inl (tw hw 148 rfl)) (Or.inl (tw hw 22 rfl)) (by decide) (t := .int) (t' := .int) (by decide) (by decide)))
  have F2_elementData_w := Fe.other W2 (Or.inr (slot_ne (Or.inl (tw hw 25 rfl)) (Or.inl (tw hw 22 rfl)) (by decide) (t := (.array (.object "java/lang/Object"))) (t' := .int) (by decide) (by decide)))
  have F2_modCount := Fm.same W2
  have Z2 : n0 ≤ h2.size := Nat.le_trans Z0 (Nat.le_of_eq W2.size.symm)
  have K2 := K0.wr W2 (Or.inl (List.mem_singleton.mpr rfl))
  show EndsK p e below _ (T2.setTop (mkF m 9 #[vr w] []))
  exact endV X2 hx Bd.returns (hb hby d2_9) hlk ⟨rfl, N2, by rw [e2]; exact K2, by rw [e2]; exact E2_w, by rw [e2]; exact F2_size_w, by rw [e2]; exact F2_elementData_w, by rw [e2]; exact F2_modCount⟩ (by decide) (by decide)
abbrev B1 := jdk_38_method_2_code
theorem d1_0 : decode B1 0 = .ok (.aload_n 0, 1) := by decide +kernel
theorem d1_1 : decode B1 1 = .ok (.invokespecial 1, 3) := by decide +kernel
theorem d1_4 : decode B1 4 = .ok (.aload_n 0, 1) := by decide +kernel
theorem d1_5 : decode B1 5 = .ok (.getstatic 39, 3) := by decide +kernel
theorem d1_8 : decode B1 8 = .ok (.putfield 9, 3) := by decide +kernel
theorem d1_11 : decode B1 11 = .ok (.return_, 1) := by decide +kernel
theorem pn12 : plainName "java/util/ArrayList" = true := by first | (simp [plainName, overriddenIn]; done) | decide +kernel
def Q_ali (Z : State) (hB : Heap) (dce : Addr) (cd : Cell) (w : Addr) (h0 : Heap) (n0 : Nat) (vz : Option Value) (hz : Heap) (Lz : List Loc) : Prop := vz = none ∧ Fr n0 Lz ∧ Keep h0 hz [w] ∧ LI Z hz w dce 0 0
abbrev rr_ali : Room := ({ frames := 3, cells := 0, slots := 0, locals := 37 } : Room)
set_option maxRecDepth 65536 in
set_option maxHeartbeats 40000000 in
theorem rm_ali (l : Launch) (Z : State) (a0 : Array Value) (hw : ∀ d ∈ tables_1, d.before a0 Z = true) (ws : List Jvm.Cond) (hB : Heap) (dce : Addr) (cd : Cell) (w : Addr) (h0 : Heap) (n0 : Nat) (Z0 : n0 ≤ h0.size) (L0 : LS Z hB dce cd) (EB : Ext hB h0) (hBw : hB.size ≤ w) (Ew : Exa Z h0 w "java/util/ArrayList") (Fs : Fld Z h0 w "java/util/ArrayList" "size" "I" (.int (0 : Int32))) (Fe : Fld Z h0 w "java/util/ArrayList" "elementData" "[Ljava/lang/Object;" .null) (Fm : Fld Z h0 w "java/util/AbstractList" "modCount" "I" (.int (0 : Int32))) (gw : n0 ≤ w) :
    MetFree l mn49 (head1 (Jvm.Cond.code mn49 jdk_38_method_2_code 1 none :: ws) rr_ali) (PreK Z #[(.ref w)] h0) (fun _ _ _ _ _ => True) (PosK (Q_ali Z hB dce cd w h0 n0) rr_ali) := by
  refine startK n0 (L := #[vr w]) (plainFor_of_name pn12) (fun _ => rfl) fun p e s m below meth c s₁ Bd hZ hh hx hby hml hown hnm hlk X0 e0 N0 => ?_
  have K0 : Keep h0 h0 [w] := Keep.refl _ _
  refine EndsK.go (fun _ kz => XS.aloadN X0.here hx rfl (hb hby d1_0) rfl rfl kz) ?_
  obtain ⟨_, T1, Lc1, X1, hQ1, st1⟩ := doneT X0 (X0.specialBack hx (y := mn48) rfl hown (mvT hZ (tw hw 6 rfl)) (mvT hZ (tw hw 7 rfl)) (mvT hZ (tw hw 11 rfl)) (by decide) (backOf (W := 0) (rm_abl l Z a0 hw [] w h0 n0 Z0 Ew Fs Fe Fm gw) hZ (tw hw 11 rfl) (tw hw 10 rfl) (by decide) (by decide)) (g := (mkF m 1 #[vr w] [(.ref w)])) rfl (by rw [hml]; rfl) (Steps.refl _) (a := w) (argsL := []) (rest := []) (lenOf pd28 rfl) rfl (by show 2 * 0 + _ ≤ _; exact Nat.le_of_eq rfl) (hb hby d1_1) (fun _ _ => ⟨rfl, e0, (by decide : 0 + 0 ≤ _), (by decide : 0 + 0 ≤ _)⟩))
  obtain ⟨rfl, N1, Kc1, Ew1, Fs1, Fe1, Fm1⟩ := hQ1
  have M1 := Fr.app N0 N1
  obtain ⟨h1, e1⟩ : ∃ z, T1.heap = z := ⟨_, rfl⟩
  rw [e1] at Kc1 Ew1 Fs1 Fe1 Fm1
  have Z1 : n0 ≤ h1.size := Nat.le_trans Z0 Kc1.1
  have K1 := K0.trans Kc1 (allS (Or.inl (List.mem_singleton.mpr rfl)) all0)
  have E1_w := Ew.keep Kc1
  refine EndsK.tr st1 ?_
  refine EndsK.go (fun _ kz => XS.aloadN X1.here hx rfl (hb hby d1_4) rfl rfl kz) ?_
  obtain ⟨T2, X2, e2, st2⟩ := getS2 X1 hx hZ hown (host := "") (Or.inl (tw hw 23 rfl)) Via.refl e1 (L0.SD.ext (ext_kept EB K1 (allS hBw all0))) (g := (mkF m 5 #[vr w] [(.ref w)])) rfl (hb hby d1_5)
  refine EndsK.go st2 ?_
  obtain ⟨T3, h3, X3, e3, W3, st3⟩ := putF X2 hx hZ hown (host := "") (Or.inl (tw hw 24 rfl)) Via.refl e2 Fe1 Ew1 (Or.inl (tw hw 25 rfl)) (tw hw 1 rfl) (ty := (.array (.object "java/lang/Object"))) (by decide) rfl rfl (g := (mkF m 8 #[vr w] [(.ref dce), (.ref w)])) rfl rfl (hb hby d1_8)
  refine EndsK.go st3 ?_
  have N3 := Fr.snoc X3 M1 gw
  have E3_w := Ew1.wr W3
  have F3_size_w := Fs1.other W3 (Or.inr (slot_ne (Or.inl (tw hw 148 rfl)) (Or.inl (tw hw 25 rfl)) (by decide) (t := .int) (t' := (.array (.object "java/lang/Object"))) (by decide) (by decide)))
  have F3_elementData := Fe1.same W3
  have F3_modCount_w := Fm1.other W3 (Or.inr (slot_ne (Or.inl (tw hw 22 rfl)) (Or.inl (tw hw 25 rfl)) (by decide) (t := .int) (t' := (.array (.object "java/lang/Object"))) (by decide) (by decide)))
  have Z3 : n0 ≤ h3.size := Nat.le_trans Z1 (Nat.le_of_eq W3.size.symm)
  have K3 := K1.wr W3 (Or.inl (List.mem_singleton.mpr rfl))
  show EndsK p e below _ (T3.setTop (mkF m 11 #[vr w] []))
  exact endV X3 hx Bd.returns (hb hby d1_11) hlk ⟨rfl, N3, by rw [e3]; exact K3, by rw [e3]; exact ⟨E3_w, F3_size_w, F3_elementData, F3_modCount_w⟩⟩ (by decide) (by decide)
abbrev B42 := jdk_38_method_6_code
theorem d42_0 : decode B42 0 = .ok (.aload_n 0, 1) := by decide +kernel
theorem d42_1 : decode B42 1 = .ok (.getfield 9, 3) := by decide +kernel
theorem d42_4 : decode B42 4 = .ok (.arraylength, 1) := by decide +kernel
theorem d42_5 : decode B42 5 = .ok (.istore_n 2, 1) := by decide +kernel
theorem d42_6 : decode B42 6 = .ok (.iload_n 2, 1) := by decide +kernel
theorem d42_7 : decode B42 7 = .ok (.ifCond .gt 13, 3) := by decide +kernel
theorem d42_10 : decode B42 10 = .ok (.aload_n 0, 1) := by decide +kernel
theorem d42_11 : decode B42 11 = .ok (.getfield 9, 3) := by decide +kernel
theorem d42_14 : decode B42 14 = .ok (.getstatic 39, 3) := by decide +kernel
theorem d42_17 : decode B42 17 = .ok (.if_acmp .eq 28, 3) := by decide +kernel
theorem d42_45 : decode B42 45 = .ok (.aload_n 0, 1) := by decide +kernel
theorem d42_46 : decode B42 46 = .ok (.bipush 10, 2) := by decide +kernel
theorem d42_48 : decode B42 48 = .ok (.iload_n 1, 1) := by decide +kernel
theorem d42_49 : decode B42 49 = .ok (.invokestatic 79, 3) := by decide +kernel
theorem d42_52 : decode B42 52 = .ok (.anewarray 7, 3) := by decide +kernel
theorem d42_55 : decode B42 55 = .ok (.dup_x1, 1) := by decide +kernel
theorem d42_56 : decode B42 56 = .ok (.putfield 9, 3) := by decide +kernel
theorem d42_59 : decode B42 59 = .ok (.areturn, 1) := by decide +kernel
def Q_grow1 (Z : State) (hB : Heap) (dce : Addr) (cd : Cell) (w : Addr) (mc : Int32) (h0 : Heap) (n0 : Nat) (vz : Option Value) (hz : Heap) (Lz : List Loc) : Prop := ∃ t : Addr, vz = some (.ref t) ∧ Fr n0 Lz ∧ Keep h0 hz [w] ∧ h0.size ≤ t ∧ LI Z hz w t 0 mc ∧ Els Z hz t 0 (fun _ => 0)
abbrev rr_grow1 : Room := ({ frames := 1, cells := 1, slots := 10, locals := 20 } : Room)
set_option maxRecDepth 65536 in
set_option maxHeartbeats 40000000 in
theorem rm_grow1 (l : Launch) (Z : State) (a0 : Array Value) (hw : ∀ d ∈ tables_1, d.before a0 Z = true) (ws : List Jvm.Cond) (hB : Heap) (dce : Addr) (cd : Cell) (w : Addr) (mc : Int32) (h0 : Heap) (n0 : Nat) (Z0 : n0 ≤ h0.size) (L0 : LS Z hB dce cd) (EB : Ext hB h0) (hBw : hB.size ≤ w) (I0 : LI Z h0 w dce 0 mc) (gw : n0 ≤ w) :
    MetFree l mn50 (head1 (Jvm.Cond.code mn50 jdk_38_method_6_code 4 (some (.array (.object "java/lang/Object"))) :: ws) rr_grow1) (PreK Z #[(.ref w), (.int (1 : Int32))] h0) (fun _ _ _ _ _ => True) (PosK (Q_grow1 Z hB dce cd w mc h0 n0) rr_grow1) := by
  refine startK n0 (L := #[vr w, vi (1 : Int32), .unset, .unset]) (plainFor_of_name pn12) (fun _ => rfl) fun p e s m below meth c s₁ Bd hZ hh hx hby hml hown hnm hlk X0 e0 N0 => ?_
  obtain ⟨Ew, Fs, Fe, Fm⟩ := id I0
  have K0 : Keep h0 h0 [w] := Keep.refl _ _
  have AD0 := L0.AD.ext EB
  have zd0 : cd.slots.size.toInt32 = (0 : Int32) := by rw [L0.zd]; rfl
  refine EndsK.go (fun _ kz => XS.aloadN X0.here hx rfl (hb hby d42_0) rfl rfl kz) ?_
  obtain ⟨T1, X1, e1, st1⟩ := getF X0 hx hZ hown (host := "") (Or.inl (tw hw 24 rfl)) Via.refl e0 Fe (g := (mkF m 1 #[vr w, vi (1 : Int32), .unset, .unset] [(.ref w)])) rfl rfl (hb hby d42_1)
  refine EndsK.go st1 ?_
  refine EndsK.go (fun tz kz => X1.arraylength hx (by rw [e1]; exact AD0.1) (State.isArrayOf_alike hZ.alike AD0.2.1) (g := (mkF m 4 #[vr w, vi (1 : Int32), .unset, .unset] [(.ref dce)])) rfl rfl (hb hby d42_4) tz kz) ?_
  rw [zd0]
  refine EndsK.go (fun _ kz => XS.istoreN X1.here hx rfl (hb hby d42_5) rfl (l' := #[vr w, vi (1 : Int32), vi (0 : Int32), .unset]) rfl (XS.iloadN X1.here hx rfl (hb hby d42_6) rfl (XS.ifNo X1.here hx rfl (hb hby d42_7) rfl ((if0 _ _).trans (flt (by decide : ¬ ((0 : Int32) < (0 : Int32)))).2.2.1) (XS.aloadN X1.here hx rfl (hb hby d42_10) rfl rfl kz)))) ?_
  obtain ⟨T2, X2, e2, st2⟩ := getF X1 hx hZ hown (host := "") (Or.inl (tw hw 24 rfl)) Via.refl e1 Fe (g := (mkF m 11 #[vr w, vi (1 : Int32), vi (0 : Int32), .unset] [(.ref w)])) rfl rfl (hb hby d42_11)
  refine EndsK.go st2 ?_
  obtain ⟨T3, X3, e3, st3⟩ := getS2 X2 hx hZ hown (host := "") (Or.inl (tw hw 23 rfl)) Via.refl e2 (L0.SD.ext (ext_kept EB K0 (allS hBw all0))) (g := (mkF m 14 #[vr w, vi (1 : Int32), vi (0 : Int32), .unset] [(.ref dce)])) rfl (hb hby d42_14)
  refine EndsK.go st3 ?_
  refine EndsK.go (fun _ kz => Jvm.RoadKit.acmp (g := (mkF m 17 #[vr w, vi (1 : Int32), vi (0 : Int32), .unset] [(.ref dce), (.ref dce)])) X3 hx rfl rfl rfl (pc0 := 17) (pc' := 45) (same := true) rfl (hb hby d42_17) rfl (decide_eq_true rfl) (by decide) (by decide) (XS.aloadN X3.here hx rfl (hb hby d42_45) rfl rfl (XS.bipush X3.here hx rfl (hb hby d42_46) (XS.iloadN X3.here hx rfl (hb hby d42_48) rfl kz)))) ?_
  obtain ⟨_, T4, Lc4, X4, hQ4, st4⟩ := doneG X3 (Jvm.LawKit.callS X3 hx (y := mn5) hown (mvT hZ (tw hw 265 rfl)) (mvT hZ (tw hw 266 rfl)) (mvT hZ (tw hw 193 rfl)) (mvT hZ (tw hw 267 rfl)) (by decide) (backOf (W := 1) (rm_max l Z a0 hw [] (10 : Int32) (1 : Int32) h0 n0 Z0) hZ (tw hw 267 rfl) (tw hw 193 rfl) (by decide) (by decide)) (g := (mkF m 49 #[vr w, vi (1 : Int32), vi (0 : Int32), .unset] [(.int (1 : Int32)), (.int (10 : Int32)), (.ref w)])) rfl (by rw [hml]; rfl) (argsL := [(.int (10 : Int32)), (.int (1 : Int32))]) (rest := [(.ref w)]) (lenOf pd3 rfl) rfl (by show 2 * 0 + _ ≤ _; exact Nat.le_of_eq rfl) (hb hby d42_49) (fun _ _ => ⟨rfl, e3, (by decide : 0 + 0 ≤ _), (by decide : 0 + 0 ≤ _)⟩))
  obtain ⟨rfl, N4, e4⟩ := hQ4
  have M4 := Fr.app N0 N4
  refine EndsK.go st4 ?_
  refine EndsK.start (congrArg (fun z_ => (mkF m 52 #[vr w, vi (1 : Int32), vi (0 : Int32), .unset] [(.int z_), (.ref w)])) (by decide : (maxF (10 : Int32) (1 : Int32)) = (10 : Int32))) ?_
  obtain ⟨T5, h5, c5, X5, e5, E5, A5, O5, st5⟩ := newR X4 hx hZ hown (tw hw 268 rfl) (tw hw 269 rfl) e4 (g := (mkF m 52 #[vr w, vi (1 : Int32), vi (0 : Int32), .unset] [(.int (10 : Int32)), (.ref w)])) rfl (hb hby d42_52) rfl (by decide) (cap := 10) (by decide) (by decide) (by decide) (by decide)
  obtain ⟨t, g5⟩ : ∃ z, z = h0.size := ⟨_, rfl⟩
  rw [← g5] at A5 st5
  refine EndsK.go st5 ?_
  have E5_w := Ew.ext E5
  have F5_size_w := Fs.ext E5
  have F5_elementData_w := Fe.ext E5
  have F5_modCount_w := Fm.ext E5
  have A5_dce := AD0.ext E5
  have K5 := K0.ext E5
  have sz_t : h0.size ≤ t := by rw [g5]; exact K0.1
  have ne_w_t : w ≠ t := Nat.ne_of_lt (by rw [g5]; exact Ew.lt)
  have ne_dce_t : dce ≠ t := Nat.ne_of_lt (by rw [g5]; exact AD0.lt)
  have B5 : Els Z h5 t 0 (fun _ => 0) := Els.new A5 O5 (by decide)
  have Z5 : n0 ≤ h5.size := Nat.le_trans Z0 E5.1
  refine EndsK.go (fun _ kz => XS.dupX1 X5.here hx rfl (hb hby d42_55) rfl rfl rfl kz) ?_
  obtain ⟨T6, h6, X6, e6, W6, st6⟩ := putF X5 hx hZ hown (host := "") (Or.inl (tw hw 24 rfl)) Via.refl e5 F5_elementData_w E5_w (Or.inl (tw hw 25 rfl)) (tw hw 1 rfl) (ty := (.array (.object "java/lang/Object"))) (by decide) rfl rfl (g := (mkF m 56 #[vr w, vi (1 : Int32), vi (0 : Int32), .unset] [(.ref t), (.ref w), (.ref t)])) rfl rfl (hb hby d42_56)
  refine EndsK.go st6 ?_
  have N6 := Fr.snoc X6 M4 gw
  have E6_w := E5_w.wr W6
  have F6_size_w := F5_size_w.other W6 (Or.inr (slot_ne (Or.inl (tw hw 148 rfl)) (Or.inl (tw hw 25 rfl)) (by decide) (t := .int) (t' := (.array (.object "java/lang/Object"))) (by decide) (by decide)))
  have F6_elementData := F5_elementData_w.same W6
  have F6_modCount_w := F5_modCount_w.other W6 (Or.inr (slot_ne (Or.inl (tw hw 22 rfl)) (Or.inl (tw hw 25 rfl)) (by decide) (t := .int) (t' := (.array (.object "java/lang/Object"))) (by decide) (by decide)))
  have B6_t := B5.other W6 (Ne.symm ne_w_t)
  have Z6 : n0 ≤ h6.size := Nat.le_trans Z5 (Nat.le_of_eq W6.size.symm)
  have K6 := K5.wr W6 (Or.inl (List.mem_singleton.mpr rfl))
  show EndsK p e below _ (T6.setTop (mkF m 59 #[vr w, vi (1 : Int32), vi (0 : Int32), .unset] [(.ref t)]))
  exact endR X6 hx Bd.returns rfl rfl (hb hby d42_59) hlk ⟨t, rfl, N6, by rw [e6]; exact K6, sz_t, by rw [e6]; exact ⟨E6_w, F6_size_w, F6_elementData, F6_modCount_w⟩, by rw [e6]; exact B6_t⟩ (by decide) (by decide)
abbrev B41 := jdk_38_method_7_code
theorem d41_0 : decode B41 0 = .ok (.aload_n 0, 1) := by decide +kernel
theorem d41_1 : decode B41 1 = .ok (.aload_n 0, 1) := by decide +kernel
theorem d41_2 : decode B41 2 = .ok (.getfield 48, 3) := by decide +kernel
theorem d41_5 : decode B41 5 = .ok (.iconst 1, 1) := by decide +kernel
theorem d41_6 : decode B41 6 = .ok (.iadd, 1) := by decide +kernel
theorem d41_7 : decode B41 7 = .ok (.invokevirtual 69, 3) := by decide +kernel
theorem d41_10 : decode B41 10 = .ok (.areturn, 1) := by decide +kernel
def Q_grow0 (Z : State) (hB : Heap) (dce : Addr) (cd : Cell) (w : Addr) (mc : Int32) (h0 : Heap) (n0 : Nat) (vz : Option Value) (hz : Heap) (Lz : List Loc) : Prop := ∃ t : Addr, vz = some (.ref t) ∧ Fr n0 Lz ∧ Keep h0 hz [w] ∧ h0.size ≤ t ∧ LI Z hz w t 0 mc ∧ Els Z hz t 0 (fun _ => 0)
abbrev rr_grow0 : Room := ({ frames := 2, cells := 1, slots := 10, locals := 36 } : Room)
theorem pd29 : parseMethodDescriptor "(I)[Ljava/lang/Object;" = some ⟨[.int], some (.array (.object "java/lang/Object"))⟩ := by decide +kernel
set_option maxRecDepth 65536 in
set_option maxHeartbeats 40000000 in
theorem rm_grow0 (l : Launch) (Z : State) (a0 : Array Value) (hw : ∀ d ∈ tables_1, d.before a0 Z = true) (ws : List Jvm.Cond) (hB : Heap) (dce : Addr) (cd : Cell) (w : Addr) (mc : Int32) (h0 : Heap) (n0 : Nat) (Z0 : n0 ≤ h0.size) (L0 : LS Z hB dce cd) (EB : Ext hB h0) (hBw : hB.size ≤ w) (I0 : LI Z h0 w dce 0 mc) (gw : n0 ≤ w) :
    MetFree l mn51 (head1 (Jvm.Cond.code mn51 jdk_38_method_7_code 1 (some (.array (.object "java/lang/Object"))) :: ws) rr_grow0) (PreK Z #[(.ref w)] h0) (fun _ _ _ _ _ => True) (PosK (Q_grow0 Z hB dce cd w mc h0 n0) rr_grow0) := by
  refine startK n0 (L := #[vr w]) (plainFor_of_name pn12) (fun _ => rfl) fun p e s m below meth c s₁ Bd hZ hh hx hby hml hown hnm hlk X0 e0 N0 => ?_
  obtain ⟨Ew, Fs, Fe, Fm⟩ := id I0
  refine EndsK.go (fun _ kz => XS.aloadN X0.here hx rfl (hb hby d41_0) rfl rfl (XS.aloadN X0.here hx rfl (hb hby d41_1) rfl rfl kz)) ?_
  obtain ⟨T1, X1, e1, st1⟩ := getF X0 hx hZ hown (host := "") (Or.inl (tw hw 249 rfl)) Via.refl e0 Fs (g := (mkF m 2 #[vr w] [(.ref w), (.ref w)])) rfl rfl (hb hby d41_2)
  refine EndsK.go st1 ?_
  refine EndsK.go (fun _ kz => XS.iconst X1.here hx rfl (hb hby d41_5) (XS.iadd X1.here hx rfl (hb hby d41_6) rfl kz)) ?_
  refine EndsK.start (congrArg (fun z_ => (mkF m 7 #[vr w] [(.int z_), (.ref w)])) (by decide : ((Int32.ofNat 0) + (1 : Int32)) = (1 : Int32))) ?_
  obtain ⟨cq2, kq2, qa2, qb2, qc2⟩ := isOf hZ e1 Ew
  obtain ⟨_, T2, Lc2, X2, hQ2, st2⟩ := doneT X1 (X1.virtualBack hx (y := mn50) (z := mn50) hown (mvT hZ (tw hw 260 rfl)) (declares_of (mvT hZ (tw hw 261 rfl)) (mvT hZ (tw hw 264 rfl))) (notFace_of_selects (args := #[]) (mvT hZ (tw hw 263 rfl))) (mvT hZ (tw hw 263 rfl)) (mvT hZ (tw hw 261 rfl)) (by decide) (backOf (W := 0) (rm_grow1 l Z a0 hw [] hB dce cd w mc h0 n0 Z0 L0 EB hBw I0 gw) hZ (tw hw 264 rfl) (tw hw 2 rfl) (by decide) (by decide)) qa2 qc2 (g := (mkF m 7 #[vr w] [(.int (1 : Int32)), (.ref w)])) rfl (by rw [hml]; rfl) (Steps.refl _) (argsL := [(.int (1 : Int32))]) (rest := []) (lenOf pd29 rfl) rfl (by show 2 * 0 + _ ≤ _; exact Nat.le_of_eq rfl) (hb hby d41_7) (fun _ _ => ⟨rfl, e1, (by decide : 0 + 1 ≤ _), (by decide : 0 + 10 ≤ _)⟩))
  obtain ⟨t2, rfl, N2, Kc2, q_s2, I2, B2⟩ := hQ2
  have M2 := Fr.app N0 N2
  obtain ⟨h2, e2⟩ : ∃ z, T2.heap = z := ⟨_, rfl⟩
  rw [e2] at Kc2 I2 B2
  have Z2 : n0 ≤ h2.size := Nat.le_trans Z0 Kc2.1
  have E2_w := Ew.keep Kc2
  refine EndsK.tr st2 ?_
  show EndsK p e below _ (T2.setTop (mkF m 10 #[vr w] [(.ref t2)]))
  exact endR X2 hx Bd.returns rfl rfl (hb hby d41_10) hlk ⟨t2, rfl, M2, by rw [e2]; exact Kc2, q_s2, by rw [e2]; exact I2, by rw [e2]; exact B2⟩ (by decide) (by decide)
abbrev B40 := jdk_38_method_24_code
theorem d40_0 : decode B40 0 = .ok (.iload_n 3, 1) := by decide +kernel
theorem d40_1 : decode B40 1 = .ok (.aload_n 2, 1) := by decide +kernel
theorem d40_2 : decode B40 2 = .ok (.arraylength, 1) := by decide +kernel
theorem d40_3 : decode B40 3 = .ok (.if_icmp .ne 8, 3) := by decide +kernel
theorem d40_6 : decode B40 6 = .ok (.aload_n 0, 1) := by decide +kernel
theorem d40_7 : decode B40 7 = .ok (.invokevirtual 129, 3) := by decide +kernel
theorem d40_10 : decode B40 10 = .ok (.astore_n 2, 1) := by decide +kernel
theorem d40_11 : decode B40 11 = .ok (.aload_n 2, 1) := by decide +kernel
theorem d40_12 : decode B40 12 = .ok (.iload_n 3, 1) := by decide +kernel
theorem d40_13 : decode B40 13 = .ok (.aload_n 1, 1) := by decide +kernel
theorem d40_14 : decode B40 14 = .ok (.aastore, 1) := by decide +kernel
theorem d40_15 : decode B40 15 = .ok (.aload_n 0, 1) := by decide +kernel
theorem d40_16 : decode B40 16 = .ok (.iload_n 3, 1) := by decide +kernel
theorem d40_17 : decode B40 17 = .ok (.iconst 1, 1) := by decide +kernel
theorem d40_18 : decode B40 18 = .ok (.iadd, 1) := by decide +kernel
theorem d40_19 : decode B40 19 = .ok (.putfield 48, 3) := by decide +kernel
theorem d40_22 : decode B40 22 = .ok (.return_, 1) := by decide +kernel
def Q_add30 (Z : State) (hB : Heap) (dce : Addr) (cd : Cell) (w : Addr) (mc : Int32) (b : Addr) (h0 : Heap) (n0 : Nat) (vz : Option Value) (hz : Heap) (Lz : List Loc) : Prop := ∃ t : Addr, vz = none ∧ Fr n0 Lz ∧ Keep h0 hz [w] ∧ h0.size ≤ t ∧ LI Z hz w t 1 mc ∧ Els Z hz t 1 (fun j => if j = 0 then b else (fun _ => 0) j)
abbrev rr_add30 : Room := ({ frames := 3, cells := 1, slots := 10, locals := 50 } : Room)
theorem pd30 : parseMethodDescriptor "()[Ljava/lang/Object;" = some ⟨[], some (.array (.object "java/lang/Object"))⟩ := by decide +kernel
set_option maxRecDepth 65536 in
set_option maxHeartbeats 40000000 in
theorem rm_add30 (l : Launch) (Z : State) (a0 : Array Value) (hw : ∀ d ∈ tables_1, d.before a0 Z = true) (ws : List Jvm.Cond) (hB : Heap) (dce : Addr) (cd : Cell) (w : Addr) (mc : Int32) (b : Addr) (h0 : Heap) (n0 : Nat) (Z0 : n0 ≤ h0.size) (L0 : LS Z hB dce cd) (EB : Ext hB h0) (hBw : hB.size ≤ w) (I0 : LI Z h0 w dce 0 mc) (gw : n0 ≤ w) (Eb : Exa Z h0 b "java/lang/Integer") :
    MetFree l mn52 (head1 (Jvm.Cond.code mn52 jdk_38_method_24_code 4 none :: ws) rr_add30) (PreK Z #[(.ref w), (.ref b), (.ref dce), (.int (0 : Int32))] h0) (fun _ _ _ _ _ => True) (PosK (Q_add30 Z hB dce cd w mc b h0 n0) rr_add30) := by
  refine startK n0 (L := #[vr w, vr b, vr dce, vi (0 : Int32)]) (plainFor_of_name pn12) (fun _ => rfl) fun p e s m below meth c s₁ Bd hZ hh hx hby hml hown hnm hlk X0 e0 N0 => ?_
  obtain ⟨Ew, Fs, Fe, Fm⟩ := id I0
  have K0 : Keep h0 h0 [w] := Keep.refl _ _
  have AD0 := L0.AD.ext EB
  have zd0 : cd.slots.size.toInt32 = (0 : Int32) := by rw [L0.zd]; rfl
  refine EndsK.go (fun _ kz => XS.iloadN X0.here hx rfl (hb hby d40_0) rfl (XS.aloadN X0.here hx rfl (hb hby d40_1) rfl rfl kz)) ?_
  refine EndsK.go (fun tz kz => X0.arraylength hx (by rw [e0]; exact AD0.1) (State.isArrayOf_alike hZ.alike AD0.2.1) (g := (mkF m 2 #[vr w, vr b, vr dce, vi (0 : Int32)] [(.ref dce), (.int (0 : Int32))])) rfl rfl (hb hby d40_2) tz kz) ?_
  rw [zd0]
  refine EndsK.go (fun _ kz => XS.icmpNo X0.here hx rfl (hb hby d40_3) rfl (teq (rfl : (0 : Int32) = (0 : Int32))).2 (XS.aloadN X0.here hx rfl (hb hby d40_6) rfl rfl kz)) ?_
  obtain ⟨cq1, kq1, qa1, qb1, qc1⟩ := isOf hZ e0 Ew
  obtain ⟨_, T1, Lc1, X1, hQ1, st1⟩ := doneT X0 (X0.virtualBack hx (y := mn51) (z := mn51) hown (mvT hZ (tw hw 255 rfl)) (declares_of (mvT hZ (tw hw 256 rfl)) (mvT hZ (tw hw 259 rfl))) (notFace_of_selects (args := #[]) (mvT hZ (tw hw 258 rfl))) (mvT hZ (tw hw 258 rfl)) (mvT hZ (tw hw 256 rfl)) (by decide) (backOf (W := 0) (rm_grow0 l Z a0 hw [] hB dce cd w mc h0 n0 Z0 L0 EB hBw I0 gw) hZ (tw hw 259 rfl) (tw hw 2 rfl) (by decide) (by decide)) qa1 qc1 (g := (mkF m 7 #[vr w, vr b, vr dce, vi (0 : Int32)] [(.ref w)])) rfl (by rw [hml]; rfl) (Steps.refl _) (argsL := []) (rest := []) (lenOf pd30 rfl) rfl (by show 2 * 0 + _ ≤ _; exact Nat.le_of_eq rfl) (hb hby d40_7) (fun _ _ => ⟨rfl, e0, (by decide : 0 + 1 ≤ _), (by decide : 0 + 10 ≤ _)⟩))
  obtain ⟨t1, rfl, N1, Kc1, q_s1, I1, B1⟩ := hQ1
  have M1 := Fr.app N0 N1
  obtain ⟨h1, e1⟩ : ∃ z, T1.heap = z := ⟨_, rfl⟩
  rw [e1] at Kc1 I1 B1
  have Z1 : n0 ≤ h1.size := Nat.le_trans Z0 Kc1.1
  have K1 := K0.trans Kc1 (allS (Or.inl (List.mem_singleton.mpr rfl)) all0)
  have E1_w := Ew.keep Kc1
  have E1_b := Eb.keep Kc1
  obtain ⟨Ew1, Fs1, Fe1, Fm1⟩ := id I1
  have nw1 : w ≠ t1 := Nat.ne_of_lt (Nat.lt_of_lt_of_le Ew.lt q_s1)
  have gt1 : n0 ≤ t1 := Nat.le_trans Z0 q_s1
  have Eb1 := Eb.keep Kc1
  refine EndsK.tr st1 ?_
  refine EndsK.go (fun _ kz => XS.astoreN X1.here hx rfl (hb hby d40_10) rfl rfl (l' := #[vr w, vr b, vr t1, vi (0 : Int32)]) rfl (XS.aloadN X1.here hx rfl (hb hby d40_11) rfl rfl (XS.iloadN X1.here hx rfl (hb hby d40_12) rfl (XS.aloadN X1.here hx rfl (hb hby d40_13) rfl rfl kz)))) ?_
  refine EndsK.start (congrArg (fun z_ => (mkF m 14 #[vr w, vr b, vr t1, vi (0 : Int32)] [(.ref b), (.int z_), (.ref t1)])) (rfl : (0 : Int32) = (Int32.ofNat 0))) ?_
  obtain ⟨cE2, AE2, OE2, zE2, HE2⟩ := id B1
  obtain ⟨T2, h2, X2, e2, W2, st2⟩ := stR X1 hx hZ e1 AE2 (j := (Int32.ofNat 0)) (byt_in zE2 (by decide) (by omega)) rfl (Sto.of AE2 OE2 (Ins.of_exa Eb1 (tw hw 270 rfl))) (g := (mkF m 14 #[vr w, vr b, vr t1, vi (0 : Int32)] [(.ref b), (.int (Int32.ofNat 0)), (.ref t1)])) rfl rfl (hb hby d40_14)
  refine EndsK.go st2 ?_
  have W_2 : Wr h1 h2 t1 0 (.ref b) := by have q := W2; rw [on_clamp (a := 0) (by omega)] at q; exact q
  have B2 := B1.snoc W_2
  have N2 := Fr.snoc X2 M1 gt1
  have K2 := K1.wr W2 (Or.inr q_s1)
  have Z2 : n0 ≤ h2.size := Nat.le_trans Z1 (Nat.le_of_eq W2.size.symm)
  have E2_w := Ew1.wr W2
  have F2_size_w := Fs1.other W2 (Or.inl nw1)
  have F2_elementData_w := Fe1.other W2 (Or.inl nw1)
  have F2_modCount_w := Fm1.other W2 (Or.inl nw1)
  have E2_b := Eb1.wr W2
  refine EndsK.go (fun _ kz => XS.aloadN X2.here hx rfl (hb hby d40_15) rfl rfl (XS.iloadN X2.here hx rfl (hb hby d40_16) rfl (XS.iconst X2.here hx rfl (hb hby d40_17) (XS.iadd X2.here hx rfl (hb hby d40_18) rfl kz)))) ?_
  refine EndsK.start (congrArg (fun z_ => (mkF m 19 #[vr w, vr b, vr t1, vi (0 : Int32)] [(.int z_), (.ref w)])) (by decide : (1 : Int32) = (Int32.ofNat 1))) ?_
  obtain ⟨T3, h3, X3, e3, W3, st3⟩ := putF X2 hx hZ hown (host := "") (Or.inl (tw hw 249 rfl)) Via.refl e2 F2_size_w E2_w (Or.inl (tw hw 148 rfl)) (tw hw 1 rfl) (ty := .int) (by decide) rfl rfl (g := (mkF m 19 #[vr w, vr b, vr t1, vi (0 : Int32)] [(.int (Int32.ofNat 1)), (.ref w)])) rfl rfl (hb hby d40_19)
  refine EndsK.go st3 ?_
  have N3 := Fr.snoc X3 N2 gw
  have E3_w := E2_w.wr W3
  have F3_size := F2_size_w.same W3
  have F3_elementData_w := F2_elementData_w.other W3 (Or.inr (slot_ne (Or.inl (tw hw 25 rfl)) (Or.inl (tw hw 148 rfl)) (by decide) (t := (.array (.object "java/lang/Object"))) (t' := .int) (by decide) (by decide)))
  have F3_modCount_w := F2_modCount_w.other W3 (Or.inr (slot_ne (Or.inl (tw hw 22 rfl)) (Or.inl (tw hw 148 rfl)) (by decide) (t := .int) (t' := .int) (by decide) (by decide)))
  have B3_t1 := B2.other W3 (Ne.symm nw1)
  have E3_b := E2_b.wr W3
  have Z3 : n0 ≤ h3.size := Nat.le_trans Z2 (Nat.le_of_eq W3.size.symm)
  have K3 := K2.wr W3 (Or.inl (List.mem_singleton.mpr rfl))
  show EndsK p e below _ (T3.setTop (mkF m 22 #[vr w, vr b, vr t1, vi (0 : Int32)] []))
  exact endV X3 hx Bd.returns (hb hby d40_22) hlk ⟨t1, rfl, N3, by rw [e3]; exact K3, q_s1, by rw [e3]; exact ⟨E3_w, F3_size, F3_elementData_w, F3_modCount_w⟩, by rw [e3]; exact B3_t1⟩ (by decide) (by decide)
def Q_add3n (Z : State) (w : Addr) (t : Addr) (b : Addr) (n : Nat) (G : Nat → Addr) (mc : Int32) (h0 : Heap) (n0 : Nat) (vz : Option Value) (hz : Heap) (Lz : List Loc) : Prop := vz = none ∧ Fr n0 Lz ∧ Keep h0 hz [w, t] ∧ LI Z hz w t (n + 1) mc ∧ Els Z hz t (n + 1) (fun j => if j = n then b else G j)
abbrev rr_add3n : Room := ({ frames := 0, cells := 0, slots := 0, locals := 0 } : Room)
set_option maxRecDepth 65536 in
set_option maxHeartbeats 40000000 in
theorem rm_add3n (l : Launch) (Z : State) (a0 : Array Value) (hw : ∀ d ∈ tables_1, d.before a0 Z = true) (ws : List Jvm.Cond) (w : Addr) (t : Addr) (b : Addr) (n : Nat) (G : Nat → Addr) (mc : Int32) (h0 : Heap) (n0 : Nat) (Z0 : n0 ≤ h0.size) (I0 : LI Z h0 w t n mc) (B0 : Els Z h0 t n G) (Eb : Exa Z h0 b "java/lang/Integer") (gw : n0 ≤ w) (gt : n0 ≤ t) (nwt : w ≠ t) (hn : n ≤ 8) :
    MetFree l mn52 (head1 (Jvm.Cond.code mn52 jdk_38_method_24_code 4 none :: ws) rr_add3n) (PreK Z #[(.ref w), (.ref b), (.ref t), (.int (Int32.ofNat n))] h0) (fun _ _ _ _ _ => True) (PosK (Q_add3n Z w t b n G mc h0 n0) rr_add3n) := by
  refine startK n0 (L := #[vr w, vr b, vr t, vi (Int32.ofNat n)]) (plainFor_of_name pn12) (fun _ => rfl) fun p e s m below meth c s₁ Bd hZ hh hx hby hml hown hnm hlk X0 e0 N0 => ?_
  obtain ⟨Ew, Fs, Fe, Fm⟩ := id I0
  have K0 : Keep h0 h0 [w, t] := Keep.refl _ _
  obtain ⟨cE, AE, OE, zE, HE⟩ := id B0
  have zE' : cE.slots.size.toInt32 = Int32.ofNat 10 := by rw [zE]
  refine EndsK.go (fun _ kz => XS.iloadN X0.here hx rfl (hb hby d40_0) rfl (XS.aloadN X0.here hx rfl (hb hby d40_1) rfl rfl kz)) ?_
  refine EndsK.go (fun tz kz => X0.arraylength hx (by rw [e0]; exact AE.1) (State.isArrayOf_alike hZ.alike AE.2.1) (g := (mkF m 2 #[vr w, vr b, vr t, vi (Int32.ofNat n)] [(.ref t), (.int (Int32.ofNat n))])) rfl rfl (hb hby d40_2) tz kz) ?_
  rw [zE']
  refine EndsK.go (fun _ kz => XS.icmpYes X0.here hx rfl (pc0 := 3) (pc' := 11) rfl (hb hby d40_3) rfl (feq (fun z => absurd ((on_eq (a := n) (b := 10) (by omega) (by decide)).mp z) (by omega))).2 (by decide) (by decide) (XS.aloadN X0.here hx rfl (hb hby d40_11) rfl rfl (XS.iloadN X0.here hx rfl (hb hby d40_12) rfl (XS.aloadN X0.here hx rfl (hb hby d40_13) rfl rfl kz)))) ?_
  obtain ⟨cE1, AE1, OE1, zE1, HE1⟩ := id B0
  obtain ⟨T1, h1, X1, e1, W1, st1⟩ := stR X0 hx hZ e0 AE1 (j := (Int32.ofNat n)) (byt_in zE1 (by decide) (by omega)) rfl (Sto.of AE1 OE1 (Ins.of_exa Eb (tw hw 270 rfl))) (g := (mkF m 14 #[vr w, vr b, vr t, vi (Int32.ofNat n)] [(.ref b), (.int (Int32.ofNat n)), (.ref t)])) rfl rfl (hb hby d40_14)
  refine EndsK.go st1 ?_
  have W_1 : Wr h0 h1 t n (.ref b) := by have q := W1; rw [on_clamp (a := n) (by omega)] at q; exact q
  have B1 := B0.snoc W_1
  have N1 := Fr.snoc X1 N0 gt
  have K1 := K0.wr W1 (Or.inl (List.mem_cons_of_mem _ (List.mem_singleton.mpr rfl)))
  have Z1 : n0 ≤ h1.size := Nat.le_trans Z0 (Nat.le_of_eq W1.size.symm)
  have E1_w := Ew.wr W1
  have F1_size_w := Fs.other W1 (Or.inl nwt)
  have F1_elementData_w := Fe.other W1 (Or.inl nwt)
  have F1_modCount_w := Fm.other W1 (Or.inl nwt)
  have E1_b := Eb.wr W1
  refine EndsK.go (fun _ kz => XS.aloadN X1.here hx rfl (hb hby d40_15) rfl rfl (XS.iloadN X1.here hx rfl (hb hby d40_16) rfl (XS.iconst X1.here hx rfl (hb hby d40_17) (XS.iadd X1.here hx rfl (hb hby d40_18) rfl kz)))) ?_
  refine EndsK.start (congrArg (fun z_ => (mkF m 19 #[vr w, vr b, vr t, vi (Int32.ofNat n)] [(.int z_), (.ref w)])) (on_succ n : ((Int32.ofNat n) + (1 : Int32)) = (Int32.ofNat (n + 1)))) ?_
  obtain ⟨T2, h2, X2, e2, W2, st2⟩ := putF X1 hx hZ hown (host := "") (Or.inl (tw hw 249 rfl)) Via.refl e1 F1_size_w E1_w (Or.inl (tw hw 148 rfl)) (tw hw 1 rfl) (ty := .int) (by decide) rfl rfl (g := (mkF m 19 #[vr w, vr b, vr t, vi (Int32.ofNat n)] [(.int (Int32.ofNat (n + 1))), (.ref w)])) rfl rfl (hb hby d40_19)
  refine EndsK.go st2 ?_
  have N2 := Fr.snoc X2 N1 gw
  have E2_w := E1_w.wr W2
  have F2_size := F1_size_w.same W2
  have F2_elementData_w := F1_elementData_w.other W2 (Or.inr (slot_ne (Or.inl (tw hw 25 rfl)) (Or.inl (tw hw 148 rfl)) (by decide) (t := (.array (.object "java/lang/Object"))) (t' := .int) (by decide) (by decide)))
  have F2_modCount_w := F1_modCount_w.other W2 (Or.inr (slot_ne (Or.inl (tw hw 22 rfl)) (Or.inl (tw hw 148 rfl)) (by decide) (t := .int) (t' := .int) (by decide) (by decide)))
  have E2_b := E1_b.wr W2
  have B2_t := B1.other W2 (Ne.symm nwt)
  have Z2 : n0 ≤ h2.size := Nat.le_trans Z1 (Nat.le_of_eq W2.size.symm)
  have K2 := K1.wr W2 (Or.inl (List.mem_cons_self))
  show EndsK p e below _ (T2.setTop (mkF m 22 #[vr w, vr b, vr t, vi (Int32.ofNat n)] []))
  exact endV X2 hx Bd.returns (hb hby d40_22) hlk ⟨rfl, N2, by rw [e2]; exact K2, by rw [e2]; exact ⟨E2_w, F2_size, F2_elementData_w, F2_modCount_w⟩, by rw [e2]; exact B2_t⟩ (by decide) (by decide)
abbrev B39 := jdk_38_method_25_code
theorem d39_0 : decode B39 0 = .ok (.aload_n 0, 1) := by decide +kernel
theorem d39_1 : decode B39 1 = .ok (.dup, 1) := by decide +kernel
theorem d39_2 : decode B39 2 = .ok (.getfield 63, 3) := by decide +kernel
theorem d39_5 : decode B39 5 = .ok (.iconst 1, 1) := by decide +kernel
theorem d39_6 : decode B39 6 = .ok (.iadd, 1) := by decide +kernel
theorem d39_7 : decode B39 7 = .ok (.putfield 63, 3) := by decide +kernel
theorem d39_10 : decode B39 10 = .ok (.aload_n 0, 1) := by decide +kernel
theorem d39_11 : decode B39 11 = .ok (.aload_n 1, 1) := by decide +kernel
theorem d39_12 : decode B39 12 = .ok (.aload_n 0, 1) := by decide +kernel
theorem d39_13 : decode B39 13 = .ok (.getfield 9, 3) := by decide +kernel
theorem d39_16 : decode B39 16 = .ok (.aload_n 0, 1) := by decide +kernel
theorem d39_17 : decode B39 17 = .ok (.getfield 48, 3) := by decide +kernel
theorem d39_20 : decode B39 20 = .ok (.invokevirtual 131, 3) := by decide +kernel
theorem d39_23 : decode B39 23 = .ok (.iconst 1, 1) := by decide +kernel
theorem d39_24 : decode B39 24 = .ok (.ireturn, 1) := by decide +kernel
def Q_add0 (Z : State) (hB : Heap) (dce : Addr) (cd : Cell) (w : Addr) (mc : Int32) (b : Addr) (h0 : Heap) (n0 : Nat) (vz : Option Value) (hz : Heap) (Lz : List Loc) : Prop := ∃ t : Addr, vz = some (.int 1) ∧ Fr n0 Lz ∧ Keep h0 hz [w] ∧ h0.size ≤ t ∧ LI Z hz w t 1 (mc + 1) ∧ Els Z hz t 1 (fun j => if j = 0 then b else (fun _ => 0) j)
abbrev rr_add0 : Room := ({ frames := 4, cells := 1, slots := 10, locals := 66 } : Room)
theorem pd31 : parseMethodDescriptor "(Ljava/lang/Object;[Ljava/lang/Object;I)V" = some ⟨[(.object "java/lang/Object"), (.array (.object "java/lang/Object")), .int], none⟩ := by decide +kernel
set_option maxRecDepth 65536 in
set_option maxHeartbeats 40000000 in
theorem rm_add0 (l : Launch) (Z : State) (a0 : Array Value) (hw : ∀ d ∈ tables_1, d.before a0 Z = true) (ws : List Jvm.Cond) (hB : Heap) (dce : Addr) (cd : Cell) (w : Addr) (mc : Int32) (b : Addr) (h0 : Heap) (n0 : Nat) (Z0 : n0 ≤ h0.size) (L0 : LS Z hB dce cd) (EB : Ext hB h0) (hBw : hB.size ≤ w) (I0 : LI Z h0 w dce 0 mc) (gw : n0 ≤ w) (Eb : Exa Z h0 b "java/lang/Integer") :
    MetFree l mn53 (head1 (Jvm.Cond.code mn53 jdk_38_method_25_code 2 (some .boolean) :: ws) rr_add0) (PreK Z #[(.ref w), (.ref b)] h0) (fun _ _ _ _ _ => True) (PosK (Q_add0 Z hB dce cd w mc b h0 n0) rr_add0) := by
  refine startK n0 (L := #[vr w, vr b]) (plainFor_of_name pn12) (fun _ => rfl) fun p e s m below meth c s₁ Bd hZ hh hx hby hml hown hnm hlk X0 e0 N0 => ?_
  obtain ⟨Ew, Fs, Fe, Fm⟩ := id I0
  have K0 : Keep h0 h0 [w] := Keep.refl _ _
  refine EndsK.go (fun _ kz => XS.aloadN X0.here hx rfl (hb hby d39_0) rfl rfl (XS.dup X0.here hx rfl (hb hby d39_1) rfl rfl kz)) ?_
  obtain ⟨T1, X1, e1, st1⟩ := getF X0 hx hZ hown (host := "") (Or.inl (tw hw 248 rfl)) (Via.of (tw hw 133 rfl)) e0 Fm (g := (mkF m 2 #[vr w, vr b] [(.ref w), (.ref w)])) rfl rfl (hb hby d39_2)
  refine EndsK.go st1 ?_
  refine EndsK.go (fun _ kz => XS.iconst X1.here hx rfl (hb hby d39_5) (XS.iadd X1.here hx rfl (hb hby d39_6) rfl kz)) ?_
  obtain ⟨T2, h2, X2, e2, W2, st2⟩ := putF X1 hx hZ hown (host := "") (Or.inl (tw hw 248 rfl)) (Via.of (tw hw 133 rfl)) e1 Fm Ew (Or.inl (tw hw 22 rfl)) (tw hw 1 rfl) (ty := .int) (by decide) rfl rfl (g := (mkF m 7 #[vr w, vr b] [(.int (mc + (1 : Int32))), (.ref w)])) rfl rfl (hb hby d39_7)
  refine EndsK.go st2 ?_
  have N2 := Fr.snoc X2 N0 gw
  have E2_w := Ew.wr W2
  have F2_size_w := Fs.other W2 (Or.inr (slot_ne (Or.inl (tw hw 148 rfl)) (Or.inl (tw hw 22 rfl)) (by decide) (t := .int) (t' := .int) (by decide) (by decide)))
  have F2_elementData_w := Fe.other W2 (Or.inr (slot_ne (Or.inl (tw hw 25 rfl)) (Or.inl (tw hw 22 rfl)) (by decide) (t := (.array (.object "java/lang/Object"))) (t' := .int) (by decide) (by decide)))
  have F2_modCount := Fm.same W2
  have E2_b := Eb.wr W2
  have Z2 : n0 ≤ h2.size := Nat.le_trans Z0 (Nat.le_of_eq W2.size.symm)
  have K2 := K0.wr W2 (Or.inl (List.mem_singleton.mpr rfl))
  refine EndsK.go (fun _ kz => XS.aloadN X2.here hx rfl (hb hby d39_10) rfl rfl (XS.aloadN X2.here hx rfl (hb hby d39_11) rfl rfl (XS.aloadN X2.here hx rfl (hb hby d39_12) rfl rfl kz))) ?_
  obtain ⟨T3, X3, e3, st3⟩ := getF X2 hx hZ hown (host := "") (Or.inl (tw hw 24 rfl)) Via.refl e2 F2_elementData_w (g := (mkF m 13 #[vr w, vr b] [(.ref w), (.ref b), (.ref w)])) rfl rfl (hb hby d39_13)
  refine EndsK.go st3 ?_
  refine EndsK.go (fun _ kz => XS.aloadN X3.here hx rfl (hb hby d39_16) rfl rfl kz) ?_
  obtain ⟨T4, X4, e4, st4⟩ := getF X3 hx hZ hown (host := "") (Or.inl (tw hw 249 rfl)) Via.refl e3 F2_size_w (g := (mkF m 17 #[vr w, vr b] [(.ref w), (.ref dce), (.ref b), (.ref w)])) rfl rfl (hb hby d39_17)
  refine EndsK.go st4 ?_
  refine EndsK.start (congrArg (fun z_ => (mkF m 20 #[vr w, vr b] [(.int z_), (.ref dce), (.ref b), (.ref w)])) (rfl : (Int32.ofNat 0) = (0 : Int32))) ?_
  obtain ⟨cq5, kq5, qa5, qb5, qc5⟩ := isOf hZ e4 E2_w
  obtain ⟨_, T5, Lc5, X5, hQ5, st5⟩ := doneT X4 (X4.virtualBack hx (y := mn52) (z := mn52) hown (mvT hZ (tw hw 250 rfl)) (declares_of (mvT hZ (tw hw 251 rfl)) (mvT hZ (tw hw 254 rfl))) (notFace_of_selects (args := #[]) (mvT hZ (tw hw 253 rfl))) (mvT hZ (tw hw 253 rfl)) (mvT hZ (tw hw 251 rfl)) (by decide) (backOf (W := 0) (rm_add30 l Z a0 hw [] hB dce cd w (mc + (1 : Int32)) b h2 n0 Z2 L0 (ext_kept EB K2 (allS hBw all0)) hBw ⟨E2_w, F2_size_w, F2_elementData_w, F2_modCount⟩ gw E2_b) hZ (tw hw 254 rfl) (tw hw 2 rfl) (by decide) (by decide)) qa5 qc5 (g := (mkF m 20 #[vr w, vr b] [(.int (0 : Int32)), (.ref dce), (.ref b), (.ref w)])) rfl (by rw [hml]; rfl) (Steps.refl _) (argsL := [(.ref b), (.ref dce), (.int (0 : Int32))]) (rest := []) (lenOf pd31 rfl) rfl (by show 2 * 0 + _ ≤ _; exact Nat.le_of_eq rfl) (hb hby d39_20) (fun _ _ => ⟨rfl, e4, (by decide : 0 + 1 ≤ _), (by decide : 0 + 10 ≤ _)⟩))
  obtain ⟨t5, rfl, N5, Kc5, q_s5, I5, B5⟩ := hQ5
  have M5 := Fr.app N2 N5
  obtain ⟨h5, e5⟩ : ∃ z, T5.heap = z := ⟨_, rfl⟩
  rw [e5] at Kc5 I5 B5
  have Z5 : n0 ≤ h5.size := Nat.le_trans Z2 Kc5.1
  have K5 := K2.trans Kc5 (allS (Or.inl (List.mem_singleton.mpr rfl)) all0)
  have E5_w := E2_w.keep Kc5
  have E5_b := E2_b.keep Kc5
  have q_z5 : h0.size ≤ t5 := Nat.le_trans K2.1 q_s5
  refine EndsK.tr st5 ?_
  refine EndsK.go (fun _ kz => XS.iconst X5.here hx rfl (hb hby d39_23) kz) ?_
  show EndsK p e below _ (T5.setTop (mkF m 24 #[vr w, vr b] [(.int (1 : Int32))]))
  exact endN X5 hx (t := .boolean) Bd.returns (by simp) (hb hby d39_24) hlk ⟨t5, rfl, M5, by rw [e5]; exact K5, q_z5, by rw [e5]; exact I5, by rw [e5]; exact B5⟩ (by decide) (by decide)
def Q_addn (Z : State) (w : Addr) (t : Addr) (b : Addr) (n : Nat) (G : Nat → Addr) (mc : Int32) (h0 : Heap) (n0 : Nat) (vz : Option Value) (hz : Heap) (Lz : List Loc) : Prop := vz = some (.int 1) ∧ Fr n0 Lz ∧ Keep h0 hz [w, t] ∧ LI Z hz w t (n + 1) (mc + 1) ∧ Els Z hz t (n + 1) (fun j => if j = n then b else G j)
abbrev rr_addn : Room := ({ frames := 1, cells := 0, slots := 0, locals := 20 } : Room)
set_option maxRecDepth 65536 in
set_option maxHeartbeats 40000000 in
theorem rm_addn (l : Launch) (Z : State) (a0 : Array Value) (hw : ∀ d ∈ tables_1, d.before a0 Z = true) (ws : List Jvm.Cond) (w : Addr) (t : Addr) (b : Addr) (n : Nat) (G : Nat → Addr) (mc : Int32) (h0 : Heap) (n0 : Nat) (Z0 : n0 ≤ h0.size) (I0 : LI Z h0 w t n mc) (B0 : Els Z h0 t n G) (Eb : Exa Z h0 b "java/lang/Integer") (gw : n0 ≤ w) (gt : n0 ≤ t) (nwt : w ≠ t) (hn : n ≤ 8) :
    MetFree l mn53 (head1 (Jvm.Cond.code mn53 jdk_38_method_25_code 2 (some .boolean) :: ws) rr_addn) (PreK Z #[(.ref w), (.ref b)] h0) (fun _ _ _ _ _ => True) (PosK (Q_addn Z w t b n G mc h0 n0) rr_addn) := by
  refine startK n0 (L := #[vr w, vr b]) (plainFor_of_name pn12) (fun _ => rfl) fun p e s m below meth c s₁ Bd hZ hh hx hby hml hown hnm hlk X0 e0 N0 => ?_
  obtain ⟨Ew, Fs, Fe, Fm⟩ := id I0
  have K0 : Keep h0 h0 [w, t] := Keep.refl _ _
  refine EndsK.go (fun _ kz => XS.aloadN X0.here hx rfl (hb hby d39_0) rfl rfl (XS.dup X0.here hx rfl (hb hby d39_1) rfl rfl kz)) ?_
  obtain ⟨T1, X1, e1, st1⟩ := getF X0 hx hZ hown (host := "") (Or.inl (tw hw 248 rfl)) (Via.of (tw hw 133 rfl)) e0 Fm (g := (mkF m 2 #[vr w, vr b] [(.ref w), (.ref w)])) rfl rfl (hb hby d39_2)
  refine EndsK.go st1 ?_
  refine EndsK.go (fun _ kz => XS.iconst X1.here hx rfl (hb hby d39_5) (XS.iadd X1.here hx rfl (hb hby d39_6) rfl kz)) ?_
  obtain ⟨T2, h2, X2, e2, W2, st2⟩ := putF X1 hx hZ hown (host := "") (Or.inl (tw hw 248 rfl)) (Via.of (tw hw 133 rfl)) e1 Fm Ew (Or.inl (tw hw 22 rfl)) (tw hw 1 rfl) (ty := .int) (by decide) rfl rfl (g := (mkF m 7 #[vr w, vr b] [(.int (mc + (1 : Int32))), (.ref w)])) rfl rfl (hb hby d39_7)
  refine EndsK.go st2 ?_
  have N2 := Fr.snoc X2 N0 gw
  have E2_w := Ew.wr W2
  have F2_size_w := Fs.other W2 (Or.inr (slot_ne (Or.inl (tw hw 148 rfl)) (Or.inl (tw hw 22 rfl)) (by decide) (t := .int) (t' := .int) (by decide) (by decide)))
  have F2_elementData_w := Fe.other W2 (Or.inr (slot_ne (Or.inl (tw hw 25 rfl)) (Or.inl (tw hw 22 rfl)) (by decide) (t := (.array (.object "java/lang/Object"))) (t' := .int) (by decide) (by decide)))
  have F2_modCount := Fm.same W2
  have E2_b := Eb.wr W2
  have B2_t := B0.other W2 (Ne.symm nwt)
  have Z2 : n0 ≤ h2.size := Nat.le_trans Z0 (Nat.le_of_eq W2.size.symm)
  have K2 := K0.wr W2 (Or.inl (List.mem_cons_self))
  refine EndsK.go (fun _ kz => XS.aloadN X2.here hx rfl (hb hby d39_10) rfl rfl (XS.aloadN X2.here hx rfl (hb hby d39_11) rfl rfl (XS.aloadN X2.here hx rfl (hb hby d39_12) rfl rfl kz))) ?_
  obtain ⟨T3, X3, e3, st3⟩ := getF X2 hx hZ hown (host := "") (Or.inl (tw hw 24 rfl)) Via.refl e2 F2_elementData_w (g := (mkF m 13 #[vr w, vr b] [(.ref w), (.ref b), (.ref w)])) rfl rfl (hb hby d39_13)
  refine EndsK.go st3 ?_
  refine EndsK.go (fun _ kz => XS.aloadN X3.here hx rfl (hb hby d39_16) rfl rfl kz) ?_
  obtain ⟨T4, X4, e4, st4⟩ := getF X3 hx hZ hown (host := "") (Or.inl (tw hw 249 rfl)) Via.refl e3 F2_size_w (g := (mkF m 17 #[vr w, vr b] [(.ref w), (.ref t), (.ref b), (.ref w)])) rfl rfl (hb hby d39_17)
  refine EndsK.go st4 ?_
  obtain ⟨cq5, kq5, qa5, qb5, qc5⟩ := isOf hZ e4 E2_w
  obtain ⟨_, T5, Lc5, X5, hQ5, st5⟩ := doneT X4 (X4.virtualBack hx (y := mn52) (z := mn52) hown (mvT hZ (tw hw 250 rfl)) (declares_of (mvT hZ (tw hw 251 rfl)) (mvT hZ (tw hw 254 rfl))) (notFace_of_selects (args := #[]) (mvT hZ (tw hw 253 rfl))) (mvT hZ (tw hw 253 rfl)) (mvT hZ (tw hw 251 rfl)) (by decide) (backOf (W := 0) (rm_add3n l Z a0 hw [] w t b n G (mc + (1 : Int32)) h2 n0 Z2 ⟨E2_w, F2_size_w, F2_elementData_w, F2_modCount⟩ B2_t E2_b gw gt nwt hn) hZ (tw hw 254 rfl) (tw hw 2 rfl) (by decide) (by decide)) qa5 qc5 (g := (mkF m 20 #[vr w, vr b] [(.int (Int32.ofNat n)), (.ref t), (.ref b), (.ref w)])) rfl (by rw [hml]; rfl) (Steps.refl _) (argsL := [(.ref b), (.ref t), (.int (Int32.ofNat n))]) (rest := []) (lenOf pd31 rfl) rfl (by show 2 * 0 + _ ≤ _; exact Nat.le_of_eq rfl) (hb hby d39_20) (fun _ _ => ⟨rfl, e4, (by decide : 0 + 0 ≤ _), (by decide : 0 + 0 ≤ _)⟩))
  obtain ⟨rfl, N5, Kc5, I5, B5⟩ := hQ5
  have M5 := Fr.app N2 N5
  obtain ⟨h5, e5⟩ : ∃ z, T5.heap = z := ⟨_, rfl⟩
  rw [e5] at Kc5 I5 B5
  have Z5 : n0 ≤ h5.size := Nat.le_trans Z2 Kc5.1
  have K5 := K2.trans Kc5 (allS (Or.inl (List.mem_cons_self)) (allS (Or.inl (List.mem_cons_of_mem _ (List.mem_singleton.mpr rfl))) all0))
  have E5_w := E2_w.keep Kc5
  have E5_b := E2_b.keep Kc5
  refine EndsK.tr st5 ?_
  refine EndsK.go (fun _ kz => XS.iconst X5.here hx rfl (hb hby d39_23) kz) ?_
  show EndsK p e below _ (T5.setTop (mkF m 24 #[vr w, vr b] [(.int (1 : Int32))]))
  exact endN X5 hx (t := .boolean) Bd.returns (by simp) (hb hby d39_24) hlk ⟨rfl, M5, by rw [e5]; exact K5,  by rw [e5]; exact I5, by rw [e5]; exact B5⟩ (by decide) (by decide)
abbrev B18 := jdk_49_method_1_code
theorem d18_0 : decode B18 0 = .ok (.aload_n 0, 1) := by decide +kernel
theorem d18_1 : decode B18 1 = .ok (.aload_n 1, 1) := by decide +kernel
theorem d18_2 : decode B18 2 = .ok (.putfield 1, 3) := by decide +kernel
theorem d18_5 : decode B18 5 = .ok (.aload_n 0, 1) := by decide +kernel
theorem d18_6 : decode B18 6 = .ok (.invokespecial 7, 3) := by decide +kernel
theorem d18_9 : decode B18 9 = .ok (.aload_n 0, 1) := by decide +kernel
theorem d18_10 : decode B18 10 = .ok (.iconst (-1), 1) := by decide +kernel
theorem d18_11 : decode B18 11 = .ok (.putfield 13, 3) := by decide +kernel
theorem d18_14 : decode B18 14 = .ok (.aload_n 0, 1) := by decide +kernel
theorem d18_15 : decode B18 15 = .ok (.aload_n 0, 1) := by decide +kernel
theorem d18_16 : decode B18 16 = .ok (.getfield 1, 3) := by decide +kernel
theorem d18_19 : decode B18 19 = .ok (.getfield 17, 3) := by decide +kernel
theorem d18_22 : decode B18 22 = .ok (.putfield 22, 3) := by decide +kernel
theorem d18_25 : decode B18 25 = .ok (.return_, 1) := by decide +kernel
theorem pn13 : plainName "java/util/ArrayList$Itr" = true := by first | (simp [plainName, overriddenIn]; done) | decide +kernel
def Q_iti (Z : State) (it : Addr) (w : Addr) (mc : Int32) (h0 : Heap) (n0 : Nat) (vz : Option Value) (hz : Heap) (Lz : List Loc) : Prop := vz = none ∧ Fr n0 Lz ∧ Keep h0 hz [it] ∧ IT Z hz it w 0 mc
abbrev rr_iti : Room := ({ frames := 1, cells := 0, slots := 0, locals := 13 } : Room)
set_option maxRecDepth 65536 in
set_option maxHeartbeats 40000000 in
theorem rm_iti (l : Launch) (Z : State) (a0 : Array Value) (hw : ∀ d ∈ tables_1, d.before a0 Z = true) (ws : List Jvm.Cond) (it : Addr) (w : Addr) (mc : Int32) (h0 : Heap) (n0 : Nat) (Z0 : n0 ≤ h0.size) (gi : n0 ≤ it) (Ei : Exa Z h0 it "java/util/ArrayList$Itr") (Ft : Fld Z h0 it "java/util/ArrayList$Itr" "this$0" "Ljava/util/ArrayList;" .null) (Fcu : Fld Z h0 it "java/util/ArrayList$Itr" "cursor" "I" (.int (0 : Int32))) (Fx : Fld Z h0 it "java/util/ArrayList$Itr" "expectedModCount" "I" (.int (0 : Int32))) (Fl : Fld Z h0 it "java/util/ArrayList$Itr" "lastRet" "I" (.int (0 : Int32))) (Fm : Fld Z h0 w "java/util/AbstractList" "modCount" "I" (.int mc)) (nwi : w ≠ it) :
    MetFree l mn54 (head1 (Jvm.Cond.code mn54 jdk_49_method_1_code 2 none :: ws) rr_iti) (PreK Z #[(.ref it), (.ref w)] h0) (fun _ _ _ _ _ => True) (PosK (Q_iti Z it w mc h0 n0) rr_iti) := by
  refine startK n0 (L := #[vr it, vr w]) (plainFor_of_name pn13) (fun _ => rfl) fun p e s m below meth c s₁ Bd hZ hh hx hby hml hown hnm hlk X0 e0 N0 => ?_
  have K0 : Keep h0 h0 [it] := Keep.refl _ _
  refine EndsK.go (fun _ kz => XS.aloadN X0.here hx rfl (hb hby d18_0) rfl rfl (XS.aloadN X0.here hx rfl (hb hby d18_1) rfl rfl kz)) ?_
  obtain ⟨T1, h1, X1, e1, W1, st1⟩ := putF X0 hx hZ hown (host := "") (Or.inl (tw hw 127 rfl)) Via.refl e0 Ft Ei (Or.inr ⟨(tw hw 128 rfl), rfl, hnm⟩) (tw hw 121 rfl) (ty := (.object "java/util/ArrayList")) (by decide) rfl rfl (g := (mkF m 2 #[vr it, vr w] [(.ref w), (.ref it)])) rfl rfl (hb hby d18_2)
  refine EndsK.go st1 ?_
  have N1 := Fr.snoc X1 N0 gi
  have E1_it := Ei.wr W1
  have F1_this_0 := Ft.same W1
  have F1_cursor_it := Fcu.other W1 (Or.inr (slot_ne (Or.inl (tw hw 146 rfl)) (Or.inr (tw hw 128 rfl)) (by decide) (t := .int) (t' := (.object "java/util/ArrayList")) (by decide) (by decide)))
  have F1_expectedModCount_it := Fx.other W1 (Or.inr (slot_ne (Or.inl (tw hw 135 rfl)) (Or.inr (tw hw 128 rfl)) (by decide) (t := .int) (t' := (.object "java/util/ArrayList")) (by decide) (by decide)))
  have F1_lastRet_it := Fl.other W1 (Or.inr (slot_ne (Or.inl (tw hw 131 rfl)) (Or.inr (tw hw 128 rfl)) (by decide) (t := .int) (t' := (.object "java/util/ArrayList")) (by decide) (by decide)))
  have F1_modCount_w := Fm.other W1 (Or.inl nwi)
  have Z1 : n0 ≤ h1.size := Nat.le_trans Z0 (Nat.le_of_eq W1.size.symm)
  have K1 := K0.wr W1 (Or.inl (List.mem_singleton.mpr rfl))
  refine EndsK.go (fun _ kz => XS.aloadN X1.here hx rfl (hb hby d18_5) rfl rfl kz) ?_
  obtain ⟨T2, X2, e2, st2⟩ := initO X1 hx hZ hown (tw hw 129 rfl) (tw hw 19 rfl) (tw hw 20 rfl) e1 (g := (mkF m 6 #[vr it, vr w] [(.ref it)])) rfl (by rw [hml]; rfl) rfl (hb hby d18_6) (by decide) (W := 0) (by show 2 * 0 + _ ≤ _; exact Nat.le_of_eq rfl) (by decide)
  refine EndsK.go st2 ?_
  refine EndsK.go (fun _ kz => XS.aloadN X2.here hx rfl (hb hby d18_9) rfl rfl (XS.iconst X2.here hx rfl (hb hby d18_10) kz)) ?_
  obtain ⟨T3, h3, X3, e3, W3, st3⟩ := putF X2 hx hZ hown (host := "") (Or.inl (tw hw 130 rfl)) Via.refl e2 F1_lastRet_it E1_it (Or.inl (tw hw 131 rfl)) (tw hw 121 rfl) (ty := .int) (by decide) rfl rfl (g := (mkF m 11 #[vr it, vr w] [(.int (-1 : Int32)), (.ref it)])) rfl rfl (hb hby d18_11)
  refine EndsK.go st3 ?_
  have N3 := Fr.snoc X3 N1 gi
  have E3_it := E1_it.wr W3
  have F3_this_0_it := F1_this_0.other W3 (Or.inr (slot_ne (Or.inr (tw hw 128 rfl)) (Or.inl (tw hw 131 rfl)) (by decide) (t := (.object "java/util/ArrayList")) (t' := .int) (by decide) (by decide)))
  have F3_cursor_it := F1_cursor_it.other W3 (Or.inr (slot_ne (Or.inl (tw hw 146 rfl)) (Or.inl (tw hw 131 rfl)) (by decide) (t := .int) (t' := .int) (by decide) (by decide)))
  have F3_expectedModCount_it := F1_expectedModCount_it.other W3 (Or.inr (slot_ne (Or.inl (tw hw 135 rfl)) (Or.inl (tw hw 131 rfl)) (by decide) (t := .int) (t' := .int) (by decide) (by decide)))
  have F3_lastRet := F1_lastRet_it.same W3
  have F3_modCount_w := F1_modCount_w.other W3 (Or.inl nwi)
  have Z3 : n0 ≤ h3.size := Nat.le_trans Z1 (Nat.le_of_eq W3.size.symm)
  have K3 := K1.wr W3 (Or.inl (List.mem_singleton.mpr rfl))
  refine EndsK.go (fun _ kz => XS.aloadN X3.here hx rfl (hb hby d18_14) rfl rfl (XS.aloadN X3.here hx rfl (hb hby d18_15) rfl rfl kz)) ?_
  obtain ⟨T4, X4, e4, st4⟩ := getF X3 hx hZ hown (host := "") (Or.inl (tw hw 127 rfl)) Via.refl e3 F3_this_0_it (g := (mkF m 16 #[vr it, vr w] [(.ref it), (.ref it)])) rfl rfl (hb hby d18_16)
  refine EndsK.go st4 ?_
  obtain ⟨T5, X5, e5, st5⟩ := getF X4 hx hZ hown (host := "") (Or.inl (tw hw 132 rfl)) (Via.of (tw hw 133 rfl)) e4 F3_modCount_w (g := (mkF m 19 #[vr it, vr w] [(.ref w), (.ref it)])) rfl rfl (hb hby d18_19)
  refine EndsK.go st5 ?_
  obtain ⟨T6, h6, X6, e6, W6, st6⟩ := putF X5 hx hZ hown (host := "") (Or.inl (tw hw 134 rfl)) Via.refl e5 F3_expectedModCount_it E3_it (Or.inl (tw hw 135 rfl)) (tw hw 121 rfl) (ty := .int) (by decide) rfl rfl (g := (mkF m 22 #[vr it, vr w] [(.int mc), (.ref it)])) rfl rfl (hb hby d18_22)
  refine EndsK.go st6 ?_
  have N6 := Fr.snoc X6 N3 gi
  have E6_it := E3_it.wr W6
  have F6_this_0_it := F3_this_0_it.other W6 (Or.inr (slot_ne (Or.inr (tw hw 128 rfl)) (Or.inl (tw hw 135 rfl)) (by decide) (t := (.object "java/util/ArrayList")) (t' := .int) (by decide) (by decide)))
  have F6_cursor_it := F3_cursor_it.other W6 (Or.inr (slot_ne (Or.inl (tw hw 146 rfl)) (Or.inl (tw hw 135 rfl)) (by decide) (t := .int) (t' := .int) (by decide) (by decide)))
  have F6_expectedModCount := F3_expectedModCount_it.same W6
  have F6_lastRet_it := F3_lastRet.other W6 (Or.inr (slot_ne (Or.inl (tw hw 131 rfl)) (Or.inl (tw hw 135 rfl)) (by decide) (t := .int) (t' := .int) (by decide) (by decide)))
  have F6_modCount_w := F3_modCount_w.other W6 (Or.inl nwi)
  have Z6 : n0 ≤ h6.size := Nat.le_trans Z3 (Nat.le_of_eq W6.size.symm)
  have K6 := K3.wr W6 (Or.inl (List.mem_singleton.mpr rfl))
  show EndsK p e below _ (T6.setTop (mkF m 25 #[vr it, vr w] []))
  exact endV X6 hx Bd.returns (hb hby d18_25) hlk ⟨rfl, N6, by rw [e6]; exact K6, by rw [e6]; exact ⟨E6_it, F6_this_0_it, F6_cursor_it, F6_expectedModCount, _, F6_lastRet_it⟩⟩ (by decide) (by decide)
abbrev B17 := jdk_38_method_55_code
theorem d17_0 : decode B17 0 = .ok (.new 267, 3) := by decide +kernel
theorem d17_3 : decode B17 3 = .ok (.dup, 1) := by decide +kernel
theorem d17_4 : decode B17 4 = .ok (.aload_n 0, 1) := by decide +kernel
theorem d17_5 : decode B17 5 = .ok (.invokespecial 269, 3) := by decide +kernel
theorem d17_8 : decode B17 8 = .ok (.areturn, 1) := by decide +kernel
def Q_itr (Z : State) (w : Addr) (mc : Int32) (h0 : Heap) (n0 : Nat) (vz : Option Value) (hz : Heap) (Lz : List Loc) : Prop := ∃ it : Addr, vz = some (.ref it) ∧ Fr n0 Lz ∧ Ext h0 hz ∧ h0.size ≤ it ∧ IT Z hz it w 0 mc
abbrev rr_itr : Room := ({ frames := 2, cells := 1, slots := 4, locals := 28 } : Room)
theorem pd32 : parseMethodDescriptor "(Ljava/util/ArrayList;)V" = some ⟨[(.object "java/util/ArrayList")], none⟩ := by decide +kernel
set_option maxRecDepth 65536 in
set_option maxHeartbeats 40000000 in
theorem rm_itr (l : Launch) (Z : State) (a0 : Array Value) (hw : ∀ d ∈ tables_1, d.before a0 Z = true) (ws : List Jvm.Cond) (w : Addr) (mc : Int32) (h0 : Heap) (n0 : Nat) (Z0 : n0 ≤ h0.size) (Fm : Fld Z h0 w "java/util/AbstractList" "modCount" "I" (.int mc)) :
    MetFree l mn55 (head1 (Jvm.Cond.code mn55 jdk_38_method_55_code 1 (some (.object "java/util/Iterator")) :: ws) rr_itr) (PreK Z #[(.ref w)] h0) (fun _ _ _ _ _ => True) (PosK (Q_itr Z w mc h0 n0) rr_itr) := by
  refine startK n0 (L := #[vr w]) (plainFor_of_name pn12) (fun _ => rfl) fun p e s m below meth c s₁ Bd hZ hh hx hby hml hown hnm hlk X0 e0 N0 => ?_
  have K0 : Keep h0 h0 [] := Keep.refl _ _
  obtain ⟨T1, h1, X1, e1, E1, A1, D1, -, st1⟩ := newO X0 hx hZ hown (tw hw 120 rfl) (tw hw 121 rfl) (tw hw 122 rfl) e0 (g := (mkF m 0 #[vr w] [])) rfl (hb hby d17_0) (by decide) (by decide)
  obtain ⟨it, g1⟩ : ∃ z, z = h0.size := ⟨_, rfl⟩
  rw [← g1] at A1 D1 st1
  refine EndsK.go st1 ?_
  have F1_modCount_w := Fm.ext E1
  have F1_this_0 : Fld Z h1 it "java/util/ArrayList$Itr" "this$0" "Ljava/util/ArrayList;" .null := D1 (Or.inr (tw hw 128 rfl)) (ty := (.object "java/util/ArrayList")) (by decide)
  have F1_lastRet : Fld Z h1 it "java/util/ArrayList$Itr" "lastRet" "I" (.int (0 : Int32)) := D1 (Or.inl (tw hw 131 rfl)) (ty := .int) (by decide)
  have F1_expectedModCount : Fld Z h1 it "java/util/ArrayList$Itr" "expectedModCount" "I" (.int (0 : Int32)) := D1 (Or.inl (tw hw 135 rfl)) (ty := .int) (by decide)
  have F1_cursor : Fld Z h1 it "java/util/ArrayList$Itr" "cursor" "I" (.int (0 : Int32)) := D1 (Or.inl (tw hw 146 rfl)) (ty := .int) (by decide)
  have Z1 : n0 ≤ h1.size := Nat.le_trans Z0 E1.1
  have G1 : n0 ≤ it := by rw [g1]; exact Z0
  have K1 := K0.ext E1
  have sz_it : h0.size ≤ it := by rw [g1]; exact K0.1
  have ne_w_it : w ≠ it := Nat.ne_of_lt (by rw [g1]; exact Fm.lt)
  refine EndsK.go (fun _ kz => XS.dup X1.here hx rfl (hb hby d17_3) rfl rfl (XS.aloadN X1.here hx rfl (hb hby d17_4) rfl rfl kz)) ?_
  obtain ⟨_, T2, Lc2, X2, hQ2, st2⟩ := doneT X1 (X1.specialBack hx (y := mn54) rfl hown (mvT hZ (tw hw 123 rfl)) (mvT hZ (tw hw 124 rfl)) (mvT hZ (tw hw 126 rfl)) (by decide) (backOf (W := 1) (rm_iti l Z a0 hw [] it w mc h1 n0 Z1 G1 A1 F1_this_0 F1_cursor F1_expectedModCount F1_lastRet F1_modCount_w ne_w_it) hZ (tw hw 126 rfl) (tw hw 122 rfl) (by decide) (by decide)) (g := (mkF m 5 #[vr w] [(.ref w), (.ref it), (.ref it)])) rfl (by rw [hml]; rfl) (Steps.refl _) (a := it) (argsL := [(.ref w)]) (rest := [(.ref it)]) (lenOf pd32 rfl) rfl (by show 2 * 0 + _ ≤ _; exact Nat.le_of_eq rfl) (hb hby d17_5) (fun _ _ => ⟨rfl, e1, (by decide : 0 + 1 + 0 ≤ _), (by decide : 0 + 4 + 0 ≤ _)⟩))
  obtain ⟨rfl, N2, Kc2, I2⟩ := hQ2
  have M2 := Fr.app N0 N2
  obtain ⟨h2, e2⟩ : ∃ z, T2.heap = z := ⟨_, rfl⟩
  rw [e2] at Kc2 I2
  have Z2 : n0 ≤ h2.size := Nat.le_trans Z1 Kc2.1
  have K2 := K1.trans Kc2 (allS (Or.inr sz_it) all0)
  have F2_w_modCount := F1_modCount_w.keep Kc2 (ninS ne_w_it nin0)
  have E2_it := A1.keep Kc2
  refine EndsK.tr st2 ?_
  show EndsK p e below _ (T2.setTop (mkF m 8 #[vr w] [(.ref it)]))
  exact endR X2 hx Bd.returns rfl rfl (hb hby d17_8) hlk ⟨it, rfl, M2, by rw [e2]; exact ext_kept (ext_refl h0) K2 all0, sz_it, by rw [e2]; exact I2⟩ (by decide) (by decide)
abbrev B19 := jdk_49_method_2_code
theorem d19_0 : decode B19 0 = .ok (.aload_n 0, 1) := by decide +kernel
theorem d19_1 : decode B19 1 = .ok (.getfield 25, 3) := by decide +kernel
theorem d19_4 : decode B19 4 = .ok (.aload_n 0, 1) := by decide +kernel
theorem d19_5 : decode B19 5 = .ok (.getfield 1, 3) := by decide +kernel
theorem d19_8 : decode B19 8 = .ok (.getfield 28, 3) := by decide +kernel
theorem d19_11 : decode B19 11 = .ok (.if_icmp .eq 7, 3) := by decide +kernel
theorem d19_14 : decode B19 14 = .ok (.iconst 1, 1) := by decide +kernel
theorem d19_15 : decode B19 15 = .ok (.goto 4, 3) := by decide +kernel
theorem d19_18 : decode B19 18 = .ok (.iconst 0, 1) := by decide +kernel
theorem d19_19 : decode B19 19 = .ok (.ireturn, 1) := by decide +kernel
def Q_hnT (Z : State) (it : Addr) (w : Addr) (t : Addr) (i : Nat) (n : Nat) (mc : Int32) (h0 : Heap) (n0 : Nat) (vz : Option Value) (hz : Heap) (Lz : List Loc) : Prop := vz = some (.int 1) ∧ Fr n0 Lz ∧ hz = h0
abbrev rr_hnT : Room := ({ frames := 0, cells := 0, slots := 0, locals := 0 } : Room)
set_option maxRecDepth 65536 in
set_option maxHeartbeats 40000000 in
theorem rm_hnT (l : Launch) (Z : State) (a0 : Array Value) (hw : ∀ d ∈ tables_1, d.before a0 Z = true) (ws : List Jvm.Cond) (it : Addr) (w : Addr) (t : Addr) (i : Nat) (n : Nat) (mc : Int32) (h0 : Heap) (n0 : Nat) (Z0 : n0 ≤ h0.size) (T0 : IT Z h0 it w i mc) (I0 : LI Z h0 w t n mc) (hi : i < n) (hn : n ≤ 8) :
    MetFree l mn56 (head1 (Jvm.Cond.code mn56 jdk_49_method_2_code 1 (some .boolean) :: ws) rr_hnT) (PreK Z #[(.ref it)] h0) (fun _ _ _ _ _ => True) (PosK (Q_hnT Z it w t i n mc h0 n0) rr_hnT) := by
  refine startK n0 (L := #[vr it]) (plainFor_of_name pn13) (fun _ => rfl) fun p e s m below meth c s₁ Bd hZ hh hx hby hml hown hnm hlk X0 e0 N0 => ?_
  obtain ⟨Ei, Ft, Fcu, Fx, lr, Fl⟩ := id T0
  obtain ⟨Ew, Fs, Fe, Fm⟩ := id I0
  refine EndsK.go (fun _ kz => XS.aloadN X0.here hx rfl (hb hby d19_0) rfl rfl kz) ?_
  obtain ⟨T1, X1, e1, st1⟩ := getF X0 hx hZ hown (host := "") (Or.inl (tw hw 145 rfl)) Via.refl e0 Fcu (g := (mkF m 1 #[vr it] [(.ref it)])) rfl rfl (hb hby d19_1)
  refine EndsK.go st1 ?_
  refine EndsK.go (fun _ kz => XS.aloadN X1.here hx rfl (hb hby d19_4) rfl rfl kz) ?_
  obtain ⟨T2, X2, e2, st2⟩ := getF X1 hx hZ hown (host := "") (Or.inl (tw hw 127 rfl)) Via.refl e1 Ft (g := (mkF m 5 #[vr it] [(.ref it), (.int (Int32.ofNat i))])) rfl rfl (hb hby d19_5)
  refine EndsK.go st2 ?_
  obtain ⟨T3, X3, e3, st3⟩ := getF X2 hx hZ hown (Or.inr (tw hw 147 rfl)) Via.refl e2 Fs (g := (mkF m 8 #[vr it] [(.ref w), (.int (Int32.ofNat i))])) rfl rfl (hb hby d19_8)
  refine EndsK.go st3 ?_
  refine EndsK.go (fun _ kz => XS.icmpNo X3.here hx rfl (hb hby d19_11) rfl (feq (fun z => absurd ((on_eq (by omega) (by omega)).mp z) (by omega))).1 (XS.iconst X3.here hx rfl (hb hby d19_14) (XS.goto X3.here hx rfl (pc0 := 15) (pc' := 19) rfl (hb hby d19_15) (by decide) (by decide) kz))) ?_
  show EndsK p e below _ (T3.setTop (mkF m 19 #[vr it] [(.int (1 : Int32))]))
  exact endN X3 hx (t := .boolean) Bd.returns (by simp) (hb hby d19_19) hlk ⟨rfl, N0, e3⟩ (by decide) (by decide)
def Q_hnF (Z : State) (it : Addr) (w : Addr) (t : Addr) (i : Nat) (n : Nat) (mc : Int32) (h0 : Heap) (n0 : Nat) (vz : Option Value) (hz : Heap) (Lz : List Loc) : Prop := vz = some (.int 0) ∧ Fr n0 Lz ∧ hz = h0
abbrev rr_hnF : Room := ({ frames := 0, cells := 0, slots := 0, locals := 0 } : Room)
set_option maxRecDepth 65536 in
set_option maxHeartbeats 40000000 in
theorem rm_hnF (l : Launch) (Z : State) (a0 : Array Value) (hw : ∀ d ∈ tables_1, d.before a0 Z = true) (ws : List Jvm.Cond) (it : Addr) (w : Addr) (t : Addr) (i : Nat) (n : Nat) (mc : Int32) (h0 : Heap) (n0 : Nat) (Z0 : n0 ≤ h0.size) (T0 : IT Z h0 it w i mc) (I0 : LI Z h0 w t n mc) (hi : i = n) (hn : n ≤ 8) :
    MetFree l mn56 (head1 (Jvm.Cond.code mn56 jdk_49_method_2_code 1 (some .boolean) :: ws) rr_hnF) (PreK Z #[(.ref it)] h0) (fun _ _ _ _ _ => True) (PosK (Q_hnF Z it w t i n mc h0 n0) rr_hnF) := by
  refine startK n0 (L := #[vr it]) (plainFor_of_name pn13) (fun _ => rfl) fun p e s m below meth c s₁ Bd hZ hh hx hby hml hown hnm hlk X0 e0 N0 => ?_
  obtain ⟨Ei, Ft, Fcu, Fx, lr, Fl⟩ := id T0
  obtain ⟨Ew, Fs, Fe, Fm⟩ := id I0
  refine EndsK.go (fun _ kz => XS.aloadN X0.here hx rfl (hb hby d19_0) rfl rfl kz) ?_
  obtain ⟨T1, X1, e1, st1⟩ := getF X0 hx hZ hown (host := "") (Or.inl (tw hw 145 rfl)) Via.refl e0 Fcu (g := (mkF m 1 #[vr it] [(.ref it)])) rfl rfl (hb hby d19_1)
  refine EndsK.go st1 ?_
  refine EndsK.go (fun _ kz => XS.aloadN X1.here hx rfl (hb hby d19_4) rfl rfl kz) ?_
  obtain ⟨T2, X2, e2, st2⟩ := getF X1 hx hZ hown (host := "") (Or.inl (tw hw 127 rfl)) Via.refl e1 Ft (g := (mkF m 5 #[vr it] [(.ref it), (.int (Int32.ofNat i))])) rfl rfl (hb hby d19_5)
  refine EndsK.go st2 ?_
  obtain ⟨T3, X3, e3, st3⟩ := getF X2 hx hZ hown (Or.inr (tw hw 147 rfl)) Via.refl e2 Fs (g := (mkF m 8 #[vr it] [(.ref w), (.int (Int32.ofNat i))])) rfl rfl (hb hby d19_8)
  refine EndsK.go st3 ?_
  refine EndsK.go (fun _ kz => XS.icmpYes X3.here hx rfl (pc0 := 11) (pc' := 18) rfl (hb hby d19_11) rfl (teq (congrArg Int32.ofNat hi)).1 (by decide) (by decide) (XS.iconst X3.here hx rfl (hb hby d19_18) kz)) ?_
  show EndsK p e below _ (T3.setTop (mkF m 19 #[vr it] [(.int (0 : Int32))]))
  exact endN X3 hx (t := .boolean) Bd.returns (by simp) (hb hby d19_19) hlk ⟨rfl, N0, e3⟩ (by decide) (by decide)
abbrev B45 := jdk_49_method_6_code
theorem d45_0 : decode B45 0 = .ok (.aload_n 0, 1) := by decide +kernel
theorem d45_1 : decode B45 1 = .ok (.getfield 1, 3) := by decide +kernel
theorem d45_4 : decode B45 4 = .ok (.getfield 17, 3) := by decide +kernel
theorem d45_7 : decode B45 7 = .ok (.aload_n 0, 1) := by decide +kernel
theorem d45_8 : decode B45 8 = .ok (.getfield 22, 3) := by decide +kernel
theorem d45_11 : decode B45 11 = .ok (.if_icmp .eq 11, 3) := by decide +kernel
theorem d45_22 : decode B45 22 = .ok (.return_, 1) := by decide +kernel
def Q_cfc (Z : State) (it : Addr) (w : Addr) (mc : Int32) (h0 : Heap) (n0 : Nat) (vz : Option Value) (hz : Heap) (Lz : List Loc) : Prop := vz = none ∧ Fr n0 Lz ∧ hz = h0
abbrev rr_cfc : Room := ({ frames := 0, cells := 0, slots := 0, locals := 0 } : Room)
set_option maxRecDepth 65536 in
set_option maxHeartbeats 40000000 in
theorem rm_cfc (l : Launch) (Z : State) (a0 : Array Value) (hw : ∀ d ∈ tables_1, d.before a0 Z = true) (ws : List Jvm.Cond) (it : Addr) (w : Addr) (mc : Int32) (h0 : Heap) (n0 : Nat) (Z0 : n0 ≤ h0.size) (Ft : Fld Z h0 it "java/util/ArrayList$Itr" "this$0" "Ljava/util/ArrayList;" (.ref w)) (Fx : Fld Z h0 it "java/util/ArrayList$Itr" "expectedModCount" "I" (.int mc)) (Fm : Fld Z h0 w "java/util/AbstractList" "modCount" "I" (.int mc)) :
    MetFree l mn57 (head1 (Jvm.Cond.code mn57 jdk_49_method_6_code 1 none :: ws) rr_cfc) (PreK Z #[(.ref it)] h0) (fun _ _ _ _ _ => True) (PosK (Q_cfc Z it w mc h0 n0) rr_cfc) := by
  refine startK n0 (L := #[vr it]) (plainFor_of_name pn13) (fun _ => rfl) fun p e s m below meth c s₁ Bd hZ hh hx hby hml hown hnm hlk X0 e0 N0 => ?_
  refine EndsK.go (fun _ kz => XS.aloadN X0.here hx rfl (hb hby d45_0) rfl rfl kz) ?_
  obtain ⟨T1, X1, e1, st1⟩ := getF X0 hx hZ hown (host := "") (Or.inl (tw hw 127 rfl)) Via.refl e0 Ft (g := (mkF m 1 #[vr it] [(.ref it)])) rfl rfl (hb hby d45_1)
  refine EndsK.go st1 ?_
  obtain ⟨T2, X2, e2, st2⟩ := getF X1 hx hZ hown (host := "") (Or.inl (tw hw 132 rfl)) (Via.of (tw hw 133 rfl)) e1 Fm (g := (mkF m 4 #[vr it] [(.ref w)])) rfl rfl (hb hby d45_4)
  refine EndsK.go st2 ?_
  refine EndsK.go (fun _ kz => XS.aloadN X2.here hx rfl (hb hby d45_7) rfl rfl kz) ?_
  obtain ⟨T3, X3, e3, st3⟩ := getF X2 hx hZ hown (host := "") (Or.inl (tw hw 134 rfl)) Via.refl e2 Fx (g := (mkF m 8 #[vr it] [(.ref it), (.int mc)])) rfl rfl (hb hby d45_8)
  refine EndsK.go st3 ?_
  refine EndsK.go (fun _ kz => XS.icmpYes X3.here hx rfl (pc0 := 11) (pc' := 22) rfl (hb hby d45_11) rfl (teq (rfl : mc = mc)).1 (by decide) (by decide) kz) ?_
  show EndsK p e below _ (T3.setTop (mkF m 22 #[vr it] []))
  exact endV X3 hx Bd.returns (hb hby d45_22) hlk ⟨rfl, N0, e3⟩ (by decide) (by decide)
abbrev B44 := jdk_49_method_3_code
theorem d44_0 : decode B44 0 = .ok (.aload_n 0, 1) := by decide +kernel
theorem d44_1 : decode B44 1 = .ok (.invokevirtual 31, 3) := by decide +kernel
theorem d44_4 : decode B44 4 = .ok (.aload_n 0, 1) := by decide +kernel
theorem d44_5 : decode B44 5 = .ok (.getfield 25, 3) := by decide +kernel
theorem d44_8 : decode B44 8 = .ok (.istore_n 1, 1) := by decide +kernel
theorem d44_9 : decode B44 9 = .ok (.iload_n 1, 1) := by decide +kernel
theorem d44_10 : decode B44 10 = .ok (.aload_n 0, 1) := by decide +kernel
theorem d44_11 : decode B44 11 = .ok (.getfield 1, 3) := by decide +kernel
theorem d44_14 : decode B44 14 = .ok (.getfield 28, 3) := by decide +kernel
theorem d44_17 : decode B44 17 = .ok (.if_icmp .lt 11, 3) := by decide +kernel
theorem d44_28 : decode B44 28 = .ok (.aload_n 0, 1) := by decide +kernel
theorem d44_29 : decode B44 29 = .ok (.getfield 1, 3) := by decide +kernel
theorem d44_32 : decode B44 32 = .ok (.getfield 37, 3) := by decide +kernel
theorem d44_35 : decode B44 35 = .ok (.astore_n 2, 1) := by decide +kernel
theorem d44_36 : decode B44 36 = .ok (.iload_n 1, 1) := by decide +kernel
theorem d44_37 : decode B44 37 = .ok (.aload_n 2, 1) := by decide +kernel
theorem d44_38 : decode B44 38 = .ok (.arraylength, 1) := by decide +kernel
theorem d44_39 : decode B44 39 = .ok (.if_icmp .lt 11, 3) := by decide +kernel
theorem d44_50 : decode B44 50 = .ok (.aload_n 0, 1) := by decide +kernel
theorem d44_51 : decode B44 51 = .ok (.iload_n 1, 1) := by decide +kernel
theorem d44_52 : decode B44 52 = .ok (.iconst 1, 1) := by decide +kernel
theorem d44_53 : decode B44 53 = .ok (.iadd, 1) := by decide +kernel
theorem d44_54 : decode B44 54 = .ok (.putfield 25, 3) := by decide +kernel
theorem d44_57 : decode B44 57 = .ok (.aload_n 2, 1) := by decide +kernel
theorem d44_58 : decode B44 58 = .ok (.aload_n 0, 1) := by decide +kernel
theorem d44_59 : decode B44 59 = .ok (.iload_n 1, 1) := by decide +kernel
theorem d44_60 : decode B44 60 = .ok (.dup_x1, 1) := by decide +kernel
theorem d44_61 : decode B44 61 = .ok (.putfield 13, 3) := by decide +kernel
theorem d44_64 : decode B44 64 = .ok (.aaload, 1) := by decide +kernel
theorem d44_65 : decode B44 65 = .ok (.areturn, 1) := by decide +kernel
def Q_nx (Z : State) (it : Addr) (w : Addr) (t : Addr) (i : Nat) (n : Nat) (mc : Int32) (G : Nat → Addr) (b : Addr) (h0 : Heap) (n0 : Nat) (vz : Option Value) (hz : Heap) (Lz : List Loc) : Prop := vz = some (.ref b) ∧ Fr n0 Lz ∧ Keep h0 hz [it] ∧ IT Z hz it w (i + 1) mc
abbrev rr_nx : Room := ({ frames := 1, cells := 0, slots := 0, locals := 14 } : Room)
set_option maxRecDepth 65536 in
set_option maxHeartbeats 40000000 in
theorem rm_nx (l : Launch) (Z : State) (a0 : Array Value) (hw : ∀ d ∈ tables_1, d.before a0 Z = true) (ws : List Jvm.Cond) (it : Addr) (w : Addr) (t : Addr) (i : Nat) (n : Nat) (mc : Int32) (G : Nat → Addr) (b : Addr) (h0 : Heap) (n0 : Nat) (Z0 : n0 ≤ h0.size) (T0 : IT Z h0 it w i mc) (I0 : LI Z h0 w t n mc) (B0 : Els Z h0 t n G) (hi : i < n) (hn : n ≤ 8) (hGb : G i = b) (gi : n0 ≤ it) (nwi : w ≠ it) (nti : t ≠ it) :
    MetFree l mn58 (head1 (Jvm.Cond.code mn58 jdk_49_method_3_code 3 (some (.object "java/lang/Object")) :: ws) rr_nx) (PreK Z #[(.ref it)] h0) (fun _ _ _ _ _ => True) (PosK (Q_nx Z it w t i n mc G b h0 n0) rr_nx) := by
  refine startK n0 (L := #[vr it, .unset, .unset]) (plainFor_of_name pn13) (fun _ => rfl) fun p e s m below meth c s₁ Bd hZ hh hx hby hml hown hnm hlk X0 e0 N0 => ?_
  obtain ⟨Ei, Ft, Fcu, Fx, lr, Fl⟩ := id T0
  obtain ⟨Ew, Fs, Fe, Fm⟩ := id I0
  have K0 : Keep h0 h0 [it] := Keep.refl _ _
  obtain ⟨cE, AE, OE, zE, HE⟩ := id B0
  have zE' : cE.slots.size.toInt32 = Int32.ofNat 10 := by rw [zE]
  refine EndsK.go (fun _ kz => XS.aloadN X0.here hx rfl (hb hby d44_0) rfl rfl kz) ?_
  obtain ⟨cq1, kq1, qa1, qb1, qc1⟩ := isOf hZ e0 Ei
  obtain ⟨_, T1, Lc1, X1, hQ1, st1⟩ := doneT X0 (X0.virtualBack hx (y := mn57) (z := mn57) hown (mvT hZ (tw hw 279 rfl)) (mvT hZ (tw hw 280 rfl)) (notFace_of_selects (args := #[]) (mvT hZ (tw hw 282 rfl))) (mvT hZ (tw hw 282 rfl)) (mvT hZ (tw hw 281 rfl)) (by decide) (backOf (W := 0) (rm_cfc l Z a0 hw [] it w mc h0 n0 Z0 Ft Fx Fm) hZ (tw hw 283 rfl) (tw hw 122 rfl) (by decide) (by decide)) qa1 qc1 (g := (mkF m 1 #[vr it, .unset, .unset] [(.ref it)])) rfl (by rw [hml]; rfl) (Steps.refl _) (argsL := []) (rest := []) (lenOf pd28 rfl) rfl (by show 2 * 0 + _ ≤ _; exact Nat.le_of_eq rfl) (hb hby d44_1) (fun _ _ => ⟨rfl, e0, (by decide : 0 + 0 ≤ _), (by decide : 0 + 0 ≤ _)⟩))
  obtain ⟨rfl, N1, e1⟩ := hQ1
  have M1 := Fr.app N0 N1
  refine EndsK.tr st1 ?_
  refine EndsK.go (fun _ kz => XS.aloadN X1.here hx rfl (hb hby d44_4) rfl rfl kz) ?_
  obtain ⟨T2, X2, e2, st2⟩ := getF X1 hx hZ hown (host := "") (Or.inl (tw hw 145 rfl)) Via.refl e1 Fcu (g := (mkF m 5 #[vr it, .unset, .unset] [(.ref it)])) rfl rfl (hb hby d44_5)
  refine EndsK.go st2 ?_
  refine EndsK.go (fun _ kz => XS.istoreN X2.here hx rfl (hb hby d44_8) rfl (l' := #[vr it, vi (Int32.ofNat i), .unset]) rfl (XS.iloadN X2.here hx rfl (hb hby d44_9) rfl (XS.aloadN X2.here hx rfl (hb hby d44_10) rfl rfl kz))) ?_
  obtain ⟨T3, X3, e3, st3⟩ := getF X2 hx hZ hown (host := "") (Or.inl (tw hw 127 rfl)) Via.refl e2 Ft (g := (mkF m 11 #[vr it, vi (Int32.ofNat i), .unset] [(.ref it), (.int (Int32.ofNat i))])) rfl rfl (hb hby d44_11)
  refine EndsK.go st3 ?_
  obtain ⟨T4, X4, e4, st4⟩ := getF X3 hx hZ hown (Or.inr (tw hw 147 rfl)) Via.refl e3 Fs (g := (mkF m 14 #[vr it, vi (Int32.ofNat i), .unset] [(.ref w), (.int (Int32.ofNat i))])) rfl rfl (hb hby d44_14)
  refine EndsK.go st4 ?_
  refine EndsK.go (fun _ kz => XS.icmpYes X4.here hx rfl (pc0 := 17) (pc' := 28) rfl (hb hby d44_17) rfl (tlt ((on_lt (by omega) (by omega)).mpr hi)).1 (by decide) (by decide) (XS.aloadN X4.here hx rfl (hb hby d44_28) rfl rfl kz)) ?_
  obtain ⟨T5, X5, e5, st5⟩ := getF X4 hx hZ hown (host := "") (Or.inl (tw hw 127 rfl)) Via.refl e4 Ft (g := (mkF m 29 #[vr it, vi (Int32.ofNat i), .unset] [(.ref it)])) rfl rfl (hb hby d44_29)
  refine EndsK.go st5 ?_
  obtain ⟨T6, X6, e6, st6⟩ := getF X5 hx hZ hown (host := "") (Or.inl (tw hw 284 rfl)) Via.refl e5 Fe (g := (mkF m 32 #[vr it, vi (Int32.ofNat i), .unset] [(.ref w)])) rfl rfl (hb hby d44_32)
  refine EndsK.go st6 ?_
  refine EndsK.go (fun _ kz => XS.astoreN X6.here hx rfl (hb hby d44_35) rfl rfl (l' := #[vr it, vi (Int32.ofNat i), vr t]) rfl (XS.iloadN X6.here hx rfl (hb hby d44_36) rfl (XS.aloadN X6.here hx rfl (hb hby d44_37) rfl rfl kz))) ?_
  refine EndsK.go (fun tz kz => X6.arraylength hx (by rw [e6]; exact AE.1) (State.isArrayOf_alike hZ.alike AE.2.1) (g := (mkF m 38 #[vr it, vi (Int32.ofNat i), vr t] [(.ref t), (.int (Int32.ofNat i))])) rfl rfl (hb hby d44_38) tz kz) ?_
  rw [zE']
  refine EndsK.go (fun _ kz => XS.icmpYes X6.here hx rfl (pc0 := 39) (pc' := 50) rfl (hb hby d44_39) rfl (tlt ((on_lt (a := i) (b := 10) (by omega) (by decide)).mpr (by omega))).1 (by decide) (by decide) (XS.aloadN X6.here hx rfl (hb hby d44_50) rfl rfl (XS.iloadN X6.here hx rfl (hb hby d44_51) rfl (XS.iconst X6.here hx rfl (hb hby d44_52) (XS.iadd X6.here hx rfl (hb hby d44_53) rfl kz))))) ?_
  refine EndsK.start (congrArg (fun z_ => (mkF m 54 #[vr it, vi (Int32.ofNat i), vr t] [(.int z_), (.ref it)])) (on_succ i : ((Int32.ofNat i) + (1 : Int32)) = (Int32.ofNat (i + 1)))) ?_
  obtain ⟨T7, h7, X7, e7, W7, st7⟩ := putF X6 hx hZ hown (host := "") (Or.inl (tw hw 145 rfl)) Via.refl e6 Fcu Ei (Or.inl (tw hw 146 rfl)) (tw hw 121 rfl) (ty := .int) (by decide) rfl rfl (g := (mkF m 54 #[vr it, vi (Int32.ofNat i), vr t] [(.int (Int32.ofNat (i + 1))), (.ref it)])) rfl rfl (hb hby d44_54)
  refine EndsK.go st7 ?_
  have N7 := Fr.snoc X7 M1 gi
  have E7_it := Ei.wr W7
  have F7_this_0_it := Ft.other W7 (Or.inr (slot_ne (Or.inr (tw hw 128 rfl)) (Or.inl (tw hw 146 rfl)) (by decide) (t := (.object "java/util/ArrayList")) (t' := .int) (by decide) (by decide)))
  have F7_cursor := Fcu.same W7
  have F7_expectedModCount_it := Fx.other W7 (Or.inr (slot_ne (Or.inl (tw hw 135 rfl)) (Or.inl (tw hw 146 rfl)) (by decide) (t := .int) (t' := .int) (by decide) (by decide)))
  have F7_lastRet_it := Fl.other W7 (Or.inr (slot_ne (Or.inl (tw hw 131 rfl)) (Or.inl (tw hw 146 rfl)) (by decide) (t := .int) (t' := .int) (by decide) (by decide)))
  have F7_size_w := Fs.other W7 (Or.inl nwi)
  have F7_elementData_w := Fe.other W7 (Or.inl nwi)
  have F7_modCount_w := Fm.other W7 (Or.inl nwi)
  have A7_t := AE.other W7 nti
  have Z7 : n0 ≤ h7.size := Nat.le_trans Z0 (Nat.le_of_eq W7.size.symm)
  have K7 := K0.wr W7 (Or.inl (List.mem_singleton.mpr rfl))
  refine EndsK.go (fun _ kz => XS.aloadN X7.here hx rfl (hb hby d44_57) rfl rfl (XS.aloadN X7.here hx rfl (hb hby d44_58) rfl rfl (XS.iloadN X7.here hx rfl (hb hby d44_59) rfl (XS.dupX1 X7.here hx rfl (hb hby d44_60) rfl rfl rfl kz)))) ?_
  obtain ⟨T8, h8, X8, e8, W8, st8⟩ := putF X7 hx hZ hown (host := "") (Or.inl (tw hw 130 rfl)) Via.refl e7 F7_lastRet_it E7_it (Or.inl (tw hw 131 rfl)) (tw hw 121 rfl) (ty := .int) (by decide) rfl rfl (g := (mkF m 61 #[vr it, vi (Int32.ofNat i), vr t] [(.int (Int32.ofNat i)), (.ref it), (.int (Int32.ofNat i)), (.ref t)])) rfl rfl (hb hby d44_61)
  refine EndsK.go st8 ?_
  have N8 := Fr.snoc X8 N7 gi
  have E8_it := E7_it.wr W8
  have F8_this_0_it := F7_this_0_it.other W8 (Or.inr (slot_ne (Or.inr (tw hw 128 rfl)) (Or.inl (tw hw 131 rfl)) (by decide) (t := (.object "java/util/ArrayList")) (t' := .int) (by decide) (by decide)))
  have F8_cursor_it := F7_cursor.other W8 (Or.inr (slot_ne (Or.inl (tw hw 146 rfl)) (Or.inl (tw hw 131 rfl)) (by decide) (t := .int) (t' := .int) (by decide) (by decide)))
  have F8_expectedModCount_it := F7_expectedModCount_it.other W8 (Or.inr (slot_ne (Or.inl (tw hw 135 rfl)) (Or.inl (tw hw 131 rfl)) (by decide) (t := .int) (t' := .int) (by decide) (by decide)))
  have F8_lastRet := F7_lastRet_it.same W8
  have F8_size_w := F7_size_w.other W8 (Or.inl nwi)
  have F8_elementData_w := F7_elementData_w.other W8 (Or.inl nwi)
  have F8_modCount_w := F7_modCount_w.other W8 (Or.inl nwi)
  have A8_t := A7_t.other W8 nti
  have Z8 : n0 ≤ h8.size := Nat.le_trans Z7 (Nat.le_of_eq W8.size.symm)
  have K8 := K7.wr W8 (Or.inl (List.mem_singleton.mpr rfl))
  refine EndsK.go (fun tz kz => X8.aaload hx (j := (Int32.ofNat i)) (v := .ref b) (by rw [e8]; exact A8_t.1) (State.isArrayOf_alike hZ.alike A8_t.2.1) rfl A8_t.2.2 (byt_in zE (by decide) (by omega)) (by rw [on_clamp (a := i) (by omega), HE i hi, hGb]) (g := (mkF m 64 #[vr it, vi (Int32.ofNat i), vr t] [(.int (Int32.ofNat i)), (.ref t)])) rfl rfl (hb hby d44_64) tz kz) ?_
  show EndsK p e below _ (T8.setTop (mkF m 65 #[vr it, vi (Int32.ofNat i), vr t] [(.ref b)]))
  exact endR X8 hx Bd.returns rfl rfl (hb hby d44_65) hlk ⟨rfl, N8, by rw [e8]; exact K8, by rw [e8]; exact ⟨E8_it, F8_this_0_it, F8_cursor_it, F8_expectedModCount_it, _, F8_lastRet⟩⟩ (by decide) (by decide)
abbrev EL1 : List (String × Nat) := [("com/example/guildtable/guildtable/table/Winners", 45)]
def gW (j : Nat) : Int32 := ([119, 105, 110, 110, 101, 114] : List Int32).getD j 0
theorem gW_at (j : Nat) : ([.int 119, .int 105, .int 110, .int 110, .int 101, .int 114] : List Value).getD j (.int 0) = .int (gW j) := by
  match j with
  | 0 => rfl
  | 1 => rfl
  | 2 => rfl
  | 3 => rfl
  | 4 => rfl
  | 5 => rfl
  | n + 6 => rfl
theorem on_addN {a b c : Nat} (e : a + b = c) : Int32.ofNat a + Int32.ofNat b = Int32.ofNat c := by rw [← e]; exact on_add a b
abbrev B5 := prog_12_method_3_code
theorem d5_0 : decode B5 0 = .ok (.new 43, 3) := by decide +kernel
theorem d5_3 : decode B5 3 = .ok (.dup, 1) := by decide +kernel
theorem d5_4 : decode B5 4 = .ok (.ldc 45, 2) := by decide +kernel
theorem d5_6 : decode B5 6 = .ok (.invokespecial 47, 3) := by decide +kernel
theorem d5_9 : decode B5 9 = .ok (.astore_n 1, 1) := by decide +kernel
theorem d5_10 : decode B5 10 = .ok (.aload_n 0, 1) := by decide +kernel
theorem d5_11 : decode B5 11 = .ok (.invokeinterface 50 1, 5) := by decide +kernel
theorem d5_16 : decode B5 16 = .ok (.astore_n 2, 1) := by decide +kernel
theorem d5_17 : decode B5 17 = .ok (.aload_n 2, 1) := by decide +kernel
theorem d5_18 : decode B5 18 = .ok (.invokeinterface 54 1, 5) := by decide +kernel
theorem d5_23 : decode B5 23 = .ok (.ifCond .eq 30, 3) := by decide +kernel
theorem d5_26 : decode B5 26 = .ok (.aload_n 2, 1) := by decide +kernel
theorem d5_27 : decode B5 27 = .ok (.invokeinterface 59 1, 5) := by decide +kernel
theorem d5_32 : decode B5 32 = .ok (.checkcast 17, 3) := by decide +kernel
theorem d5_35 : decode B5 35 = .ok (.invokevirtual 63, 3) := by decide +kernel
theorem d5_38 : decode B5 38 = .ok (.istore_n 3, 1) := by decide +kernel
theorem d5_39 : decode B5 39 = .ok (.aload_n 1, 1) := by decide +kernel
theorem d5_40 : decode B5 40 = .ok (.bipush 32, 2) := by decide +kernel
theorem d5_42 : decode B5 42 = .ok (.invokevirtual 67, 3) := by decide +kernel
theorem d5_45 : decode B5 45 = .ok (.iload_n 3, 1) := by decide +kernel
theorem d5_46 : decode B5 46 = .ok (.invokevirtual 71, 3) := by decide +kernel
theorem d5_49 : decode B5 49 = .ok (.pop, 1) := by decide +kernel
theorem d5_50 : decode B5 50 = .ok (.goto (-33), 3) := by decide +kernel
theorem d5_53 : decode B5 53 = .ok (.aload_n 1, 1) := by decide +kernel
theorem d5_54 : decode B5 54 = .ok (.invokevirtual 74, 3) := by decide +kernel
theorem d5_57 : decode B5 57 = .ok (.areturn, 1) := by decide +kernel
theorem pn14 : plainName "com/example/guildtable/guildtable/table/Winners" = true := by first | (simp [plainName, overriddenIn]; done) | decide +kernel
theorem ef_line0 (m : MethodId) (hB : Heap) (zc : Int32) (o : Addr) (d : Addr) (u : Value) (w : Addr) (te : Addr) (mc : Int32) : entryFrame m #[(.ref w)] 4 = mkF m 0 #[vr w, .unset, .unset, .unset] [] := by first | (simp [entryFrame, mkF, argsToLocals, Value.category]; done) | rfl
def Q_line0 (Z : State) (hB : Heap) (zc : Int32) (o : Addr) (d : Addr) (u : Value) (w : Addr) (te : Addr) (mc : Int32) (h0 : Heap) (n0 : Nat) (vz : Option Value) (hz : Heap) (Lz : List Loc) : Prop := ∃ (a b : Addr) (F : Nat → Int32), vz = some (.ref a) ∧ Fr n0 Lz ∧ Ext h0 hz ∧ Exa Z hz a "java/lang/String" ∧ Fld Z hz a "java/lang/String" "coder" "B" (.int (0 : Int32)) ∧ Fld Z hz a "java/lang/String" "value" "[B" (.ref b) ∧ Byt Z hz b (6) F ∧ (∀ j, j < 6 → F j = gW j)
abbrev rr_line0 : Room := ({ frames := 9, cells := 14, slots := 600, locals := 172 } : Room)
theorem pd33 : parseMethodDescriptor "()Ljava/util/Iterator;" = some ⟨[], some (.object "java/util/Iterator")⟩ := by decide +kernel
theorem pd34 : parseMethodDescriptor "()Ljava/lang/String;" = some ⟨[], some (.object "java/lang/String")⟩ := by decide +kernel
set_option maxRecDepth 65536 in
set_option maxHeartbeats 40000000 in
theorem rm_line0 (l : Launch) (Z : State) (a0 : Array Value) (hw : ∀ d ∈ tables_1, d.before a0 Z = true) (ws : List Jvm.Cond) (hB : Heap) (zc : Int32) (o : Addr) (d : Addr) (u : Value) (w : Addr) (te : Addr) (mc : Int32) (h0 : Heap) (n0 : Nat) (Z0 : n0 ≤ h0.size) (J : JS Z hB zc o d u) (EB : Ext hB h0) (hBn : hB.size ≤ n0) (I0 : LI Z h0 w te 0 mc) :
    MetFree l mn59 (head1 (Jvm.Cond.code mn59 prog_12_method_3_code 4 (some (.object "java/lang/String")) :: ws) rr_line0) (fun az Uz => az = #[(.ref w)] ∧ Z.Warmed39 Uz.vm ∧ Uz.heap = h0 ∧ CHv Z EL1 Uz.vm h0) (fun _ _ _ _ _ => True) (fun _ Uz oz Ut => ∃ vz Lz, oz = .returned vz ∧ Q_line0 Z hB zc o d u w te mc h0 n0 vz Ut.heap Lz ∧ ReturnedEndW Uz oz Ut Lz (rr_line0).cells (rr_line0).slots) := by
  refine MetFree.of_bodySF (plainFor_of_name pn14) hisR ?_
  intro p e s m args below meth c s₁ Bd hml0 hP hK
  obtain ⟨rfl, hZ, hh, hCH⟩ := hP
  have hx := Bd.exec
  have hby := Bd.bytes
  have hml : c.maxLocals = 4 := hml0
  have hown : s.vm.findClass "com/example/guildtable/guildtable/table/Winners" = some m.cls := findClass_of_methodNamed Bd.named
  have hnm := (name_of_methodNamed Bd.named Bd.method).1
  have hlk : meth.locks = false := Bd.notSynchronized
  have X0 : Stand p l e rr_line0 s m #[(.ref w)] below meth c s₁ [] 0 0 := Stand.of_body Bd
  have e0 : s₁.heap = h0 := by rw [← hh, Bd.state]; rfl
  have N0 := Fr.nil n0
  show EndsK p e below (OW s (Q_line0 Z hB zc o d u w te mc h0 n0) (rr_line0).cells (rr_line0).slots) (s₁.setTop (entryFrame m #[(.ref w)] 4))
  refine EndsK.start (ef_line0 m hB zc o d u w te mc) ?_
  have hEL : EW Z a0 EL1 := EW.cons (text := "winner") (tw hw 33 rfl) (by decide) EW.nil
  have wS : ∀ a ∈ Bundle.stringAtoms, a.before a0 Z = true := fun d hd => hw d ((by decide +kernel : ∀ d ∈ Bundle.stringAtoms, d ∈ tables_1) d hd)
  have hS := since0 s
  have hk : 0 ≤ h0.size := Nat.zero_le _
  have K0 : Keep h0 h0 [] := Keep.refl _ _
  obtain ⟨T1, h1, X1, e1, E1, A1, D1, -, st1⟩ := newO X0 hx hZ hown (tw hw 30 rfl) (tw hw 31 rfl) (tw hw 32 rfl) e0 (g := (mkF m 0 #[vr w, .unset, .unset, .unset] [])) rfl (hb hby d5_0) (by decide) (by decide)
  obtain ⟨x, g1⟩ : ∃ z, z = h0.size := ⟨_, rfl⟩
  rw [← g1] at A1 D1 st1
  refine EndsK.go st1 ?_
  have F1_coder : Fld Z h1 x "java/lang/AbstractStringBuilder" "coder" "B" (.int (0 : Int32)) := D1 (Or.inl (tw hw 67 rfl)) (ty := .byte) (by decide)
  have F1_value : Fld Z h1 x "java/lang/AbstractStringBuilder" "value" "[B" .null := D1 (Or.inl (tw hw 69 rfl)) (ty := (.array .byte)) (by decide)
  have F1_count : Fld Z h1 x "java/lang/AbstractStringBuilder" "count" "I" (.int (0 : Int32)) := D1 (Or.inl (tw hw 85 rfl)) (ty := .int) (by decide)
  have Z1 : n0 ≤ h1.size := Nat.le_trans Z0 E1.1
  have G1 : n0 ≤ x := by rw [g1]; exact Z0
  have K1 := K0.ext E1
  have sz_x : h0.size ≤ x := by rw [g1]; exact K0.1
  refine EndsK.go (fun _ kz => XS.dup X1.here hx rfl (hb hby d5_3) rfl rfl kz) ?_
  have hSf := Safe.ext (ext_kept (ext_refl h0) K1 all0) hCH (Safe.new (x := x) sz_x)
  have hCH := hCH.ext (ext_kept (ext_refl h0) K1 all0)
  have hlt : x < h1.size := A1.lt
  have hk : 0 ≤ h1.size := Nat.zero_le _
  obtain ⟨sa2, T2, h2, nn2, sb2, kb2, X2, e2, E2, hS, hk, hZ, hown, Ea2, Fc2, Fv2, Av2, -, -, Cr2, -, ne2, st2⟩ := ldcCH (s := s) (vm0 := s.vm) X1 hx hZ hown (tw hw 33 rfl) wS e1 hS hk hEL (List.mem_singleton.mpr rfl) hCH (vs := [.int 119, .int 105, .int 110, .int 110, .int 101, .int 114]) (z := 6) ⟨by decide, by first | rfl | decide⟩ (by decide) rfl (g := (mkF m 4 #[vr w, .unset, .unset, .unset] [(.ref x), (.ref x)])) rfl (hb hby d5_4) (n := 24) (by decide) (by decide) (by decide) (by decide)
  refine EndsK.go st2 ?_
  have E2_x := A1.ext E2
  have F2_coder_x := F1_coder.ext E2
  have F2_value_x := F1_value.ext E2
  have F2_count_x := F1_count.ext E2
  have hSf := Cr2.safe hlt hSf
  have nex := ne2 x hSf
  have Z2 : n0 ≤ h2.size := Nat.le_trans Z1 E2.1
  have K2 := K1.ext E2
  have Bs2 : Byt Z h2 sb2 6 gW := Byt.of_arv Av2 gW_at
  obtain ⟨_, T3, Lc3, X3, hQ3, st3⟩ := doneT X2 (X2.specialBack hx (y := mn22) rfl hown (mvT hZ (tw hw 41 rfl)) (mvT hZ (tw hw 42 rfl)) (mvT hZ (tw hw 43 rfl)) (by decide) (backOf (W := 1) (rm_sbI l Z a0 hw [] sa2 sb2 gW x zc h2 n0 Z2 (J.SC.ext (ext_kept EB K2 all0)) J.hzc Ea2 Fc2 Fv2 Bs2 E2_x F2_value_x F2_coder_x F2_count_x G1 (Ne.symm nex.1) (Ne.symm nex.2)) hZ (tw hw 43 rfl) (tw hw 32 rfl) (by decide) (by decide)) (g := (mkF m 6 #[vr w, .unset, .unset, .unset] [(.ref sa2), (.ref x), (.ref x)])) rfl (by rw [hml]; rfl) (Steps.refl _) (a := x) (argsL := [(.ref sa2)]) (rest := [(.ref x)]) (lenOf pd7 rfl) rfl (by show 2 * 0 + _ ≤ _; exact Nat.le_of_eq rfl) (hb hby d5_6) (fun _ _ => ⟨rfl, e2, (by decide : 0 + 1 + 2 + 2 ≤ _), (by decide : 0 + 4 + (24 + 4) + 90 ≤ _)⟩))
  obtain ⟨t3, F3, rfl, N3, Kc3, q_s3, S3, q_f3⟩ := hQ3
  have M3 := Fr.app N0 N3
  obtain ⟨h3, e3⟩ : ∃ z, T3.heap = z := ⟨_, rfl⟩
  rw [e3] at Kc3 S3
  have Z3 : n0 ≤ h3.size := Nat.le_trans Z2 Kc3.1
  have K3 := K2.trans Kc3 (allS (Or.inr sz_x) all0)
  have E3_x := E2_x.keep Kc3
  have sz_t3 : h0.size ≤ t3 := Nat.le_trans K2.1 q_s3
  have g_t3 : n0 ≤ t3 := Nat.le_trans Z2 q_s3
  have hk := Nat.le_trans hk Kc3.1
  have g_x := G1
  refine EndsK.tr st3 ?_
  refine EndsK.go (fun _ kz => XS.astoreN X3.here hx rfl (hb hby d5_9) rfl rfl (l' := #[vr w, vr x, .unset, .unset]) rfl (XS.aloadN X3.here hx rfl (hb hby d5_10) rfl rfl kz)) ?_
  obtain ⟨cq4, kq4, qa4, qb4, qc4⟩ := isOf hZ e3 (I0.1.ext (ext_kept (ext_refl h0) K3 all0))
  obtain ⟨_, T4, Lc4, X4, hQ4, st4⟩ := doneT X3 (X3.interfaceBack hx (C := "java/util/ArrayList") (xi := mn60) (y := mn55) hown (mvT hZ (tw hw 111 rfl)) (mvT hZ (tw hw 112 rfl)) (mvT hZ (tw hw 113 rfl)) (mvT hZ (tw hw 114 rfl)) (mvT hZ (tw hw 115 rfl)) (mvT hZ (tw hw 116 rfl)) (mvT hZ (tw hw 117 rfl)) (mvT hZ (tw hw 118 rfl)) (by decide) (backOf (W := 0) (rm_itr l Z a0 hw [] w mc h3 n0 Z3 (I0.2.2.2.ext (ext_kept (ext_refl h0) K3 all0))) hZ (tw hw 119 rfl) (tw hw 2 rfl) (by decide) (by decide)) qa4 qb4 qc4 (g := (mkF m 11 #[vr w, vr x, .unset, .unset] [(.ref w)])) rfl (by rw [hml]; rfl) (Steps.refl _) (argsL := []) (rest := []) (lenOf pd33 rfl) rfl (by show 2 * 0 + _ ≤ _; exact Nat.le_of_eq rfl) (hb hby d5_11) (fun _ _ => ⟨rfl, e3, (by decide : 0 + 1 + 2 + 2 + 1 ≤ _), (by decide : 0 + 4 + (24 + 4) + 90 + 4 ≤ _)⟩))
  obtain ⟨it, rfl, N4, E4, q_s4, It4⟩ := hQ4
  have M4 := Fr.app M3 N4
  obtain ⟨h4, e4⟩ : ∃ z, T4.heap = z := ⟨_, rfl⟩
  rw [e4] at E4 It4
  have Z4 : n0 ≤ h4.size := Nat.le_trans Z3 E4.1
  have K4 := K3.ext E4
  have sz_it : h0.size ≤ it := Nat.le_trans K3.1 q_s4
  have g_it : n0 ≤ it := Nat.le_trans Z3 q_s4
  have nxi : x ≠ it := Nat.ne_of_lt (Nat.lt_of_lt_of_le S3.1.lt q_s4)
  have nti_t3 : t3 ≠ it := Nat.ne_of_lt (Nat.lt_of_lt_of_le S3.2.2.2.2.1.lt q_s4)
  have nwi : w ≠ it := Nat.ne_of_lt (Nat.lt_of_lt_of_le I0.1.lt sz_it)
  have S4 := S3.ext E4
  have hk := Nat.le_trans hk E4.1
  refine EndsK.tr st4 ?_
  refine EndsK.go (fun _ kz => XS.astoreN X4.here hx rfl (hb hby d5_16) rfl rfl (l' := #[vr w, vr x, vr it, .unset]) rfl (XS.aloadN X4.here hx rfl (hb hby d5_17) rfl rfl kz)) ?_
  obtain ⟨cq5, kq5, qa5, qb5, qc5⟩ := isOf hZ e4 It4.1
  obtain ⟨_, T5, Lc5, X5, hQ5, st5⟩ := doneT X4 (X4.interfaceBack hx (C := "java/util/ArrayList$Itr") (xi := mn61) (y := mn56) hown (mvT hZ (tw hw 136 rfl)) (mvT hZ (tw hw 137 rfl)) (mvT hZ (tw hw 138 rfl)) (mvT hZ (tw hw 139 rfl)) (mvT hZ (tw hw 140 rfl)) (mvT hZ (tw hw 141 rfl)) (mvT hZ (tw hw 142 rfl)) (mvT hZ (tw hw 143 rfl)) (by decide) (backOf (W := 0) (rm_hnF l Z a0 hw [] it w te 0 0 mc h4 n0 Z4 It4 (I0.ext (ext_kept (ext_refl h0) K4 all0)) rfl (by decide)) hZ (tw hw 144 rfl) (tw hw 122 rfl) (by decide) (by decide)) qa5 qb5 qc5 (g := (mkF m 18 #[vr w, vr x, vr it, .unset] [(.ref it)])) rfl (by rw [hml]; rfl) (Steps.refl _) (argsL := []) (rest := []) (lenOf pd14 rfl) rfl (by show 2 * 0 + _ ≤ _; exact Nat.le_of_eq rfl) (hb hby d5_18) (fun _ _ => ⟨rfl, e4, (by decide : 0 + 1 + 2 + 2 + 1 + 0 ≤ _), (by decide : 0 + 4 + (24 + 4) + 90 + 4 + 0 ≤ _)⟩))
  obtain ⟨rfl, N5, e5⟩ := hQ5
  have M5 := Fr.app M4 N5
  refine EndsK.tr st5 ?_
  refine EndsK.go (fun _ kz => XS.ifYes X5.here hx rfl (pc0 := 23) (pc' := 53) rfl (hb hby d5_23) rfl ((if0 _ _).trans (teq (rfl : (0 : Int32) = (0 : Int32))).1) (by decide) (by decide) (XS.aloadN X5.here hx rfl (hb hby d5_53) rfl rfl kz)) ?_
  obtain ⟨cq6, kq6, qa6, qb6, qc6⟩ := isOf hZ e5 S4.1
  obtain ⟨_, T6, Lc6, X6, hQ6, st6⟩ := doneT X5 (X5.virtualBack hx (y := mn36) (z := mn36) hown (mvT hZ (tw hw 149 rfl)) (mvT hZ (tw hw 150 rfl)) (notFace_of_selects (args := #[]) (mvT hZ (tw hw 152 rfl))) (mvT hZ (tw hw 152 rfl)) (mvT hZ (tw hw 151 rfl)) (by decide) (backOf (W := 0) (rm_tos l Z a0 hw [] zc x t3 22 F3 (6) h4 n0 Z4 (J.SC.ext (ext_kept EB K4 all0)) J.hzc S4) hZ (tw hw 153 rfl) (tw hw 32 rfl) (by decide) (by decide)) qa6 qc6 (g := (mkF m 54 #[vr w, vr x, vr it, .unset] [(.ref x)])) rfl (by rw [hml]; rfl) (Steps.refl _) (argsL := []) (rest := []) (lenOf pd34 rfl) rfl (by show 2 * 0 + _ ≤ _; exact Nat.le_of_eq rfl) (hb hby d5_54) (fun _ _ => ⟨rfl, e5, (by decide : 0 + 1 + 2 + 2 + 1 + 0 + 2 ≤ _), (by decide : 0 + 4 + (24 + 4) + 90 + 4 + 0 + 72 ≤ _)⟩))
  obtain ⟨sa6, sb6, F6, rfl, N6, E6, Ea6, Fc6, Fv6, B6, q_f6⟩ := hQ6
  have M6 := Fr.app M5 N6
  obtain ⟨h6, e6⟩ : ∃ z, T6.heap = z := ⟨_, rfl⟩
  rw [e6] at E6 Ea6 Fc6 Fv6 B6
  have Z6 : n0 ≤ h6.size := Nat.le_trans Z4 E6.1
  have K6 := K4.ext E6
  have hk := Nat.le_trans hk E6.1
  refine EndsK.tr st6 ?_
  show EndsK p e below _ (T6.setTop (mkF m 57 #[vr w, vr x, vr it, .unset] [(.ref sa6)]))
  exact endRW X6 hS (by rw [e6]; exact hk) hx Bd.returns rfl rfl (hb hby d5_57) hlk ⟨sa6, sb6, F6, rfl, M6, by rw [e6]; exact (ext_kept (ext_refl h0) K6 all0), by rw [e6]; exact Ea6, by rw [e6]; exact Fc6, by rw [e6]; exact Fv6, by rw [e6]; exact B6, fun j hj => (q_f6 j (by omega)).trans (q_f3 j hj)⟩ (by decide) (by decide)
theorem ef_line1 (m : MethodId) (hB : Heap) (zc : Int32) (o : Addr) (d : Addr) (u : Value) (w : Addr) (te : Addr) (mc : Int32) (G : Nat → Addr) (b0 : Addr) (v0 : Int32) : entryFrame m #[(.ref w)] 4 = mkF m 0 #[vr w, .unset, .unset, .unset] [] := by first | (simp [entryFrame, mkF, argsToLocals, Value.category]; done) | rfl
def Q_line1 (Z : State) (hB : Heap) (zc : Int32) (o : Addr) (d : Addr) (u : Value) (w : Addr) (te : Addr) (mc : Int32) (G : Nat → Addr) (b0 : Addr) (v0 : Int32) (h0 : Heap) (n0 : Nat) (vz : Option Value) (hz : Heap) (Lz : List Loc) : Prop := ∃ (a b : Addr) (F : Nat → Int32), vz = some (.ref a) ∧ Fr n0 Lz ∧ Ext h0 hz ∧ Exa Z hz a "java/lang/String" ∧ Fld Z hz a "java/lang/String" "coder" "B" (.int (0 : Int32)) ∧ Fld Z hz a "java/lang/String" "value" "[B" (.ref b) ∧ Byt Z hz b (6 + 1 + sl v0) F ∧ (∀ j, j < 6 → F j = gW j) ∧ Sg F (6) v0
abbrev rr_line1 : Room := ({ frames := 9, cells := 14, slots := 600, locals := 172 } : Room)
theorem pd35 : parseMethodDescriptor "()Ljava/lang/Object;" = some ⟨[], some (.object "java/lang/Object")⟩ := by decide +kernel
theorem pd36 : parseMethodDescriptor "(C)Ljava/lang/StringBuilder;" = some ⟨[.char], some (.object "java/lang/StringBuilder")⟩ := by decide +kernel
theorem pd37 : parseMethodDescriptor "(I)Ljava/lang/StringBuilder;" = some ⟨[.int], some (.object "java/lang/StringBuilder")⟩ := by decide +kernel
set_option maxRecDepth 65536 in
set_option maxHeartbeats 40000000 in
theorem rm_line1 (l : Launch) (Z : State) (a0 : Array Value) (hw : ∀ d ∈ tables_1, d.before a0 Z = true) (ws : List Jvm.Cond) (hB : Heap) (zc : Int32) (o : Addr) (d : Addr) (u : Value) (w : Addr) (te : Addr) (mc : Int32) (G : Nat → Addr) (b0 : Addr) (v0 : Int32) (h0 : Heap) (n0 : Nat) (Z0 : n0 ≤ h0.size) (J : JS Z hB zc o d u) (EB : Ext hB h0) (hBn : hB.size ≤ n0) (I0 : LI Z h0 w te 1 mc) (B0 : Els Z h0 te 1 G) (hG0 : G 0 = b0) (Eb0 : Exa Z h0 b0 "java/lang/Integer") (Fb0 : Fld Z h0 b0 "java/lang/Integer" "value" "I" (.int v0)) :
    MetFree l mn59 (head1 (Jvm.Cond.code mn59 prog_12_method_3_code 4 (some (.object "java/lang/String")) :: ws) rr_line1) (fun az Uz => az = #[(.ref w)] ∧ Z.Warmed39 Uz.vm ∧ Uz.heap = h0 ∧ CHv Z EL1 Uz.vm h0) (fun _ _ _ _ _ => True) (fun _ Uz oz Ut => ∃ vz Lz, oz = .returned vz ∧ Q_line1 Z hB zc o d u w te mc G b0 v0 h0 n0 vz Ut.heap Lz ∧ ReturnedEndW Uz oz Ut Lz (rr_line1).cells (rr_line1).slots) := by
  refine MetFree.of_bodySF (plainFor_of_name pn14) hisR ?_
  intro p e s m args below meth c s₁ Bd hml0 hP hK
  obtain ⟨rfl, hZ, hh, hCH⟩ := hP
  have hx := Bd.exec
  have hby := Bd.bytes
  have hml : c.maxLocals = 4 := hml0
  have hown : s.vm.findClass "com/example/guildtable/guildtable/table/Winners" = some m.cls := findClass_of_methodNamed Bd.named
  have hnm := (name_of_methodNamed Bd.named Bd.method).1
  have hlk : meth.locks = false := Bd.notSynchronized
  have X0 : Stand p l e rr_line1 s m #[(.ref w)] below meth c s₁ [] 0 0 := Stand.of_body Bd
  have e0 : s₁.heap = h0 := by rw [← hh, Bd.state]; rfl
  have N0 := Fr.nil n0
  show EndsK p e below (OW s (Q_line1 Z hB zc o d u w te mc G b0 v0 h0 n0) (rr_line1).cells (rr_line1).slots) (s₁.setTop (entryFrame m #[(.ref w)] 4))
  refine EndsK.start (ef_line1 m hB zc o d u w te mc G b0 v0) ?_
  have hEL : EW Z a0 EL1 := EW.cons (text := "winner") (tw hw 33 rfl) (by decide) EW.nil
  have wS : ∀ a ∈ Bundle.stringAtoms, a.before a0 Z = true := fun d hd => hw d ((by decide +kernel : ∀ d ∈ Bundle.stringAtoms, d ∈ tables_1) d hd)
  have hS := since0 s
  have hk : 0 ≤ h0.size := Nat.zero_le _
  have K0 : Keep h0 h0 [] := Keep.refl _ _
  have hsl0 := sl_le v0
  obtain ⟨T1, h1, X1, e1, E1, A1, D1, -, st1⟩ := newO X0 hx hZ hown (tw hw 30 rfl) (tw hw 31 rfl) (tw hw 32 rfl) e0 (g := (mkF m 0 #[vr w, .unset, .unset, .unset] [])) rfl (hb hby d5_0) (by decide) (by decide)
  obtain ⟨x, g1⟩ : ∃ z, z = h0.size := ⟨_, rfl⟩
  rw [← g1] at A1 D1 st1
  refine EndsK.go st1 ?_
  have F1_coder : Fld Z h1 x "java/lang/AbstractStringBuilder" "coder" "B" (.int (0 : Int32)) := D1 (Or.inl (tw hw 67 rfl)) (ty := .byte) (by decide)
  have F1_value : Fld Z h1 x "java/lang/AbstractStringBuilder" "value" "[B" .null := D1 (Or.inl (tw hw 69 rfl)) (ty := (.array .byte)) (by decide)
  have F1_count : Fld Z h1 x "java/lang/AbstractStringBuilder" "count" "I" (.int (0 : Int32)) := D1 (Or.inl (tw hw 85 rfl)) (ty := .int) (by decide)
  have Z1 : n0 ≤ h1.size := Nat.le_trans Z0 E1.1
  have G1 : n0 ≤ x := by rw [g1]; exact Z0
  have K1 := K0.ext E1
  have sz_x : h0.size ≤ x := by rw [g1]; exact K0.1
  refine EndsK.go (fun _ kz => XS.dup X1.here hx rfl (hb hby d5_3) rfl rfl kz) ?_
  have hSf := Safe.ext (ext_kept (ext_refl h0) K1 all0) hCH (Safe.new (x := x) sz_x)
  have hCH := hCH.ext (ext_kept (ext_refl h0) K1 all0)
  have hlt : x < h1.size := A1.lt
  have hk : 0 ≤ h1.size := Nat.zero_le _
  obtain ⟨sa2, T2, h2, nn2, sb2, kb2, X2, e2, E2, hS, hk, hZ, hown, Ea2, Fc2, Fv2, Av2, -, -, Cr2, -, ne2, st2⟩ := ldcCH (s := s) (vm0 := s.vm) X1 hx hZ hown (tw hw 33 rfl) wS e1 hS hk hEL (List.mem_singleton.mpr rfl) hCH (vs := [.int 119, .int 105, .int 110, .int 110, .int 101, .int 114]) (z := 6) ⟨by decide, by first | rfl | decide⟩ (by decide) rfl (g := (mkF m 4 #[vr w, .unset, .unset, .unset] [(.ref x), (.ref x)])) rfl (hb hby d5_4) (n := 24) (by decide) (by decide) (by decide) (by decide)
  refine EndsK.go st2 ?_
  have E2_x := A1.ext E2
  have F2_coder_x := F1_coder.ext E2
  have F2_value_x := F1_value.ext E2
  have F2_count_x := F1_count.ext E2
  have hSf := Cr2.safe hlt hSf
  have nex := ne2 x hSf
  have Z2 : n0 ≤ h2.size := Nat.le_trans Z1 E2.1
  have K2 := K1.ext E2
  have Bs2 : Byt Z h2 sb2 6 gW := Byt.of_arv Av2 gW_at
  obtain ⟨_, T3, Lc3, X3, hQ3, st3⟩ := doneT X2 (X2.specialBack hx (y := mn22) rfl hown (mvT hZ (tw hw 41 rfl)) (mvT hZ (tw hw 42 rfl)) (mvT hZ (tw hw 43 rfl)) (by decide) (backOf (W := 1) (rm_sbI l Z a0 hw [] sa2 sb2 gW x zc h2 n0 Z2 (J.SC.ext (ext_kept EB K2 all0)) J.hzc Ea2 Fc2 Fv2 Bs2 E2_x F2_value_x F2_coder_x F2_count_x G1 (Ne.symm nex.1) (Ne.symm nex.2)) hZ (tw hw 43 rfl) (tw hw 32 rfl) (by decide) (by decide)) (g := (mkF m 6 #[vr w, .unset, .unset, .unset] [(.ref sa2), (.ref x), (.ref x)])) rfl (by rw [hml]; rfl) (Steps.refl _) (a := x) (argsL := [(.ref sa2)]) (rest := [(.ref x)]) (lenOf pd7 rfl) rfl (by show 2 * 0 + _ ≤ _; exact Nat.le_of_eq rfl) (hb hby d5_6) (fun _ _ => ⟨rfl, e2, (by decide : 0 + 1 + 2 + 2 ≤ _), (by decide : 0 + 4 + (24 + 4) + 90 ≤ _)⟩))
  obtain ⟨t3, F3, rfl, N3, Kc3, q_s3, S3, q_f3⟩ := hQ3
  have M3 := Fr.app N0 N3
  obtain ⟨h3, e3⟩ : ∃ z, T3.heap = z := ⟨_, rfl⟩
  rw [e3] at Kc3 S3
  have Z3 : n0 ≤ h3.size := Nat.le_trans Z2 Kc3.1
  have K3 := K2.trans Kc3 (allS (Or.inr sz_x) all0)
  have E3_x := E2_x.keep Kc3
  have sz_t3 : h0.size ≤ t3 := Nat.le_trans K2.1 q_s3
  have g_t3 : n0 ≤ t3 := Nat.le_trans Z2 q_s3
  have hk := Nat.le_trans hk Kc3.1
  have g_x := G1
  refine EndsK.tr st3 ?_
  refine EndsK.go (fun _ kz => XS.astoreN X3.here hx rfl (hb hby d5_9) rfl rfl (l' := #[vr w, vr x, .unset, .unset]) rfl (XS.aloadN X3.here hx rfl (hb hby d5_10) rfl rfl kz)) ?_
  obtain ⟨cq4, kq4, qa4, qb4, qc4⟩ := isOf hZ e3 (I0.1.ext (ext_kept (ext_refl h0) K3 all0))
  obtain ⟨_, T4, Lc4, X4, hQ4, st4⟩ := doneT X3 (X3.interfaceBack hx (C := "java/util/ArrayList") (xi := mn60) (y := mn55) hown (mvT hZ (tw hw 111 rfl)) (mvT hZ (tw hw 112 rfl)) (mvT hZ (tw hw 113 rfl)) (mvT hZ (tw hw 114 rfl)) (mvT hZ (tw hw 115 rfl)) (mvT hZ (tw hw 116 rfl)) (mvT hZ (tw hw 117 rfl)) (mvT hZ (tw hw 118 rfl)) (by decide) (backOf (W := 0) (rm_itr l Z a0 hw [] w mc h3 n0 Z3 (I0.2.2.2.ext (ext_kept (ext_refl h0) K3 all0))) hZ (tw hw 119 rfl) (tw hw 2 rfl) (by decide) (by decide)) qa4 qb4 qc4 (g := (mkF m 11 #[vr w, vr x, .unset, .unset] [(.ref w)])) rfl (by rw [hml]; rfl) (Steps.refl _) (argsL := []) (rest := []) (lenOf pd33 rfl) rfl (by show 2 * 0 + _ ≤ _; exact Nat.le_of_eq rfl) (hb hby d5_11) (fun _ _ => ⟨rfl, e3, (by decide : 0 + 1 + 2 + 2 + 1 ≤ _), (by decide : 0 + 4 + (24 + 4) + 90 + 4 ≤ _)⟩))
  obtain ⟨it, rfl, N4, E4, q_s4, It4⟩ := hQ4
  have M4 := Fr.app M3 N4
  obtain ⟨h4, e4⟩ : ∃ z, T4.heap = z := ⟨_, rfl⟩
  rw [e4] at E4 It4
  have Z4 : n0 ≤ h4.size := Nat.le_trans Z3 E4.1
  have K4 := K3.ext E4
  have sz_it : h0.size ≤ it := Nat.le_trans K3.1 q_s4
  have g_it : n0 ≤ it := Nat.le_trans Z3 q_s4
  have nxi : x ≠ it := Nat.ne_of_lt (Nat.lt_of_lt_of_le S3.1.lt q_s4)
  have nti_t3 : t3 ≠ it := Nat.ne_of_lt (Nat.lt_of_lt_of_le S3.2.2.2.2.1.lt q_s4)
  have nwi : w ≠ it := Nat.ne_of_lt (Nat.lt_of_lt_of_le I0.1.lt sz_it)
  have S4 := S3.ext E4
  have hk := Nat.le_trans hk E4.1
  have ntei : te ≠ it := Nat.ne_of_lt (Nat.lt_of_lt_of_le B0.lt sz_it)
  refine EndsK.tr st4 ?_
  refine EndsK.go (fun _ kz => XS.astoreN X4.here hx rfl (hb hby d5_16) rfl rfl (l' := #[vr w, vr x, vr it, .unset]) rfl (XS.aloadN X4.here hx rfl (hb hby d5_17) rfl rfl kz)) ?_
  obtain ⟨cq5, kq5, qa5, qb5, qc5⟩ := isOf hZ e4 It4.1
  obtain ⟨_, T5, Lc5, X5, hQ5, st5⟩ := doneT X4 (X4.interfaceBack hx (C := "java/util/ArrayList$Itr") (xi := mn61) (y := mn56) hown (mvT hZ (tw hw 136 rfl)) (mvT hZ (tw hw 137 rfl)) (mvT hZ (tw hw 138 rfl)) (mvT hZ (tw hw 139 rfl)) (mvT hZ (tw hw 140 rfl)) (mvT hZ (tw hw 141 rfl)) (mvT hZ (tw hw 142 rfl)) (mvT hZ (tw hw 143 rfl)) (by decide) (backOf (W := 0) (rm_hnT l Z a0 hw [] it w te 0 1 mc h4 n0 Z4 It4 (I0.ext (ext_kept (ext_refl h0) K4 all0)) (by decide) (by decide)) hZ (tw hw 144 rfl) (tw hw 122 rfl) (by decide) (by decide)) qa5 qb5 qc5 (g := (mkF m 18 #[vr w, vr x, vr it, .unset] [(.ref it)])) rfl (by rw [hml]; rfl) (Steps.refl _) (argsL := []) (rest := []) (lenOf pd14 rfl) rfl (by show 2 * 0 + _ ≤ _; exact Nat.le_of_eq rfl) (hb hby d5_18) (fun _ _ => ⟨rfl, e4, (by decide : 0 + 1 + 2 + 2 + 1 + 0 ≤ _), (by decide : 0 + 4 + (24 + 4) + 90 + 4 + 0 ≤ _)⟩))
  obtain ⟨rfl, N5, e5⟩ := hQ5
  have M5 := Fr.app M4 N5
  refine EndsK.tr st5 ?_
  refine EndsK.go (fun _ kz => XS.ifNo X5.here hx rfl (hb hby d5_23) rfl ((if0 _ _).trans (feq (by decide : ¬ ((1 : Int32) = (0 : Int32)))).1) (XS.aloadN X5.here hx rfl (hb hby d5_26) rfl rfl kz)) ?_
  obtain ⟨cq6, kq6, qa6, qb6, qc6⟩ := isOf hZ e5 It4.1
  obtain ⟨_, T6, Lc6, X6, hQ6, st6⟩ := doneT X5 (X5.interfaceBack hx (C := "java/util/ArrayList$Itr") (xi := mn62) (y := mn58) hown (mvT hZ (tw hw 271 rfl)) (mvT hZ (tw hw 272 rfl)) (mvT hZ (tw hw 273 rfl)) (mvT hZ (tw hw 274 rfl)) (mvT hZ (tw hw 275 rfl)) (mvT hZ (tw hw 276 rfl)) (mvT hZ (tw hw 277 rfl)) (mvT hZ (tw hw 143 rfl)) (by decide) (backOf (W := 0) (rm_nx l Z a0 hw [] it w te 0 1 mc G b0 h4 n0 Z4 It4 (I0.ext (ext_kept (ext_refl h0) K4 all0)) (B0.ext (ext_kept (ext_refl h0) K4 all0)) (by decide) (by decide) hG0 g_it nwi ntei) hZ (tw hw 278 rfl) (tw hw 122 rfl) (by decide) (by decide)) qa6 qb6 qc6 (g := (mkF m 27 #[vr w, vr x, vr it, .unset] [(.ref it)])) rfl (by rw [hml]; rfl) (Steps.refl _) (argsL := []) (rest := []) (lenOf pd35 rfl) rfl (by show 2 * 0 + _ ≤ _; exact Nat.le_of_eq rfl) (hb hby d5_27) (fun _ _ => ⟨rfl, e5, (by decide : 0 + 1 + 2 + 2 + 1 + 0 + 0 ≤ _), (by decide : 0 + 4 + (24 + 4) + 90 + 4 + 0 + 0 ≤ _)⟩))
  obtain ⟨rfl, N6, Kc6, It6⟩ := hQ6
  have M6 := Fr.app M5 N6
  obtain ⟨h6, e6⟩ : ∃ z, T6.heap = z := ⟨_, rfl⟩
  rw [e6] at Kc6 It6
  have Z6 : n0 ≤ h6.size := Nat.le_trans Z4 Kc6.1
  have K6 := K4.trans Kc6 (allS (Or.inr sz_it) all0)
  have S6 := S4.keep Kc6 (ninS nxi nin0) (ninS nti_t3 nin0)
  have hk := Nat.le_trans hk Kc6.1
  refine EndsK.tr st6 ?_
  obtain ⟨T7, X7, e7, st7⟩ := castY X6 hx hZ hown (tw hw 285 rfl) e6 (Ins.self (Eb0.ext (ext_kept (ext_refl h0) K6 all0))) (g := (mkF m 32 #[vr w, vr x, vr it, .unset] [(.ref b0)])) rfl rfl (hb hby d5_32)
  refine EndsK.go st7 ?_
  obtain ⟨cq8, kq8, qa8, qb8, qc8⟩ := isOf hZ e7 (Eb0.ext (ext_kept (ext_refl h0) K6 all0))
  obtain ⟨_, T8, Lc8, X8, hQ8, st8⟩ := doneT X7 (X7.virtualBack hx (y := mn47) (z := mn47) hown (mvT hZ (tw hw 286 rfl)) (mvT hZ (tw hw 287 rfl)) (notFace_of_selects (args := #[]) (mvT hZ (tw hw 289 rfl))) (mvT hZ (tw hw 289 rfl)) (mvT hZ (tw hw 288 rfl)) (by decide) (backOf (W := 0) (rm_iv l Z a0 hw [] b0 v0 h6 n0 Z6 (Fb0.ext (ext_kept (ext_refl h0) K6 all0))) hZ (tw hw 290 rfl) (tw hw 221 rfl) (by decide) (by decide)) qa8 qc8 (g := (mkF m 35 #[vr w, vr x, vr it, .unset] [(.ref b0)])) rfl (by rw [hml]; rfl) (Steps.refl _) (argsL := []) (rest := []) (lenOf pd9 rfl) rfl (by show 2 * 0 + _ ≤ _; exact Nat.le_of_eq rfl) (hb hby d5_35) (fun _ _ => ⟨rfl, e7, (by decide : 0 + 1 + 2 + 2 + 1 + 0 + 0 + 0 ≤ _), (by decide : 0 + 4 + (24 + 4) + 90 + 4 + 0 + 0 + 0 ≤ _)⟩))
  obtain ⟨rfl, N8, e8⟩ := hQ8
  have M8 := Fr.app M6 N8
  refine EndsK.tr st8 ?_
  refine EndsK.go (fun _ kz => XS.istoreN X8.here hx rfl (hb hby d5_38) rfl (l' := #[vr w, vr x, vr it, vi v0]) rfl (XS.aloadN X8.here hx rfl (hb hby d5_39) rfl rfl (XS.bipush X8.here hx rfl (hb hby d5_40) kz))) ?_
  obtain ⟨cq9, kq9, qa9, qb9, qc9⟩ := isOf hZ e8 S6.1
  obtain ⟨_, T9, Lc9, X9, hQ9, st9⟩ := doneT X8 (X8.virtualBack hx (y := mn24) (z := mn24) hown (mvT hZ (tw hw 291 rfl)) (mvT hZ (tw hw 292 rfl)) (notFace_of_selects (args := #[]) (mvT hZ (tw hw 294 rfl))) (mvT hZ (tw hw 294 rfl)) (mvT hZ (tw hw 293 rfl)) (by decide) (backOf (W := 0) (rm_apC2 l Z a0 hw [] hB zc o d u x t3 22 F3 (6) h6 n0 Z6 J (ext_kept EB K6 all0) hBn S6 g_x g_t3 (by omega)) hZ (tw hw 295 rfl) (tw hw 32 rfl) (by decide) (by decide)) qa9 qc9 (g := (mkF m 42 #[vr w, vr x, vr it, vi v0] [(.int (32 : Int32)), (.ref x)])) rfl (by rw [hml]; rfl) (Steps.refl _) (argsL := [(.int (32 : Int32))]) (rest := []) (lenOf pd36 rfl) rfl (by show 2 * 0 + _ ≤ _; exact Nat.le_of_eq rfl) (hb hby d5_42) (fun _ _ => ⟨rfl, e8, (by decide : 0 + 1 + 2 + 2 + 1 + 0 + 0 + 0 + 1 ≤ _), (by decide : 0 + 4 + (24 + 4) + 90 + 4 + 0 + 0 + 0 + 64 ≤ _)⟩))
  obtain ⟨t9, N_9, F9, rfl, N9, Kc9, q_t9, S9, q_f9, q_c9⟩ := hQ9
  have M9 := Fr.app M8 N9
  obtain ⟨h9, e9⟩ : ∃ z, T9.heap = z := ⟨_, rfl⟩
  rw [e9] at Kc9 S9
  have Z9 : n0 ≤ h9.size := Nat.le_trans Z6 Kc9.1
  have K9 := K6.trans Kc9 (allS (Or.inr sz_x) (allS (Or.inr sz_t3) all0))
  have It9 := It6.keep Kc9 (ninS (Ne.symm nxi) (ninS (Ne.symm nti_t3) nin0))
  have sz_t9 : h0.size ≤ t9 := q_t9.elim (fun q => by rw [q]; exact sz_t3) (fun q => Nat.le_trans K6.1 q)
  have g_t9 : n0 ≤ t9 := q_t9.elim (fun q => by rw [q]; exact g_t3) (fun q => Nat.le_trans Z6 q)
  have nti_t9 : t9 ≠ it := q_t9.elim (fun q => by rw [q]; exact nti_t3) (fun q => Ne.symm (Nat.ne_of_lt (Nat.lt_of_lt_of_le It6.1.lt q)))
  have hk := Nat.le_trans hk Kc9.1
  have W6_9 : ∀ j, j < 6 → F9 j = gW j := fun j hj => (q_f9 j (by omega)).trans (q_f3 j hj)
  refine EndsK.tr st9 ?_
  refine EndsK.go (fun _ kz => XS.iloadN X9.here hx rfl (hb hby d5_45) rfl kz) ?_
  obtain ⟨cq10, kq10, qa10, qb10, qc10⟩ := isOf hZ e9 S9.1
  obtain ⟨_, T10, Lc10, X10, hQ10, st10⟩ := doneT X9 (X9.virtualBack hx (y := mn27) (z := mn27) hown (mvT hZ (tw hw 304 rfl)) (mvT hZ (tw hw 305 rfl)) (notFace_of_selects (args := #[]) (mvT hZ (tw hw 307 rfl))) (mvT hZ (tw hw 307 rfl)) (mvT hZ (tw hw 306 rfl)) (by decide) (backOf (W := 0) (rm_apI2 l Z a0 hw [] hB zc o d u x t9 N_9 F9 (6 + 1) v0 h9 n0 Z9 J (ext_kept EB K9 all0) hBn S9 g_x g_t9 (by omega)) hZ (tw hw 308 rfl) (tw hw 32 rfl) (by decide) (by decide)) qa10 qc10 (g := (mkF m 46 #[vr w, vr x, vr it, vi v0] [(.int v0), (.ref x)])) rfl (by rw [hml]; rfl) (Steps.refl _) (argsL := [(.int v0)]) (rest := []) (lenOf pd37 rfl) rfl (by show 2 * 0 + _ ≤ _; exact Nat.le_of_eq rfl) (hb hby d5_46) (fun _ _ => ⟨rfl, e9, (by decide : 0 + 1 + 2 + 2 + 1 + 0 + 0 + 0 + 1 + 1 ≤ _), (by decide : 0 + 4 + (24 + 4) + 90 + 4 + 0 + 0 + 0 + 64 + 64 ≤ _)⟩))
  obtain ⟨t10, N_10, F10, rfl, N10, Kc10, q_t10, S10, q_f10, q_c10⟩ := hQ10
  have M10 := Fr.app M9 N10
  obtain ⟨h10, e10⟩ : ∃ z, T10.heap = z := ⟨_, rfl⟩
  rw [e10] at Kc10 S10
  have Z10 : n0 ≤ h10.size := Nat.le_trans Z9 Kc10.1
  have K10 := K9.trans Kc10 (allS (Or.inr sz_x) (allS (Or.inr sz_t9) all0))
  have It10 := It9.keep Kc10 (ninS (Ne.symm nxi) (ninS (Ne.symm nti_t9) nin0))
  have sz_t10 : h0.size ≤ t10 := q_t10.elim (fun q => by rw [q]; exact sz_t9) (fun q => Nat.le_trans K9.1 q)
  have g_t10 : n0 ≤ t10 := q_t10.elim (fun q => by rw [q]; exact g_t9) (fun q => Nat.le_trans Z9 q)
  have nti_t10 : t10 ≠ it := q_t10.elim (fun q => by rw [q]; exact nti_t9) (fun q => Ne.symm (Nat.ne_of_lt (Nat.lt_of_lt_of_le It9.1.lt q)))
  have hk := Nat.le_trans hk Kc10.1
  have W6_10 : ∀ j, j < 6 → F10 j = gW j := fun j hj => (q_f10 j (by omega)).trans (W6_9 j hj)
  have Sg0_10 : Sg F10 (6) v0 := ⟨(q_f10 _ (by omega)).trans q_c9, q_c10⟩
  refine EndsK.tr st10 ?_
  refine EndsK.go (fun _ kz => XS.pop X10.here hx rfl (hb hby d5_49) rfl rfl (XS.goto X10.here hx rfl (pc0 := 50) (pc' := 17) rfl (hb hby d5_50) (by decide) (by decide) (XS.aloadN X10.here hx rfl (hb hby d5_17) rfl rfl kz))) ?_
  obtain ⟨cq11, kq11, qa11, qb11, qc11⟩ := isOf hZ e10 It10.1
  obtain ⟨_, T11, Lc11, X11, hQ11, st11⟩ := doneT X10 (X10.interfaceBack hx (C := "java/util/ArrayList$Itr") (xi := mn61) (y := mn56) hown (mvT hZ (tw hw 136 rfl)) (mvT hZ (tw hw 137 rfl)) (mvT hZ (tw hw 138 rfl)) (mvT hZ (tw hw 139 rfl)) (mvT hZ (tw hw 140 rfl)) (mvT hZ (tw hw 141 rfl)) (mvT hZ (tw hw 142 rfl)) (mvT hZ (tw hw 143 rfl)) (by decide) (backOf (W := 0) (rm_hnF l Z a0 hw [] it w te 1 1 mc h10 n0 Z10 It10 (I0.ext (ext_kept (ext_refl h0) K10 all0)) rfl (by decide)) hZ (tw hw 144 rfl) (tw hw 122 rfl) (by decide) (by decide)) qa11 qb11 qc11 (g := (mkF m 18 #[vr w, vr x, vr it, vi v0] [(.ref it)])) rfl (by rw [hml]; rfl) (Steps.refl _) (argsL := []) (rest := []) (lenOf pd14 rfl) rfl (by show 2 * 0 + _ ≤ _; exact Nat.le_of_eq rfl) (hb hby d5_18) (fun _ _ => ⟨rfl, e10, (by decide : 0 + 1 + 2 + 2 + 1 + 0 + 0 + 0 + 1 + 1 + 0 ≤ _), (by decide : 0 + 4 + (24 + 4) + 90 + 4 + 0 + 0 + 0 + 64 + 64 + 0 ≤ _)⟩))
  obtain ⟨rfl, N11, e11⟩ := hQ11
  have M11 := Fr.app M10 N11
  refine EndsK.tr st11 ?_
  refine EndsK.go (fun _ kz => XS.ifYes X11.here hx rfl (pc0 := 23) (pc' := 53) rfl (hb hby d5_23) rfl ((if0 _ _).trans (teq (rfl : (0 : Int32) = (0 : Int32))).1) (by decide) (by decide) (XS.aloadN X11.here hx rfl (hb hby d5_53) rfl rfl kz)) ?_
  obtain ⟨cq12, kq12, qa12, qb12, qc12⟩ := isOf hZ e11 S10.1
  obtain ⟨_, T12, Lc12, X12, hQ12, st12⟩ := doneT X11 (X11.virtualBack hx (y := mn36) (z := mn36) hown (mvT hZ (tw hw 149 rfl)) (mvT hZ (tw hw 150 rfl)) (notFace_of_selects (args := #[]) (mvT hZ (tw hw 152 rfl))) (mvT hZ (tw hw 152 rfl)) (mvT hZ (tw hw 151 rfl)) (by decide) (backOf (W := 0) (rm_tos l Z a0 hw [] zc x t10 N_10 F10 (6 + 1 + sl v0) h10 n0 Z10 (J.SC.ext (ext_kept EB K10 all0)) J.hzc S10) hZ (tw hw 153 rfl) (tw hw 32 rfl) (by decide) (by decide)) qa12 qc12 (g := (mkF m 54 #[vr w, vr x, vr it, vi v0] [(.ref x)])) rfl (by rw [hml]; rfl) (Steps.refl _) (argsL := []) (rest := []) (lenOf pd34 rfl) rfl (by show 2 * 0 + _ ≤ _; exact Nat.le_of_eq rfl) (hb hby d5_54) (fun _ _ => ⟨rfl, e11, (by decide : 0 + 1 + 2 + 2 + 1 + 0 + 0 + 0 + 1 + 1 + 0 + 2 ≤ _), (by decide : 0 + 4 + (24 + 4) + 90 + 4 + 0 + 0 + 0 + 64 + 64 + 0 + 72 ≤ _)⟩))
  obtain ⟨sa12, sb12, F12, rfl, N12, E12, Ea12, Fc12, Fv12, B12, q_f12⟩ := hQ12
  have M12 := Fr.app M11 N12
  obtain ⟨h12, e12⟩ : ∃ z, T12.heap = z := ⟨_, rfl⟩
  rw [e12] at E12 Ea12 Fc12 Fv12 B12
  have Z12 : n0 ≤ h12.size := Nat.le_trans Z10 E12.1
  have K12 := K10.ext E12
  have hk := Nat.le_trans hk E12.1
  refine EndsK.tr st12 ?_
  show EndsK p e below _ (T12.setTop (mkF m 57 #[vr w, vr x, vr it, vi v0] [(.ref sa12)]))
  exact endRW X12 hS (by rw [e12]; exact hk) hx Bd.returns rfl rfl (hb hby d5_57) hlk ⟨sa12, sb12, F12, rfl, M12, by rw [e12]; exact (ext_kept (ext_refl h0) K12 all0), by rw [e12]; exact Ea12, by rw [e12]; exact Fc12, by rw [e12]; exact Fv12, by rw [e12]; exact B12, fun j hj => (q_f12 j (by omega)).trans (W6_10 j hj), Sg0_10.mono (fun j hj => q_f12 j (by omega))⟩ (by decide) (by decide)
theorem ef_line2 (m : MethodId) (hB : Heap) (zc : Int32) (o : Addr) (d : Addr) (u : Value) (w : Addr) (te : Addr) (mc : Int32) (G : Nat → Addr) (b0 : Addr) (b1 : Addr) (v0 : Int32) (v1 : Int32) : entryFrame m #[(.ref w)] 4 = mkF m 0 #[vr w, .unset, .unset, .unset] [] := by first | (simp [entryFrame, mkF, argsToLocals, Value.category]; done) | rfl
def Q_line2 (Z : State) (hB : Heap) (zc : Int32) (o : Addr) (d : Addr) (u : Value) (w : Addr) (te : Addr) (mc : Int32) (G : Nat → Addr) (b0 : Addr) (b1 : Addr) (v0 : Int32) (v1 : Int32) (h0 : Heap) (n0 : Nat) (vz : Option Value) (hz : Heap) (Lz : List Loc) : Prop := ∃ (a b : Addr) (F : Nat → Int32), vz = some (.ref a) ∧ Fr n0 Lz ∧ Ext h0 hz ∧ Exa Z hz a "java/lang/String" ∧ Fld Z hz a "java/lang/String" "coder" "B" (.int (0 : Int32)) ∧ Fld Z hz a "java/lang/String" "value" "[B" (.ref b) ∧ Byt Z hz b (6 + 1 + sl v0 + 1 + sl v1) F ∧ (∀ j, j < 6 → F j = gW j) ∧ Sg F (6) v0 ∧ Sg F (6 + 1 + sl v0) v1
abbrev rr_line2 : Room := ({ frames := 9, cells := 14, slots := 600, locals := 172 } : Room)
set_option maxRecDepth 65536 in
set_option maxHeartbeats 40000000 in
theorem rm_line2 (l : Launch) (Z : State) (a0 : Array Value) (hw : ∀ d ∈ tables_1, d.before a0 Z = true) (ws : List Jvm.Cond) (hB : Heap) (zc : Int32) (o : Addr) (d : Addr) (u : Value) (w : Addr) (te : Addr) (mc : Int32) (G : Nat → Addr) (b0 : Addr) (b1 : Addr) (v0 : Int32) (v1 : Int32) (h0 : Heap) (n0 : Nat) (Z0 : n0 ≤ h0.size) (J : JS Z hB zc o d u) (EB : Ext hB h0) (hBn : hB.size ≤ n0) (I0 : LI Z h0 w te 2 mc) (B0 : Els Z h0 te 2 G) (hG0 : G 0 = b0) (Eb0 : Exa Z h0 b0 "java/lang/Integer") (Fb0 : Fld Z h0 b0 "java/lang/Integer" "value" "I" (.int v0)) (hG1 : G 1 = b1) (Eb1 : Exa Z h0 b1 "java/lang/Integer") (Fb1 : Fld Z h0 b1 "java/lang/Integer" "value" "I" (.int v1)) :
    MetFree l mn59 (head1 (Jvm.Cond.code mn59 prog_12_method_3_code 4 (some (.object "java/lang/String")) :: ws) rr_line2) (fun az Uz => az = #[(.ref w)] ∧ Z.Warmed39 Uz.vm ∧ Uz.heap = h0 ∧ CHv Z EL1 Uz.vm h0) (fun _ _ _ _ _ => True) (fun _ Uz oz Ut => ∃ vz Lz, oz = .returned vz ∧ Q_line2 Z hB zc o d u w te mc G b0 b1 v0 v1 h0 n0 vz Ut.heap Lz ∧ ReturnedEndW Uz oz Ut Lz (rr_line2).cells (rr_line2).slots) := by
  refine MetFree.of_bodySF (plainFor_of_name pn14) hisR ?_
  intro p e s m args below meth c s₁ Bd hml0 hP hK
  obtain ⟨rfl, hZ, hh, hCH⟩ := hP
  have hx := Bd.exec
  have hby := Bd.bytes
  have hml : c.maxLocals = 4 := hml0
  have hown : s.vm.findClass "com/example/guildtable/guildtable/table/Winners" = some m.cls := findClass_of_methodNamed Bd.named
  have hnm := (name_of_methodNamed Bd.named Bd.method).1
  have hlk : meth.locks = false := Bd.notSynchronized
  have X0 : Stand p l e rr_line2 s m #[(.ref w)] below meth c s₁ [] 0 0 := Stand.of_body Bd
  have e0 : s₁.heap = h0 := by rw [← hh, Bd.state]; rfl
  have N0 := Fr.nil n0
  show EndsK p e below (OW s (Q_line2 Z hB zc o d u w te mc G b0 b1 v0 v1 h0 n0) (rr_line2).cells (rr_line2).slots) (s₁.setTop (entryFrame m #[(.ref w)] 4))
  refine EndsK.start (ef_line2 m hB zc o d u w te mc G b0 b1 v0 v1) ?_
  have hEL : EW Z a0 EL1 := EW.cons (text := "winner") (tw hw 33 rfl) (by decide) EW.nil
  have wS : ∀ a ∈ Bundle.stringAtoms, a.before a0 Z = true := fun d hd => hw d ((by decide +kernel : ∀ d ∈ Bundle.stringAtoms, d ∈ tables_1) d hd)
  have hS := since0 s
  have hk : 0 ≤ h0.size := Nat.zero_le _
  have K0 : Keep h0 h0 [] := Keep.refl _ _
  have hsl0 := sl_le v0
  have hsl1 := sl_le v1
  obtain ⟨T1, h1, X1, e1, E1, A1, D1, -, st1⟩ := newO X0 hx hZ hown (tw hw 30 rfl) (tw hw 31 rfl) (tw hw 32 rfl) e0 (g := (mkF m 0 #[vr w, .unset, .unset, .unset] [])) rfl (hb hby d5_0) (by decide) (by decide)
  obtain ⟨x, g1⟩ : ∃ z, z = h0.size := ⟨_, rfl⟩
  rw [← g1] at A1 D1 st1
  refine EndsK.go st1 ?_
  have F1_coder : Fld Z h1 x "java/lang/AbstractStringBuilder" "coder" "B" (.int (0 : Int32)) := D1 (Or.inl (tw hw 67 rfl)) (ty := .byte) (by decide)
  have F1_value : Fld Z h1 x "java/lang/AbstractStringBuilder" "value" "[B" .null := D1 (Or.inl (tw hw 69 rfl)) (ty := (.array .byte)) (by decide)
  have F1_count : Fld Z h1 x "java/lang/AbstractStringBuilder" "count" "I" (.int (0 : Int32)) := D1 (Or.inl (tw hw 85 rfl)) (ty := .int) (by decide)
  have Z1 : n0 ≤ h1.size := Nat.le_trans Z0 E1.1
  have G1 : n0 ≤ x := by rw [g1]; exact Z0
  have K1 := K0.ext E1
  have sz_x : h0.size ≤ x := by rw [g1]; exact K0.1
  refine EndsK.go (fun _ kz => XS.dup X1.here hx rfl (hb hby d5_3) rfl rfl kz) ?_
  have hSf := Safe.ext (ext_kept (ext_refl h0) K1 all0) hCH (Safe.new (x := x) sz_x)
  have hCH := hCH.ext (ext_kept (ext_refl h0) K1 all0)
  have hlt : x < h1.size := A1.lt
  have hk : 0 ≤ h1.size := Nat.zero_le _
  obtain ⟨sa2, T2, h2, nn2, sb2, kb2, X2, e2, E2, hS, hk, hZ, hown, Ea2, Fc2, Fv2, Av2, -, -, Cr2, -, ne2, st2⟩ := ldcCH (s := s) (vm0 := s.vm) X1 hx hZ hown (tw hw 33 rfl) wS e1 hS hk hEL (List.mem_singleton.mpr rfl) hCH (vs := [.int 119, .int 105, .int 110, .int 110, .int 101, .int 114]) (z := 6) ⟨by decide, by first | rfl | decide⟩ (by decide) rfl (g := (mkF m 4 #[vr w, .unset, .unset, .unset] [(.ref x), (.ref x)])) rfl (hb hby d5_4) (n := 24) (by decide) (by decide) (by decide) (by decide)
  refine EndsK.go st2 ?_
  have E2_x := A1.ext E2
  have F2_coder_x := F1_coder.ext E2
  have F2_value_x := F1_value.ext E2
  have F2_count_x := F1_count.ext E2
  have hSf := Cr2.safe hlt hSf
  have nex := ne2 x hSf
  have Z2 : n0 ≤ h2.size := Nat.le_trans Z1 E2.1
  have K2 := K1.ext E2
  have Bs2 : Byt Z h2 sb2 6 gW := Byt.of_arv Av2 gW_at
  obtain ⟨_, T3, Lc3, X3, hQ3, st3⟩ := doneT X2 (X2.specialBack hx (y := mn22) rfl hown (mvT hZ (tw hw 41 rfl)) (mvT hZ (tw hw 42 rfl)) (mvT hZ (tw hw 43 rfl)) (by decide) (backOf (W := 1) (rm_sbI l Z a0 hw [] sa2 sb2 gW x zc h2 n0 Z2 (J.SC.ext (ext_kept EB K2 all0)) J.hzc Ea2 Fc2 Fv2 Bs2 E2_x F2_value_x F2_coder_x F2_count_x G1 (Ne.symm nex.1) (Ne.symm nex.2)) hZ (tw hw 43 rfl) (tw hw 32 rfl) (by decide) (by decide)) (g := (mkF m 6 #[vr w, .unset, .unset, .unset] [(.ref sa2), (.ref x), (.ref x)])) rfl (by rw [hml]; rfl) (Steps.refl _) (a := x) (argsL := [(.ref sa2)]) (rest := [(.ref x)]) (lenOf pd7 rfl) rfl (by show 2 * 0 + _ ≤ _; exact Nat.le_of_eq rfl) (hb hby d5_6) (fun _ _ => ⟨rfl, e2, (by decide : 0 + 1 + 2 + 2 ≤ _), (by decide : 0 + 4 + (24 + 4) + 90 ≤ _)⟩))
  obtain ⟨t3, F3, rfl, N3, Kc3, q_s3, S3, q_f3⟩ := hQ3
  have M3 := Fr.app N0 N3
  obtain ⟨h3, e3⟩ : ∃ z, T3.heap = z := ⟨_, rfl⟩
  rw [e3] at Kc3 S3
  have Z3 : n0 ≤ h3.size := Nat.le_trans Z2 Kc3.1
  have K3 := K2.trans Kc3 (allS (Or.inr sz_x) all0)
  have E3_x := E2_x.keep Kc3
  have sz_t3 : h0.size ≤ t3 := Nat.le_trans K2.1 q_s3
  have g_t3 : n0 ≤ t3 := Nat.le_trans Z2 q_s3
  have hk := Nat.le_trans hk Kc3.1
  have g_x := G1
  refine EndsK.tr st3 ?_
  refine EndsK.go (fun _ kz => XS.astoreN X3.here hx rfl (hb hby d5_9) rfl rfl (l' := #[vr w, vr x, .unset, .unset]) rfl (XS.aloadN X3.here hx rfl (hb hby d5_10) rfl rfl kz)) ?_
  obtain ⟨cq4, kq4, qa4, qb4, qc4⟩ := isOf hZ e3 (I0.1.ext (ext_kept (ext_refl h0) K3 all0))
  obtain ⟨_, T4, Lc4, X4, hQ4, st4⟩ := doneT X3 (X3.interfaceBack hx (C := "java/util/ArrayList") (xi := mn60) (y := mn55) hown (mvT hZ (tw hw 111 rfl)) (mvT hZ (tw hw 112 rfl)) (mvT hZ (tw hw 113 rfl)) (mvT hZ (tw hw 114 rfl)) (mvT hZ (tw hw 115 rfl)) (mvT hZ (tw hw 116 rfl)) (mvT hZ (tw hw 117 rfl)) (mvT hZ (tw hw 118 rfl)) (by decide) (backOf (W := 0) (rm_itr l Z a0 hw [] w mc h3 n0 Z3 (I0.2.2.2.ext (ext_kept (ext_refl h0) K3 all0))) hZ (tw hw 119 rfl) (tw hw 2 rfl) (by decide) (by decide)) qa4 qb4 qc4 (g := (mkF m 11 #[vr w, vr x, .unset, .unset] [(.ref w)])) rfl (by rw [hml]; rfl) (Steps.refl _) (argsL := []) (rest := []) (lenOf pd33 rfl) rfl (by show 2 * 0 + _ ≤ _; exact Nat.le_of_eq rfl) (hb hby d5_11) (fun _ _ => ⟨rfl, e3, (by decide : 0 + 1 + 2 + 2 + 1 ≤ _), (by decide : 0 + 4 + (24 + 4) + 90 + 4 ≤ _)⟩))
  obtain ⟨it, rfl, N4, E4, q_s4, It4⟩ := hQ4
  have M4 := Fr.app M3 N4
  obtain ⟨h4, e4⟩ : ∃ z, T4.heap = z := ⟨_, rfl⟩
  rw [e4] at E4 It4
  have Z4 : n0 ≤ h4.size := Nat.le_trans Z3 E4.1
  have K4 := K3.ext E4
  have sz_it : h0.size ≤ it := Nat.le_trans K3.1 q_s4
  have g_it : n0 ≤ it := Nat.le_trans Z3 q_s4
  have nxi : x ≠ it := Nat.ne_of_lt (Nat.lt_of_lt_of_le S3.1.lt q_s4)
  have nti_t3 : t3 ≠ it := Nat.ne_of_lt (Nat.lt_of_lt_of_le S3.2.2.2.2.1.lt q_s4)
  have nwi : w ≠ it := Nat.ne_of_lt (Nat.lt_of_lt_of_le I0.1.lt sz_it)
  have S4 := S3.ext E4
  have hk := Nat.le_trans hk E4.1
  have ntei : te ≠ it := Nat.ne_of_lt (Nat.lt_of_lt_of_le B0.lt sz_it)
  refine EndsK.tr st4 ?_
  refine EndsK.go (fun _ kz => XS.astoreN X4.here hx rfl (hb hby d5_16) rfl rfl (l' := #[vr w, vr x, vr it, .unset]) rfl (XS.aloadN X4.here hx rfl (hb hby d5_17) rfl rfl kz)) ?_
  obtain ⟨cq5, kq5, qa5, qb5, qc5⟩ := isOf hZ e4 It4.1
  obtain ⟨_, T5, Lc5, X5, hQ5, st5⟩ := doneT X4 (X4.interfaceBack hx (C := "java/util/ArrayList$Itr") (xi := mn61) (y := mn56) hown (mvT hZ (tw hw 136 rfl)) (mvT hZ (tw hw 137 rfl)) (mvT hZ (tw hw 138 rfl)) (mvT hZ (tw hw 139 rfl)) (mvT hZ (tw hw 140 rfl)) (mvT hZ (tw hw 141 rfl)) (mvT hZ (tw hw 142 rfl)) (mvT hZ (tw hw 143 rfl)) (by decide) (backOf (W := 0) (rm_hnT l Z a0 hw [] it w te 0 2 mc h4 n0 Z4 It4 (I0.ext (ext_kept (ext_refl h0) K4 all0)) (by decide) (by decide)) hZ (tw hw 144 rfl) (tw hw 122 rfl) (by decide) (by decide)) qa5 qb5 qc5 (g := (mkF m 18 #[vr w, vr x, vr it, .unset] [(.ref it)])) rfl (by rw [hml]; rfl) (Steps.refl _) (argsL := []) (rest := []) (lenOf pd14 rfl) rfl (by show 2 * 0 + _ ≤ _; exact Nat.le_of_eq rfl) (hb hby d5_18) (fun _ _ => ⟨rfl, e4, (by decide : 0 + 1 + 2 + 2 + 1 + 0 ≤ _), (by decide : 0 + 4 + (24 + 4) + 90 + 4 + 0 ≤ _)⟩))
  obtain ⟨rfl, N5, e5⟩ := hQ5
  have M5 := Fr.app M4 N5
  refine EndsK.tr st5 ?_
  refine EndsK.go (fun _ kz => XS.ifNo X5.here hx rfl (hb hby d5_23) rfl ((if0 _ _).trans (feq (by decide : ¬ ((1 : Int32) = (0 : Int32)))).1) (XS.aloadN X5.here hx rfl (hb hby d5_26) rfl rfl kz)) ?_
  obtain ⟨cq6, kq6, qa6, qb6, qc6⟩ := isOf hZ e5 It4.1
  obtain ⟨_, T6, Lc6, X6, hQ6, st6⟩ := doneT X5 (X5.interfaceBack hx (C := "java/util/ArrayList$Itr") (xi := mn62) (y := mn58) hown (mvT hZ (tw hw 271 rfl)) (mvT hZ (tw hw 272 rfl)) (mvT hZ (tw hw 273 rfl)) (mvT hZ (tw hw 274 rfl)) (mvT hZ (tw hw 275 rfl)) (mvT hZ (tw hw 276 rfl)) (mvT hZ (tw hw 277 rfl)) (mvT hZ (tw hw 143 rfl)) (by decide) (backOf (W := 0) (rm_nx l Z a0 hw [] it w te 0 2 mc G b0 h4 n0 Z4 It4 (I0.ext (ext_kept (ext_refl h0) K4 all0)) (B0.ext (ext_kept (ext_refl h0) K4 all0)) (by decide) (by decide) hG0 g_it nwi ntei) hZ (tw hw 278 rfl) (tw hw 122 rfl) (by decide) (by decide)) qa6 qb6 qc6 (g := (mkF m 27 #[vr w, vr x, vr it, .unset] [(.ref it)])) rfl (by rw [hml]; rfl) (Steps.refl _) (argsL := []) (rest := []) (lenOf pd35 rfl) rfl (by show 2 * 0 + _ ≤ _; exact Nat.le_of_eq rfl) (hb hby d5_27) (fun _ _ => ⟨rfl, e5, (by decide : 0 + 1 + 2 + 2 + 1 + 0 + 0 ≤ _), (by decide : 0 + 4 + (24 + 4) + 90 + 4 + 0 + 0 ≤ _)⟩))
  obtain ⟨rfl, N6, Kc6, It6⟩ := hQ6
  have M6 := Fr.app M5 N6
  obtain ⟨h6, e6⟩ : ∃ z, T6.heap = z := ⟨_, rfl⟩
  rw [e6] at Kc6 It6
  have Z6 : n0 ≤ h6.size := Nat.le_trans Z4 Kc6.1
  have K6 := K4.trans Kc6 (allS (Or.inr sz_it) all0)
  have S6 := S4.keep Kc6 (ninS nxi nin0) (ninS nti_t3 nin0)
  have hk := Nat.le_trans hk Kc6.1
  refine EndsK.tr st6 ?_
  obtain ⟨T7, X7, e7, st7⟩ := castY X6 hx hZ hown (tw hw 285 rfl) e6 (Ins.self (Eb0.ext (ext_kept (ext_refl h0) K6 all0))) (g := (mkF m 32 #[vr w, vr x, vr it, .unset] [(.ref b0)])) rfl rfl (hb hby d5_32)
  refine EndsK.go st7 ?_
  obtain ⟨cq8, kq8, qa8, qb8, qc8⟩ := isOf hZ e7 (Eb0.ext (ext_kept (ext_refl h0) K6 all0))
  obtain ⟨_, T8, Lc8, X8, hQ8, st8⟩ := doneT X7 (X7.virtualBack hx (y := mn47) (z := mn47) hown (mvT hZ (tw hw 286 rfl)) (mvT hZ (tw hw 287 rfl)) (notFace_of_selects (args := #[]) (mvT hZ (tw hw 289 rfl))) (mvT hZ (tw hw 289 rfl)) (mvT hZ (tw hw 288 rfl)) (by decide) (backOf (W := 0) (rm_iv l Z a0 hw [] b0 v0 h6 n0 Z6 (Fb0.ext (ext_kept (ext_refl h0) K6 all0))) hZ (tw hw 290 rfl) (tw hw 221 rfl) (by decide) (by decide)) qa8 qc8 (g := (mkF m 35 #[vr w, vr x, vr it, .unset] [(.ref b0)])) rfl (by rw [hml]; rfl) (Steps.refl _) (argsL := []) (rest := []) (lenOf pd9 rfl) rfl (by show 2 * 0 + _ ≤ _; exact Nat.le_of_eq rfl) (hb hby d5_35) (fun _ _ => ⟨rfl, e7, (by decide : 0 + 1 + 2 + 2 + 1 + 0 + 0 + 0 ≤ _), (by decide : 0 + 4 + (24 + 4) + 90 + 4 + 0 + 0 + 0 ≤ _)⟩))
  obtain ⟨rfl, N8, e8⟩ := hQ8
  have M8 := Fr.app M6 N8
  refine EndsK.tr st8 ?_
  refine EndsK.go (fun _ kz => XS.istoreN X8.here hx rfl (hb hby d5_38) rfl (l' := #[vr w, vr x, vr it, vi v0]) rfl (XS.aloadN X8.here hx rfl (hb hby d5_39) rfl rfl (XS.bipush X8.here hx rfl (hb hby d5_40) kz))) ?_
  obtain ⟨cq9, kq9, qa9, qb9, qc9⟩ := isOf hZ e8 S6.1
  obtain ⟨_, T9, Lc9, X9, hQ9, st9⟩ := doneT X8 (X8.virtualBack hx (y := mn24) (z := mn24) hown (mvT hZ (tw hw 291 rfl)) (mvT hZ (tw hw 292 rfl)) (notFace_of_selects (args := #[]) (mvT hZ (tw hw 294 rfl))) (mvT hZ (tw hw 294 rfl)) (mvT hZ (tw hw 293 rfl)) (by decide) (backOf (W := 0) (rm_apC2 l Z a0 hw [] hB zc o d u x t3 22 F3 (6) h6 n0 Z6 J (ext_kept EB K6 all0) hBn S6 g_x g_t3 (by omega)) hZ (tw hw 295 rfl) (tw hw 32 rfl) (by decide) (by decide)) qa9 qc9 (g := (mkF m 42 #[vr w, vr x, vr it, vi v0] [(.int (32 : Int32)), (.ref x)])) rfl (by rw [hml]; rfl) (Steps.refl _) (argsL := [(.int (32 : Int32))]) (rest := []) (lenOf pd36 rfl) rfl (by show 2 * 0 + _ ≤ _; exact Nat.le_of_eq rfl) (hb hby d5_42) (fun _ _ => ⟨rfl, e8, (by decide : 0 + 1 + 2 + 2 + 1 + 0 + 0 + 0 + 1 ≤ _), (by decide : 0 + 4 + (24 + 4) + 90 + 4 + 0 + 0 + 0 + 64 ≤ _)⟩))
  obtain ⟨t9, N_9, F9, rfl, N9, Kc9, q_t9, S9, q_f9, q_c9⟩ := hQ9
  have M9 := Fr.app M8 N9
  obtain ⟨h9, e9⟩ : ∃ z, T9.heap = z := ⟨_, rfl⟩
  rw [e9] at Kc9 S9
  have Z9 : n0 ≤ h9.size := Nat.le_trans Z6 Kc9.1
  have K9 := K6.trans Kc9 (allS (Or.inr sz_x) (allS (Or.inr sz_t3) all0))
  have It9 := It6.keep Kc9 (ninS (Ne.symm nxi) (ninS (Ne.symm nti_t3) nin0))
  have sz_t9 : h0.size ≤ t9 := q_t9.elim (fun q => by rw [q]; exact sz_t3) (fun q => Nat.le_trans K6.1 q)
  have g_t9 : n0 ≤ t9 := q_t9.elim (fun q => by rw [q]; exact g_t3) (fun q => Nat.le_trans Z6 q)
  have nti_t9 : t9 ≠ it := q_t9.elim (fun q => by rw [q]; exact nti_t3) (fun q => Ne.symm (Nat.ne_of_lt (Nat.lt_of_lt_of_le It6.1.lt q)))
  have hk := Nat.le_trans hk Kc9.1
  have W6_9 : ∀ j, j < 6 → F9 j = gW j := fun j hj => (q_f9 j (by omega)).trans (q_f3 j hj)
  refine EndsK.tr st9 ?_
  refine EndsK.go (fun _ kz => XS.iloadN X9.here hx rfl (hb hby d5_45) rfl kz) ?_
  obtain ⟨cq10, kq10, qa10, qb10, qc10⟩ := isOf hZ e9 S9.1
  obtain ⟨_, T10, Lc10, X10, hQ10, st10⟩ := doneT X9 (X9.virtualBack hx (y := mn27) (z := mn27) hown (mvT hZ (tw hw 304 rfl)) (mvT hZ (tw hw 305 rfl)) (notFace_of_selects (args := #[]) (mvT hZ (tw hw 307 rfl))) (mvT hZ (tw hw 307 rfl)) (mvT hZ (tw hw 306 rfl)) (by decide) (backOf (W := 0) (rm_apI2 l Z a0 hw [] hB zc o d u x t9 N_9 F9 (6 + 1) v0 h9 n0 Z9 J (ext_kept EB K9 all0) hBn S9 g_x g_t9 (by omega)) hZ (tw hw 308 rfl) (tw hw 32 rfl) (by decide) (by decide)) qa10 qc10 (g := (mkF m 46 #[vr w, vr x, vr it, vi v0] [(.int v0), (.ref x)])) rfl (by rw [hml]; rfl) (Steps.refl _) (argsL := [(.int v0)]) (rest := []) (lenOf pd37 rfl) rfl (by show 2 * 0 + _ ≤ _; exact Nat.le_of_eq rfl) (hb hby d5_46) (fun _ _ => ⟨rfl, e9, (by decide : 0 + 1 + 2 + 2 + 1 + 0 + 0 + 0 + 1 + 1 ≤ _), (by decide : 0 + 4 + (24 + 4) + 90 + 4 + 0 + 0 + 0 + 64 + 64 ≤ _)⟩))
  obtain ⟨t10, N_10, F10, rfl, N10, Kc10, q_t10, S10, q_f10, q_c10⟩ := hQ10
  have M10 := Fr.app M9 N10
  obtain ⟨h10, e10⟩ : ∃ z, T10.heap = z := ⟨_, rfl⟩
  rw [e10] at Kc10 S10
  have Z10 : n0 ≤ h10.size := Nat.le_trans Z9 Kc10.1
  have K10 := K9.trans Kc10 (allS (Or.inr sz_x) (allS (Or.inr sz_t9) all0))
  have It10 := It9.keep Kc10 (ninS (Ne.symm nxi) (ninS (Ne.symm nti_t9) nin0))
  have sz_t10 : h0.size ≤ t10 := q_t10.elim (fun q => by rw [q]; exact sz_t9) (fun q => Nat.le_trans K9.1 q)
  have g_t10 : n0 ≤ t10 := q_t10.elim (fun q => by rw [q]; exact g_t9) (fun q => Nat.le_trans Z9 q)
  have nti_t10 : t10 ≠ it := q_t10.elim (fun q => by rw [q]; exact nti_t9) (fun q => Ne.symm (Nat.ne_of_lt (Nat.lt_of_lt_of_le It9.1.lt q)))
  have hk := Nat.le_trans hk Kc10.1
  have W6_10 : ∀ j, j < 6 → F10 j = gW j := fun j hj => (q_f10 j (by omega)).trans (W6_9 j hj)
  have Sg0_10 : Sg F10 (6) v0 := ⟨(q_f10 _ (by omega)).trans q_c9, q_c10⟩
  refine EndsK.tr st10 ?_
  refine EndsK.go (fun _ kz => XS.pop X10.here hx rfl (hb hby d5_49) rfl rfl (XS.goto X10.here hx rfl (pc0 := 50) (pc' := 17) rfl (hb hby d5_50) (by decide) (by decide) (XS.aloadN X10.here hx rfl (hb hby d5_17) rfl rfl kz))) ?_
  obtain ⟨cq11, kq11, qa11, qb11, qc11⟩ := isOf hZ e10 It10.1
  obtain ⟨_, T11, Lc11, X11, hQ11, st11⟩ := doneT X10 (X10.interfaceBack hx (C := "java/util/ArrayList$Itr") (xi := mn61) (y := mn56) hown (mvT hZ (tw hw 136 rfl)) (mvT hZ (tw hw 137 rfl)) (mvT hZ (tw hw 138 rfl)) (mvT hZ (tw hw 139 rfl)) (mvT hZ (tw hw 140 rfl)) (mvT hZ (tw hw 141 rfl)) (mvT hZ (tw hw 142 rfl)) (mvT hZ (tw hw 143 rfl)) (by decide) (backOf (W := 0) (rm_hnT l Z a0 hw [] it w te 1 2 mc h10 n0 Z10 It10 (I0.ext (ext_kept (ext_refl h0) K10 all0)) (by decide) (by decide)) hZ (tw hw 144 rfl) (tw hw 122 rfl) (by decide) (by decide)) qa11 qb11 qc11 (g := (mkF m 18 #[vr w, vr x, vr it, vi v0] [(.ref it)])) rfl (by rw [hml]; rfl) (Steps.refl _) (argsL := []) (rest := []) (lenOf pd14 rfl) rfl (by show 2 * 0 + _ ≤ _; exact Nat.le_of_eq rfl) (hb hby d5_18) (fun _ _ => ⟨rfl, e10, (by decide : 0 + 1 + 2 + 2 + 1 + 0 + 0 + 0 + 1 + 1 + 0 ≤ _), (by decide : 0 + 4 + (24 + 4) + 90 + 4 + 0 + 0 + 0 + 64 + 64 + 0 ≤ _)⟩))
  obtain ⟨rfl, N11, e11⟩ := hQ11
  have M11 := Fr.app M10 N11
  refine EndsK.tr st11 ?_
  refine EndsK.go (fun _ kz => XS.ifNo X11.here hx rfl (hb hby d5_23) rfl ((if0 _ _).trans (feq (by decide : ¬ ((1 : Int32) = (0 : Int32)))).1) (XS.aloadN X11.here hx rfl (hb hby d5_26) rfl rfl kz)) ?_
  obtain ⟨cq12, kq12, qa12, qb12, qc12⟩ := isOf hZ e11 It10.1
  obtain ⟨_, T12, Lc12, X12, hQ12, st12⟩ := doneT X11 (X11.interfaceBack hx (C := "java/util/ArrayList$Itr") (xi := mn62) (y := mn58) hown (mvT hZ (tw hw 271 rfl)) (mvT hZ (tw hw 272 rfl)) (mvT hZ (tw hw 273 rfl)) (mvT hZ (tw hw 274 rfl)) (mvT hZ (tw hw 275 rfl)) (mvT hZ (tw hw 276 rfl)) (mvT hZ (tw hw 277 rfl)) (mvT hZ (tw hw 143 rfl)) (by decide) (backOf (W := 0) (rm_nx l Z a0 hw [] it w te 1 2 mc G b1 h10 n0 Z10 It10 (I0.ext (ext_kept (ext_refl h0) K10 all0)) (B0.ext (ext_kept (ext_refl h0) K10 all0)) (by decide) (by decide) hG1 g_it nwi ntei) hZ (tw hw 278 rfl) (tw hw 122 rfl) (by decide) (by decide)) qa12 qb12 qc12 (g := (mkF m 27 #[vr w, vr x, vr it, vi v0] [(.ref it)])) rfl (by rw [hml]; rfl) (Steps.refl _) (argsL := []) (rest := []) (lenOf pd35 rfl) rfl (by show 2 * 0 + _ ≤ _; exact Nat.le_of_eq rfl) (hb hby d5_27) (fun _ _ => ⟨rfl, e11, (by decide : 0 + 1 + 2 + 2 + 1 + 0 + 0 + 0 + 1 + 1 + 0 + 0 ≤ _), (by decide : 0 + 4 + (24 + 4) + 90 + 4 + 0 + 0 + 0 + 64 + 64 + 0 + 0 ≤ _)⟩))
  obtain ⟨rfl, N12, Kc12, It12⟩ := hQ12
  have M12 := Fr.app M11 N12
  obtain ⟨h12, e12⟩ : ∃ z, T12.heap = z := ⟨_, rfl⟩
  rw [e12] at Kc12 It12
  have Z12 : n0 ≤ h12.size := Nat.le_trans Z10 Kc12.1
  have K12 := K10.trans Kc12 (allS (Or.inr sz_it) all0)
  have S12 := S10.keep Kc12 (ninS nxi nin0) (ninS nti_t10 nin0)
  have hk := Nat.le_trans hk Kc12.1
  refine EndsK.tr st12 ?_
  obtain ⟨T13, X13, e13, st13⟩ := castY X12 hx hZ hown (tw hw 285 rfl) e12 (Ins.self (Eb1.ext (ext_kept (ext_refl h0) K12 all0))) (g := (mkF m 32 #[vr w, vr x, vr it, vi v0] [(.ref b1)])) rfl rfl (hb hby d5_32)
  refine EndsK.go st13 ?_
  obtain ⟨cq14, kq14, qa14, qb14, qc14⟩ := isOf hZ e13 (Eb1.ext (ext_kept (ext_refl h0) K12 all0))
  obtain ⟨_, T14, Lc14, X14, hQ14, st14⟩ := doneT X13 (X13.virtualBack hx (y := mn47) (z := mn47) hown (mvT hZ (tw hw 286 rfl)) (mvT hZ (tw hw 287 rfl)) (notFace_of_selects (args := #[]) (mvT hZ (tw hw 289 rfl))) (mvT hZ (tw hw 289 rfl)) (mvT hZ (tw hw 288 rfl)) (by decide) (backOf (W := 0) (rm_iv l Z a0 hw [] b1 v1 h12 n0 Z12 (Fb1.ext (ext_kept (ext_refl h0) K12 all0))) hZ (tw hw 290 rfl) (tw hw 221 rfl) (by decide) (by decide)) qa14 qc14 (g := (mkF m 35 #[vr w, vr x, vr it, vi v0] [(.ref b1)])) rfl (by rw [hml]; rfl) (Steps.refl _) (argsL := []) (rest := []) (lenOf pd9 rfl) rfl (by show 2 * 0 + _ ≤ _; exact Nat.le_of_eq rfl) (hb hby d5_35) (fun _ _ => ⟨rfl, e13, (by decide : 0 + 1 + 2 + 2 + 1 + 0 + 0 + 0 + 1 + 1 + 0 + 0 + 0 ≤ _), (by decide : 0 + 4 + (24 + 4) + 90 + 4 + 0 + 0 + 0 + 64 + 64 + 0 + 0 + 0 ≤ _)⟩))
  obtain ⟨rfl, N14, e14⟩ := hQ14
  have M14 := Fr.app M12 N14
  refine EndsK.tr st14 ?_
  refine EndsK.go (fun _ kz => XS.istoreN X14.here hx rfl (hb hby d5_38) rfl (l' := #[vr w, vr x, vr it, vi v1]) rfl (XS.aloadN X14.here hx rfl (hb hby d5_39) rfl rfl (XS.bipush X14.here hx rfl (hb hby d5_40) kz))) ?_
  obtain ⟨cq15, kq15, qa15, qb15, qc15⟩ := isOf hZ e14 S12.1
  obtain ⟨_, T15, Lc15, X15, hQ15, st15⟩ := doneT X14 (X14.virtualBack hx (y := mn24) (z := mn24) hown (mvT hZ (tw hw 291 rfl)) (mvT hZ (tw hw 292 rfl)) (notFace_of_selects (args := #[]) (mvT hZ (tw hw 294 rfl))) (mvT hZ (tw hw 294 rfl)) (mvT hZ (tw hw 293 rfl)) (by decide) (backOf (W := 0) (rm_apC2 l Z a0 hw [] hB zc o d u x t10 N_10 F10 (6 + 1 + sl v0) h12 n0 Z12 J (ext_kept EB K12 all0) hBn S12 g_x g_t10 (by omega)) hZ (tw hw 295 rfl) (tw hw 32 rfl) (by decide) (by decide)) qa15 qc15 (g := (mkF m 42 #[vr w, vr x, vr it, vi v1] [(.int (32 : Int32)), (.ref x)])) rfl (by rw [hml]; rfl) (Steps.refl _) (argsL := [(.int (32 : Int32))]) (rest := []) (lenOf pd36 rfl) rfl (by show 2 * 0 + _ ≤ _; exact Nat.le_of_eq rfl) (hb hby d5_42) (fun _ _ => ⟨rfl, e14, (by decide : 0 + 1 + 2 + 2 + 1 + 0 + 0 + 0 + 1 + 1 + 0 + 0 + 0 + 1 ≤ _), (by decide : 0 + 4 + (24 + 4) + 90 + 4 + 0 + 0 + 0 + 64 + 64 + 0 + 0 + 0 + 64 ≤ _)⟩))
  obtain ⟨t15, N_15, F15, rfl, N15, Kc15, q_t15, S15, q_f15, q_c15⟩ := hQ15
  have M15 := Fr.app M14 N15
  obtain ⟨h15, e15⟩ : ∃ z, T15.heap = z := ⟨_, rfl⟩
  rw [e15] at Kc15 S15
  have Z15 : n0 ≤ h15.size := Nat.le_trans Z12 Kc15.1
  have K15 := K12.trans Kc15 (allS (Or.inr sz_x) (allS (Or.inr sz_t10) all0))
  have It15 := It12.keep Kc15 (ninS (Ne.symm nxi) (ninS (Ne.symm nti_t10) nin0))
  have sz_t15 : h0.size ≤ t15 := q_t15.elim (fun q => by rw [q]; exact sz_t10) (fun q => Nat.le_trans K12.1 q)
  have g_t15 : n0 ≤ t15 := q_t15.elim (fun q => by rw [q]; exact g_t10) (fun q => Nat.le_trans Z12 q)
  have nti_t15 : t15 ≠ it := q_t15.elim (fun q => by rw [q]; exact nti_t10) (fun q => Ne.symm (Nat.ne_of_lt (Nat.lt_of_lt_of_le It12.1.lt q)))
  have hk := Nat.le_trans hk Kc15.1
  have W6_15 : ∀ j, j < 6 → F15 j = gW j := fun j hj => (q_f15 j (by omega)).trans (W6_10 j hj)
  have Sg0_15 : Sg F15 (6) v0 := Sg0_10.mono (fun j hj => q_f15 j (by omega))
  refine EndsK.tr st15 ?_
  refine EndsK.go (fun _ kz => XS.iloadN X15.here hx rfl (hb hby d5_45) rfl kz) ?_
  obtain ⟨cq16, kq16, qa16, qb16, qc16⟩ := isOf hZ e15 S15.1
  obtain ⟨_, T16, Lc16, X16, hQ16, st16⟩ := doneT X15 (X15.virtualBack hx (y := mn27) (z := mn27) hown (mvT hZ (tw hw 304 rfl)) (mvT hZ (tw hw 305 rfl)) (notFace_of_selects (args := #[]) (mvT hZ (tw hw 307 rfl))) (mvT hZ (tw hw 307 rfl)) (mvT hZ (tw hw 306 rfl)) (by decide) (backOf (W := 0) (rm_apI2 l Z a0 hw [] hB zc o d u x t15 N_15 F15 (6 + 1 + sl v0 + 1) v1 h15 n0 Z15 J (ext_kept EB K15 all0) hBn S15 g_x g_t15 (by omega)) hZ (tw hw 308 rfl) (tw hw 32 rfl) (by decide) (by decide)) qa16 qc16 (g := (mkF m 46 #[vr w, vr x, vr it, vi v1] [(.int v1), (.ref x)])) rfl (by rw [hml]; rfl) (Steps.refl _) (argsL := [(.int v1)]) (rest := []) (lenOf pd37 rfl) rfl (by show 2 * 0 + _ ≤ _; exact Nat.le_of_eq rfl) (hb hby d5_46) (fun _ _ => ⟨rfl, e15, (by decide : 0 + 1 + 2 + 2 + 1 + 0 + 0 + 0 + 1 + 1 + 0 + 0 + 0 + 1 + 1 ≤ _), (by decide : 0 + 4 + (24 + 4) + 90 + 4 + 0 + 0 + 0 + 64 + 64 + 0 + 0 + 0 + 64 + 64 ≤ _)⟩))
  obtain ⟨t16, N_16, F16, rfl, N16, Kc16, q_t16, S16, q_f16, q_c16⟩ := hQ16
  have M16 := Fr.app M15 N16
  obtain ⟨h16, e16⟩ : ∃ z, T16.heap = z := ⟨_, rfl⟩
  rw [e16] at Kc16 S16
  have Z16 : n0 ≤ h16.size := Nat.le_trans Z15 Kc16.1
  have K16 := K15.trans Kc16 (allS (Or.inr sz_x) (allS (Or.inr sz_t15) all0))
  have It16 := It15.keep Kc16 (ninS (Ne.symm nxi) (ninS (Ne.symm nti_t15) nin0))
  have sz_t16 : h0.size ≤ t16 := q_t16.elim (fun q => by rw [q]; exact sz_t15) (fun q => Nat.le_trans K15.1 q)
  have g_t16 : n0 ≤ t16 := q_t16.elim (fun q => by rw [q]; exact g_t15) (fun q => Nat.le_trans Z15 q)
  have nti_t16 : t16 ≠ it := q_t16.elim (fun q => by rw [q]; exact nti_t15) (fun q => Ne.symm (Nat.ne_of_lt (Nat.lt_of_lt_of_le It15.1.lt q)))
  have hk := Nat.le_trans hk Kc16.1
  have W6_16 : ∀ j, j < 6 → F16 j = gW j := fun j hj => (q_f16 j (by omega)).trans (W6_15 j hj)
  have Sg0_16 : Sg F16 (6) v0 := Sg0_15.mono (fun j hj => q_f16 j (by omega))
  have Sg1_16 : Sg F16 (6 + 1 + sl v0) v1 := ⟨(q_f16 _ (by omega)).trans q_c15, q_c16⟩
  refine EndsK.tr st16 ?_
  refine EndsK.go (fun _ kz => XS.pop X16.here hx rfl (hb hby d5_49) rfl rfl (XS.goto X16.here hx rfl (pc0 := 50) (pc' := 17) rfl (hb hby d5_50) (by decide) (by decide) (XS.aloadN X16.here hx rfl (hb hby d5_17) rfl rfl kz))) ?_
  obtain ⟨cq17, kq17, qa17, qb17, qc17⟩ := isOf hZ e16 It16.1
  obtain ⟨_, T17, Lc17, X17, hQ17, st17⟩ := doneT X16 (X16.interfaceBack hx (C := "java/util/ArrayList$Itr") (xi := mn61) (y := mn56) hown (mvT hZ (tw hw 136 rfl)) (mvT hZ (tw hw 137 rfl)) (mvT hZ (tw hw 138 rfl)) (mvT hZ (tw hw 139 rfl)) (mvT hZ (tw hw 140 rfl)) (mvT hZ (tw hw 141 rfl)) (mvT hZ (tw hw 142 rfl)) (mvT hZ (tw hw 143 rfl)) (by decide) (backOf (W := 0) (rm_hnF l Z a0 hw [] it w te 2 2 mc h16 n0 Z16 It16 (I0.ext (ext_kept (ext_refl h0) K16 all0)) rfl (by decide)) hZ (tw hw 144 rfl) (tw hw 122 rfl) (by decide) (by decide)) qa17 qb17 qc17 (g := (mkF m 18 #[vr w, vr x, vr it, vi v1] [(.ref it)])) rfl (by rw [hml]; rfl) (Steps.refl _) (argsL := []) (rest := []) (lenOf pd14 rfl) rfl (by show 2 * 0 + _ ≤ _; exact Nat.le_of_eq rfl) (hb hby d5_18) (fun _ _ => ⟨rfl, e16, (by decide : 0 + 1 + 2 + 2 + 1 + 0 + 0 + 0 + 1 + 1 + 0 + 0 + 0 + 1 + 1 + 0 ≤ _), (by decide : 0 + 4 + (24 + 4) + 90 + 4 + 0 + 0 + 0 + 64 + 64 + 0 + 0 + 0 + 64 + 64 + 0 ≤ _)⟩))
  obtain ⟨rfl, N17, e17⟩ := hQ17
  have M17 := Fr.app M16 N17
  refine EndsK.tr st17 ?_
  refine EndsK.go (fun _ kz => XS.ifYes X17.here hx rfl (pc0 := 23) (pc' := 53) rfl (hb hby d5_23) rfl ((if0 _ _).trans (teq (rfl : (0 : Int32) = (0 : Int32))).1) (by decide) (by decide) (XS.aloadN X17.here hx rfl (hb hby d5_53) rfl rfl kz)) ?_
  obtain ⟨cq18, kq18, qa18, qb18, qc18⟩ := isOf hZ e17 S16.1
  obtain ⟨_, T18, Lc18, X18, hQ18, st18⟩ := doneT X17 (X17.virtualBack hx (y := mn36) (z := mn36) hown (mvT hZ (tw hw 149 rfl)) (mvT hZ (tw hw 150 rfl)) (notFace_of_selects (args := #[]) (mvT hZ (tw hw 152 rfl))) (mvT hZ (tw hw 152 rfl)) (mvT hZ (tw hw 151 rfl)) (by decide) (backOf (W := 0) (rm_tos l Z a0 hw [] zc x t16 N_16 F16 (6 + 1 + sl v0 + 1 + sl v1) h16 n0 Z16 (J.SC.ext (ext_kept EB K16 all0)) J.hzc S16) hZ (tw hw 153 rfl) (tw hw 32 rfl) (by decide) (by decide)) qa18 qc18 (g := (mkF m 54 #[vr w, vr x, vr it, vi v1] [(.ref x)])) rfl (by rw [hml]; rfl) (Steps.refl _) (argsL := []) (rest := []) (lenOf pd34 rfl) rfl (by show 2 * 0 + _ ≤ _; exact Nat.le_of_eq rfl) (hb hby d5_54) (fun _ _ => ⟨rfl, e17, (by decide : 0 + 1 + 2 + 2 + 1 + 0 + 0 + 0 + 1 + 1 + 0 + 0 + 0 + 1 + 1 + 0 + 2 ≤ _), (by decide : 0 + 4 + (24 + 4) + 90 + 4 + 0 + 0 + 0 + 64 + 64 + 0 + 0 + 0 + 64 + 64 + 0 + 72 ≤ _)⟩))
  obtain ⟨sa18, sb18, F18, rfl, N18, E18, Ea18, Fc18, Fv18, B18, q_f18⟩ := hQ18
  have M18 := Fr.app M17 N18
  obtain ⟨h18, e18⟩ : ∃ z, T18.heap = z := ⟨_, rfl⟩
  rw [e18] at E18 Ea18 Fc18 Fv18 B18
  have Z18 : n0 ≤ h18.size := Nat.le_trans Z16 E18.1
  have K18 := K16.ext E18
  have hk := Nat.le_trans hk E18.1
  refine EndsK.tr st18 ?_
  show EndsK p e below _ (T18.setTop (mkF m 57 #[vr w, vr x, vr it, vi v1] [(.ref sa18)]))
  exact endRW X18 hS (by rw [e18]; exact hk) hx Bd.returns rfl rfl (hb hby d5_57) hlk ⟨sa18, sb18, F18, rfl, M18, by rw [e18]; exact (ext_kept (ext_refl h0) K18 all0), by rw [e18]; exact Ea18, by rw [e18]; exact Fc18, by rw [e18]; exact Fv18, by rw [e18]; exact B18, fun j hj => (q_f18 j (by omega)).trans (W6_16 j hj), Sg0_16.mono (fun j hj => q_f18 j (by omega)), Sg1_16.mono (fun j hj => q_f18 j (by omega))⟩ (by decide) (by decide)
theorem ef_line3 (m : MethodId) (hB : Heap) (zc : Int32) (o : Addr) (d : Addr) (u : Value) (w : Addr) (te : Addr) (mc : Int32) (G : Nat → Addr) (b0 : Addr) (b1 : Addr) (b2 : Addr) (v0 : Int32) (v1 : Int32) (v2 : Int32) : entryFrame m #[(.ref w)] 4 = mkF m 0 #[vr w, .unset, .unset, .unset] [] := by first | (simp [entryFrame, mkF, argsToLocals, Value.category]; done) | rfl
def Q_line3 (Z : State) (hB : Heap) (zc : Int32) (o : Addr) (d : Addr) (u : Value) (w : Addr) (te : Addr) (mc : Int32) (G : Nat → Addr) (b0 : Addr) (b1 : Addr) (b2 : Addr) (v0 : Int32) (v1 : Int32) (v2 : Int32) (h0 : Heap) (n0 : Nat) (vz : Option Value) (hz : Heap) (Lz : List Loc) : Prop := ∃ (a b : Addr) (F : Nat → Int32), vz = some (.ref a) ∧ Fr n0 Lz ∧ Ext h0 hz ∧ Exa Z hz a "java/lang/String" ∧ Fld Z hz a "java/lang/String" "coder" "B" (.int (0 : Int32)) ∧ Fld Z hz a "java/lang/String" "value" "[B" (.ref b) ∧ Byt Z hz b (6 + 1 + sl v0 + 1 + sl v1 + 1 + sl v2) F ∧ (∀ j, j < 6 → F j = gW j) ∧ Sg F (6) v0 ∧ Sg F (6 + 1 + sl v0) v1 ∧ Sg F (6 + 1 + sl v0 + 1 + sl v1) v2
abbrev rr_line3 : Room := ({ frames := 9, cells := 14, slots := 600, locals := 172 } : Room)
set_option maxRecDepth 65536 in
set_option maxHeartbeats 40000000 in
theorem rm_line3 (l : Launch) (Z : State) (a0 : Array Value) (hw : ∀ d ∈ tables_1, d.before a0 Z = true) (ws : List Jvm.Cond) (hB : Heap) (zc : Int32) (o : Addr) (d : Addr) (u : Value) (w : Addr) (te : Addr) (mc : Int32) (G : Nat → Addr) (b0 : Addr) (b1 : Addr) (b2 : Addr) (v0 : Int32) (v1 : Int32) (v2 : Int32) (h0 : Heap) (n0 : Nat) (Z0 : n0 ≤ h0.size) (J : JS Z hB zc o d u) (EB : Ext hB h0) (hBn : hB.size ≤ n0) (I0 : LI Z h0 w te 3 mc) (B0 : Els Z h0 te 3 G) (hG0 : G 0 = b0) (Eb0 : Exa Z h0 b0 "java/lang/Integer") (Fb0 : Fld Z h0 b0 "java/lang/Integer" "value" "I" (.int v0)) (hG1 : G 1 = b1) (Eb1 : Exa Z h0 b1 "java/lang/Integer") (Fb1 : Fld Z h0 b1 "java/lang/Integer" "value" "I" (.int v1)) (hG2 : G 2 = b2) (Eb2 : Exa Z h0 b2 "java/lang/Integer") (Fb2 : Fld Z h0 b2 "java/lang/Integer" "value" "I" (.int v2)) :
    MetFree l mn59 (head1 (Jvm.Cond.code mn59 prog_12_method_3_code 4 (some (.object "java/lang/String")) :: ws) rr_line3) (fun az Uz => az = #[(.ref w)] ∧ Z.Warmed39 Uz.vm ∧ Uz.heap = h0 ∧ CHv Z EL1 Uz.vm h0) (fun _ _ _ _ _ => True) (fun _ Uz oz Ut => ∃ vz Lz, oz = .returned vz ∧ Q_line3 Z hB zc o d u w te mc G b0 b1 b2 v0 v1 v2 h0 n0 vz Ut.heap Lz ∧ ReturnedEndW Uz oz Ut Lz (rr_line3).cells (rr_line3).slots) := by
  refine MetFree.of_bodySF (plainFor_of_name pn14) hisR ?_
  intro p e s m args below meth c s₁ Bd hml0 hP hK
  obtain ⟨rfl, hZ, hh, hCH⟩ := hP
  have hx := Bd.exec
  have hby := Bd.bytes
  have hml : c.maxLocals = 4 := hml0
  have hown : s.vm.findClass "com/example/guildtable/guildtable/table/Winners" = some m.cls := findClass_of_methodNamed Bd.named
  have hnm := (name_of_methodNamed Bd.named Bd.method).1
  have hlk : meth.locks = false := Bd.notSynchronized
  have X0 : Stand p l e rr_line3 s m #[(.ref w)] below meth c s₁ [] 0 0 := Stand.of_body Bd
  have e0 : s₁.heap = h0 := by rw [← hh, Bd.state]; rfl
  have N0 := Fr.nil n0
  show EndsK p e below (OW s (Q_line3 Z hB zc o d u w te mc G b0 b1 b2 v0 v1 v2 h0 n0) (rr_line3).cells (rr_line3).slots) (s₁.setTop (entryFrame m #[(.ref w)] 4))
  refine EndsK.start (ef_line3 m hB zc o d u w te mc G b0 b1 b2 v0 v1 v2) ?_
  have hEL : EW Z a0 EL1 := EW.cons (text := "winner") (tw hw 33 rfl) (by decide) EW.nil
  have wS : ∀ a ∈ Bundle.stringAtoms, a.before a0 Z = true := fun d hd => hw d ((by decide +kernel : ∀ d ∈ Bundle.stringAtoms, d ∈ tables_1) d hd)
  have hS := since0 s
  have hk : 0 ≤ h0.size := Nat.zero_le _
  have K0 : Keep h0 h0 [] := Keep.refl _ _
  have hsl0 := sl_le v0
  have hsl1 := sl_le v1
  have hsl2 := sl_le v2
  obtain ⟨T1, h1, X1, e1, E1, A1, D1, -, st1⟩ := newO X0 hx hZ hown (tw hw 30 rfl) (tw hw 31 rfl) (tw hw 32 rfl) e0 (g := (mkF m 0 #[vr w, .unset, .unset, .unset] [])) rfl (hb hby d5_0) (by decide) (by decide)
  obtain ⟨x, g1⟩ : ∃ z, z = h0.size := ⟨_, rfl⟩
  rw [← g1] at A1 D1 st1
  refine EndsK.go st1 ?_
  have F1_coder : Fld Z h1 x "java/lang/AbstractStringBuilder" "coder" "B" (.int (0 : Int32)) := D1 (Or.inl (tw hw 67 rfl)) (ty := .byte) (by decide)
  have F1_value : Fld Z h1 x "java/lang/AbstractStringBuilder" "value" "[B" .null := D1 (Or.inl (tw hw 69 rfl)) (ty := (.array .byte)) (by decide)
  have F1_count : Fld Z h1 x "java/lang/AbstractStringBuilder" "count" "I" (.int (0 : Int32)) := D1 (Or.inl (tw hw 85 rfl)) (ty := .int) (by decide)
  have Z1 : n0 ≤ h1.size := Nat.le_trans Z0 E1.1
  have G1 : n0 ≤ x := by rw [g1]; exact Z0
  have K1 := K0.ext E1
  have sz_x : h0.size ≤ x := by rw [g1]; exact K0.1
  refine EndsK.go (fun _ kz => XS.dup X1.here hx rfl (hb hby d5_3) rfl rfl kz) ?_
  have hSf := Safe.ext (ext_kept (ext_refl h0) K1 all0) hCH (Safe.new (x := x) sz_x)
  have hCH := hCH.ext (ext_kept (ext_refl h0) K1 all0)
  have hlt : x < h1.size := A1.lt
  have hk : 0 ≤ h1.size := Nat.zero_le _
  obtain ⟨sa2, T2, h2, nn2, sb2, kb2, X2, e2, E2, hS, hk, hZ, hown, Ea2, Fc2, Fv2, Av2, -, -, Cr2, -, ne2, st2⟩ := ldcCH (s := s) (vm0 := s.vm) X1 hx hZ hown (tw hw 33 rfl) wS e1 hS hk hEL (List.mem_singleton.mpr rfl) hCH (vs := [.int 119, .int 105, .int 110, .int 110, .int 101, .int 114]) (z := 6) ⟨by decide, by first | rfl | decide⟩ (by decide) rfl (g := (mkF m 4 #[vr w, .unset, .unset, .unset] [(.ref x), (.ref x)])) rfl (hb hby d5_4) (n := 24) (by decide) (by decide) (by decide) (by decide)
  refine EndsK.go st2 ?_
  have E2_x := A1.ext E2
  have F2_coder_x := F1_coder.ext E2
  have F2_value_x := F1_value.ext E2
  have F2_count_x := F1_count.ext E2
  have hSf := Cr2.safe hlt hSf
  have nex := ne2 x hSf
  have Z2 : n0 ≤ h2.size := Nat.le_trans Z1 E2.1
  have K2 := K1.ext E2
  have Bs2 : Byt Z h2 sb2 6 gW := Byt.of_arv Av2 gW_at
  obtain ⟨_, T3, Lc3, X3, hQ3, st3⟩ := doneT X2 (X2.specialBack hx (y := mn22) rfl hown (mvT hZ (tw hw 41 rfl)) (mvT hZ (tw hw 42 rfl)) (mvT hZ (tw hw 43 rfl)) (by decide) (backOf (W := 1) (rm_sbI l Z a0 hw [] sa2 sb2 gW x zc h2 n0 Z2 (J.SC.ext (ext_kept EB K2 all0)) J.hzc Ea2 Fc2 Fv2 Bs2 E2_x F2_value_x F2_coder_x F2_count_x G1 (Ne.symm nex.1) (Ne.symm nex.2)) hZ (tw hw 43 rfl) (tw hw 32 rfl) (by decide) (by decide)) (g := (mkF m 6 #[vr w, .unset, .unset, .unset] [(.ref sa2), (.ref x), (.ref x)])) rfl (by rw [hml]; rfl) (Steps.refl _) (a := x) (argsL := [(.ref sa2)]) (rest := [(.ref x)]) (lenOf pd7 rfl) rfl (by show 2 * 0 + _ ≤ _; exact Nat.le_of_eq rfl) (hb hby d5_6) (fun _ _ => ⟨rfl, e2, (by decide : 0 + 1 + 2 + 2 ≤ _), (by decide : 0 + 4 + (24 + 4) + 90 ≤ _)⟩))
  obtain ⟨t3, F3, rfl, N3, Kc3, q_s3, S3, q_f3⟩ := hQ3
  have M3 := Fr.app N0 N3
  obtain ⟨h3, e3⟩ : ∃ z, T3.heap = z := ⟨_, rfl⟩
  rw [e3] at Kc3 S3
  have Z3 : n0 ≤ h3.size := Nat.le_trans Z2 Kc3.1
  have K3 := K2.trans Kc3 (allS (Or.inr sz_x) all0)
  have E3_x := E2_x.keep Kc3
  have sz_t3 : h0.size ≤ t3 := Nat.le_trans K2.1 q_s3
  have g_t3 : n0 ≤ t3 := Nat.le_trans Z2 q_s3
  have hk := Nat.le_trans hk Kc3.1
  have g_x := G1
  refine EndsK.tr st3 ?_
  refine EndsK.go (fun _ kz => XS.astoreN X3.here hx rfl (hb hby d5_9) rfl rfl (l' := #[vr w, vr x, .unset, .unset]) rfl (XS.aloadN X3.here hx rfl (hb hby d5_10) rfl rfl kz)) ?_
  obtain ⟨cq4, kq4, qa4, qb4, qc4⟩ := isOf hZ e3 (I0.1.ext (ext_kept (ext_refl h0) K3 all0))
  obtain ⟨_, T4, Lc4, X4, hQ4, st4⟩ := doneT X3 (X3.interfaceBack hx (C := "java/util/ArrayList") (xi := mn60) (y := mn55) hown (mvT hZ (tw hw 111 rfl)) (mvT hZ (tw hw 112 rfl)) (mvT hZ (tw hw 113 rfl)) (mvT hZ (tw hw 114 rfl)) (mvT hZ (tw hw 115 rfl)) (mvT hZ (tw hw 116 rfl)) (mvT hZ (tw hw 117 rfl)) (mvT hZ (tw hw 118 rfl)) (by decide) (backOf (W := 0) (rm_itr l Z a0 hw [] w mc h3 n0 Z3 (I0.2.2.2.ext (ext_kept (ext_refl h0) K3 all0))) hZ (tw hw 119 rfl) (tw hw 2 rfl) (by decide) (by decide)) qa4 qb4 qc4 (g := (mkF m 11 #[vr w, vr x, .unset, .unset] [(.ref w)])) rfl (by rw [hml]; rfl) (Steps.refl _) (argsL := []) (rest := []) (lenOf pd33 rfl) rfl (by show 2 * 0 + _ ≤ _; exact Nat.le_of_eq rfl) (hb hby d5_11) (fun _ _ => ⟨rfl, e3, (by decide : 0 + 1 + 2 + 2 + 1 ≤ _), (by decide : 0 + 4 + (24 + 4) + 90 + 4 ≤ _)⟩))
  obtain ⟨it, rfl, N4, E4, q_s4, It4⟩ := hQ4
  have M4 := Fr.app M3 N4
  obtain ⟨h4, e4⟩ : ∃ z, T4.heap = z := ⟨_, rfl⟩
  rw [e4] at E4 It4
  have Z4 : n0 ≤ h4.size := Nat.le_trans Z3 E4.1
  have K4 := K3.ext E4
  have sz_it : h0.size ≤ it := Nat.le_trans K3.1 q_s4
  have g_it : n0 ≤ it := Nat.le_trans Z3 q_s4
  have nxi : x ≠ it := Nat.ne_of_lt (Nat.lt_of_lt_of_le S3.1.lt q_s4)
  have nti_t3 : t3 ≠ it := Nat.ne_of_lt (Nat.lt_of_lt_of_le S3.2.2.2.2.1.lt q_s4)
  have nwi : w ≠ it := Nat.ne_of_lt (Nat.lt_of_lt_of_le I0.1.lt sz_it)
  have S4 := S3.ext E4
  have hk := Nat.le_trans hk E4.1
  have ntei : te ≠ it := Nat.ne_of_lt (Nat.lt_of_lt_of_le B0.lt sz_it)
  refine EndsK.tr st4 ?_
  refine EndsK.go (fun _ kz => XS.astoreN X4.here hx rfl (hb hby d5_16) rfl rfl (l' := #[vr w, vr x, vr it, .unset]) rfl (XS.aloadN X4.here hx rfl (hb hby d5_17) rfl rfl kz)) ?_
  obtain ⟨cq5, kq5, qa5, qb5, qc5⟩ := isOf hZ e4 It4.1
  obtain ⟨_, T5, Lc5, X5, hQ5, st5⟩ := doneT X4 (X4.interfaceBack hx (C := "java/util/ArrayList$Itr") (xi := mn61) (y := mn56) hown (mvT hZ (tw hw 136 rfl)) (mvT hZ (tw hw 137 rfl)) (mvT hZ (tw hw 138 rfl)) (mvT hZ (tw hw 139 rfl)) (mvT hZ (tw hw 140 rfl)) (mvT hZ (tw hw 141 rfl)) (mvT hZ (tw hw 142 rfl)) (mvT hZ (tw hw 143 rfl)) (by decide) (backOf (W := 0) (rm_hnT l Z a0 hw [] it w te 0 3 mc h4 n0 Z4 It4 (I0.ext (ext_kept (ext_refl h0) K4 all0)) (by decide) (by decide)) hZ (tw hw 144 rfl) (tw hw 122 rfl) (by decide) (by decide)) qa5 qb5 qc5 (g := (mkF m 18 #[vr w, vr x, vr it, .unset] [(.ref it)])) rfl (by rw [hml]; rfl) (Steps.refl _) (argsL := []) (rest := []) (lenOf pd14 rfl) rfl (by show 2 * 0 + _ ≤ _; exact Nat.le_of_eq rfl) (hb hby d5_18) (fun _ _ => ⟨rfl, e4, (by decide : 0 + 1 + 2 + 2 + 1 + 0 ≤ _), (by decide : 0 + 4 + (24 + 4) + 90 + 4 + 0 ≤ _)⟩))
  obtain ⟨rfl, N5, e5⟩ := hQ5
  have M5 := Fr.app M4 N5
  refine EndsK.tr st5 ?_
  refine EndsK.go (fun _ kz => XS.ifNo X5.here hx rfl (hb hby d5_23) rfl ((if0 _ _).trans (feq (by decide : ¬ ((1 : Int32) = (0 : Int32)))).1) (XS.aloadN X5.here hx rfl (hb hby d5_26) rfl rfl kz)) ?_
  obtain ⟨cq6, kq6, qa6, qb6, qc6⟩ := isOf hZ e5 It4.1
  obtain ⟨_, T6, Lc6, X6, hQ6, st6⟩ := doneT X5 (X5.interfaceBack hx (C := "java/util/ArrayList$Itr") (xi := mn62) (y := mn58) hown (mvT hZ (tw hw 271 rfl)) (mvT hZ (tw hw 272 rfl)) (mvT hZ (tw hw 273 rfl)) (mvT hZ (tw hw 274 rfl)) (mvT hZ (tw hw 275 rfl)) (mvT hZ (tw hw 276 rfl)) (mvT hZ (tw hw 277 rfl)) (mvT hZ (tw hw 143 rfl)) (by decide) (backOf (W := 0) (rm_nx l Z a0 hw [] it w te 0 3 mc G b0 h4 n0 Z4 It4 (I0.ext (ext_kept (ext_refl h0) K4 all0)) (B0.ext (ext_kept (ext_refl h0) K4 all0)) (by decide) (by decide) hG0 g_it nwi ntei) hZ (tw hw 278 rfl) (tw hw 122 rfl) (by decide) (by decide)) qa6 qb6 qc6 (g := (mkF m 27 #[vr w, vr x, vr it, .unset] [(.ref it)])) rfl (by rw [hml]; rfl) (Steps.refl _) (argsL := []) (rest := []) (lenOf pd35 rfl) rfl (by show 2 * 0 + _ ≤ _; exact Nat.le_of_eq rfl) (hb hby d5_27) (fun _ _ => ⟨rfl, e5, (by decide : 0 + 1 + 2 + 2 + 1 + 0 + 0 ≤ _), (by decide : 0 + 4 + (24 + 4) + 90 + 4 + 0 + 0 ≤ _)⟩))
  obtain ⟨rfl, N6, Kc6, It6⟩ := hQ6
  have M6 := Fr.app M5 N6
  obtain ⟨h6, e6⟩ : ∃ z, T6.heap = z := ⟨_, rfl⟩
  rw [e6] at Kc6 It6
  have Z6 : n0 ≤ h6.size := Nat.le_trans Z4 Kc6.1
  have K6 := K4.trans Kc6 (allS (Or.inr sz_it) all0)
  have S6 := S4.keep Kc6 (ninS nxi nin0) (ninS nti_t3 nin0)
  have hk := Nat.le_trans hk Kc6.1
  refine EndsK.tr st6 ?_
  obtain ⟨T7, X7, e7, st7⟩ := castY X6 hx hZ hown (tw hw 285 rfl) e6 (Ins.self (Eb0.ext (ext_kept (ext_refl h0) K6 all0))) (g := (mkF m 32 #[vr w, vr x, vr it, .unset] [(.ref b0)])) rfl rfl (hb hby d5_32)
  refine EndsK.go st7 ?_
  obtain ⟨cq8, kq8, qa8, qb8, qc8⟩ := isOf hZ e7 (Eb0.ext (ext_kept (ext_refl h0) K6 all0))
  obtain ⟨_, T8, Lc8, X8, hQ8, st8⟩ := doneT X7 (X7.virtualBack hx (y := mn47) (z := mn47) hown (mvT hZ (tw hw 286 rfl)) (mvT hZ (tw hw 287 rfl)) (notFace_of_selects (args := #[]) (mvT hZ (tw hw 289 rfl))) (mvT hZ (tw hw 289 rfl)) (mvT hZ (tw hw 288 rfl)) (by decide) (backOf (W := 0) (rm_iv l Z a0 hw [] b0 v0 h6 n0 Z6 (Fb0.ext (ext_kept (ext_refl h0) K6 all0))) hZ (tw hw 290 rfl) (tw hw 221 rfl) (by decide) (by decide)) qa8 qc8 (g := (mkF m 35 #[vr w, vr x, vr it, .unset] [(.ref b0)])) rfl (by rw [hml]; rfl) (Steps.refl _) (argsL := []) (rest := []) (lenOf pd9 rfl) rfl (by show 2 * 0 + _ ≤ _; exact Nat.le_of_eq rfl) (hb hby d5_35) (fun _ _ => ⟨rfl, e7, (by decide : 0 + 1 + 2 + 2 + 1 + 0 + 0 + 0 ≤ _), (by decide : 0 + 4 + (24 + 4) + 90 + 4 + 0 + 0 + 0 ≤ _)⟩))
  obtain ⟨rfl, N8, e8⟩ := hQ8
  have M8 := Fr.app M6 N8
  refine EndsK.tr st8 ?_
  refine EndsK.go (fun _ kz => XS.istoreN X8.here hx rfl (hb hby d5_38) rfl (l' := #[vr w, vr x, vr it, vi v0]) rfl (XS.aloadN X8.here hx rfl (hb hby d5_39) rfl rfl (XS.bipush X8.here hx rfl (hb hby d5_40) kz))) ?_
  obtain ⟨cq9, kq9, qa9, qb9, qc9⟩ := isOf hZ e8 S6.1
  obtain ⟨_, T9, Lc9, X9, hQ9, st9⟩ := doneT X8 (X8.virtualBack hx (y := mn24) (z := mn24) hown (mvT hZ (tw hw 291 rfl)) (mvT hZ (tw hw 292 rfl)) (notFace_of_selects (args := #[]) (mvT hZ (tw hw 294 rfl))) (mvT hZ (tw hw 294 rfl)) (mvT hZ (tw hw 293 rfl)) (by decide) (backOf (W := 0) (rm_apC2 l Z a0 hw [] hB zc o d u x t3 22 F3 (6) h6 n0 Z6 J (ext_kept EB K6 all0) hBn S6 g_x g_t3 (by omega)) hZ (tw hw 295 rfl) (tw hw 32 rfl) (by decide) (by decide)) qa9 qc9 (g := (mkF m 42 #[vr w, vr x, vr it, vi v0] [(.int (32 : Int32)), (.ref x)])) rfl (by rw [hml]; rfl) (Steps.refl _) (argsL := [(.int (32 : Int32))]) (rest := []) (lenOf pd36 rfl) rfl (by show 2 * 0 + _ ≤ _; exact Nat.le_of_eq rfl) (hb hby d5_42) (fun _ _ => ⟨rfl, e8, (by decide : 0 + 1 + 2 + 2 + 1 + 0 + 0 + 0 + 1 ≤ _), (by decide : 0 + 4 + (24 + 4) + 90 + 4 + 0 + 0 + 0 + 64 ≤ _)⟩))
  obtain ⟨t9, N_9, F9, rfl, N9, Kc9, q_t9, S9, q_f9, q_c9⟩ := hQ9
  have M9 := Fr.app M8 N9
  obtain ⟨h9, e9⟩ : ∃ z, T9.heap = z := ⟨_, rfl⟩
  rw [e9] at Kc9 S9
  have Z9 : n0 ≤ h9.size := Nat.le_trans Z6 Kc9.1
  have K9 := K6.trans Kc9 (allS (Or.inr sz_x) (allS (Or.inr sz_t3) all0))
  have It9 := It6.keep Kc9 (ninS (Ne.symm nxi) (ninS (Ne.symm nti_t3) nin0))
  have sz_t9 : h0.size ≤ t9 := q_t9.elim (fun q => by rw [q]; exact sz_t3) (fun q => Nat.le_trans K6.1 q)
  have g_t9 : n0 ≤ t9 := q_t9.elim (fun q => by rw [q]; exact g_t3) (fun q => Nat.le_trans Z6 q)
  have nti_t9 : t9 ≠ it := q_t9.elim (fun q => by rw [q]; exact nti_t3) (fun q => Ne.symm (Nat.ne_of_lt (Nat.lt_of_lt_of_le It6.1.lt q)))
  have hk := Nat.le_trans hk Kc9.1
  have W6_9 : ∀ j, j < 6 → F9 j = gW j := fun j hj => (q_f9 j (by omega)).trans (q_f3 j hj)
  refine EndsK.tr st9 ?_
  refine EndsK.go (fun _ kz => XS.iloadN X9.here hx rfl (hb hby d5_45) rfl kz) ?_
  obtain ⟨cq10, kq10, qa10, qb10, qc10⟩ := isOf hZ e9 S9.1
  obtain ⟨_, T10, Lc10, X10, hQ10, st10⟩ := doneT X9 (X9.virtualBack hx (y := mn27) (z := mn27) hown (mvT hZ (tw hw 304 rfl)) (mvT hZ (tw hw 305 rfl)) (notFace_of_selects (args := #[]) (mvT hZ (tw hw 307 rfl))) (mvT hZ (tw hw 307 rfl)) (mvT hZ (tw hw 306 rfl)) (by decide) (backOf (W := 0) (rm_apI2 l Z a0 hw [] hB zc o d u x t9 N_9 F9 (6 + 1) v0 h9 n0 Z9 J (ext_kept EB K9 all0) hBn S9 g_x g_t9 (by omega)) hZ (tw hw 308 rfl) (tw hw 32 rfl) (by decide) (by decide)) qa10 qc10 (g := (mkF m 46 #[vr w, vr x, vr it, vi v0] [(.int v0), (.ref x)])) rfl (by rw [hml]; rfl) (Steps.refl _) (argsL := [(.int v0)]) (rest := []) (lenOf pd37 rfl) rfl (by show 2 * 0 + _ ≤ _; exact Nat.le_of_eq rfl) (hb hby d5_46) (fun _ _ => ⟨rfl, e9, (by decide : 0 + 1 + 2 + 2 + 1 + 0 + 0 + 0 + 1 + 1 ≤ _), (by decide : 0 + 4 + (24 + 4) + 90 + 4 + 0 + 0 + 0 + 64 + 64 ≤ _)⟩))
  obtain ⟨t10, N_10, F10, rfl, N10, Kc10, q_t10, S10, q_f10, q_c10⟩ := hQ10
  have M10 := Fr.app M9 N10
  obtain ⟨h10, e10⟩ : ∃ z, T10.heap = z := ⟨_, rfl⟩
  rw [e10] at Kc10 S10
  have Z10 : n0 ≤ h10.size := Nat.le_trans Z9 Kc10.1
  have K10 := K9.trans Kc10 (allS (Or.inr sz_x) (allS (Or.inr sz_t9) all0))
  have It10 := It9.keep Kc10 (ninS (Ne.symm nxi) (ninS (Ne.symm nti_t9) nin0))
  have sz_t10 : h0.size ≤ t10 := q_t10.elim (fun q => by rw [q]; exact sz_t9) (fun q => Nat.le_trans K9.1 q)
  have g_t10 : n0 ≤ t10 := q_t10.elim (fun q => by rw [q]; exact g_t9) (fun q => Nat.le_trans Z9 q)
  have nti_t10 : t10 ≠ it := q_t10.elim (fun q => by rw [q]; exact nti_t9) (fun q => Ne.symm (Nat.ne_of_lt (Nat.lt_of_lt_of_le It9.1.lt q)))
  have hk := Nat.le_trans hk Kc10.1
  have W6_10 : ∀ j, j < 6 → F10 j = gW j := fun j hj => (q_f10 j (by omega)).trans (W6_9 j hj)
  have Sg0_10 : Sg F10 (6) v0 := ⟨(q_f10 _ (by omega)).trans q_c9, q_c10⟩
  refine EndsK.tr st10 ?_
  refine EndsK.go (fun _ kz => XS.pop X10.here hx rfl (hb hby d5_49) rfl rfl (XS.goto X10.here hx rfl (pc0 := 50) (pc' := 17) rfl (hb hby d5_50) (by decide) (by decide) (XS.aloadN X10.here hx rfl (hb hby d5_17) rfl rfl kz))) ?_
  obtain ⟨cq11, kq11, qa11, qb11, qc11⟩ := isOf hZ e10 It10.1
  obtain ⟨_, T11, Lc11, X11, hQ11, st11⟩ := doneT X10 (X10.interfaceBack hx (C := "java/util/ArrayList$Itr") (xi := mn61) (y := mn56) hown (mvT hZ (tw hw 136 rfl)) (mvT hZ (tw hw 137 rfl)) (mvT hZ (tw hw 138 rfl)) (mvT hZ (tw hw 139 rfl)) (mvT hZ (tw hw 140 rfl)) (mvT hZ (tw hw 141 rfl)) (mvT hZ (tw hw 142 rfl)) (mvT hZ (tw hw 143 rfl)) (by decide) (backOf (W := 0) (rm_hnT l Z a0 hw [] it w te 1 3 mc h10 n0 Z10 It10 (I0.ext (ext_kept (ext_refl h0) K10 all0)) (by decide) (by decide)) hZ (tw hw 144 rfl) (tw hw 122 rfl) (by decide) (by decide)) qa11 qb11 qc11 (g := (mkF m 18 #[vr w, vr x, vr it, vi v0] [(.ref it)])) rfl (by rw [hml]; rfl) (Steps.refl _) (argsL := []) (rest := []) (lenOf pd14 rfl) rfl (by show 2 * 0 + _ ≤ _; exact Nat.le_of_eq rfl) (hb hby d5_18) (fun _ _ => ⟨rfl, e10, (by decide : 0 + 1 + 2 + 2 + 1 + 0 + 0 + 0 + 1 + 1 + 0 ≤ _), (by decide : 0 + 4 + (24 + 4) + 90 + 4 + 0 + 0 + 0 + 64 + 64 + 0 ≤ _)⟩))
  obtain ⟨rfl, N11, e11⟩ := hQ11
  have M11 := Fr.app M10 N11
  refine EndsK.tr st11 ?_
  refine EndsK.go (fun _ kz => XS.ifNo X11.here hx rfl (hb hby d5_23) rfl ((if0 _ _).trans (feq (by decide : ¬ ((1 : Int32) = (0 : Int32)))).1) (XS.aloadN X11.here hx rfl (hb hby d5_26) rfl rfl kz)) ?_
  obtain ⟨cq12, kq12, qa12, qb12, qc12⟩ := isOf hZ e11 It10.1
  obtain ⟨_, T12, Lc12, X12, hQ12, st12⟩ := doneT X11 (X11.interfaceBack hx (C := "java/util/ArrayList$Itr") (xi := mn62) (y := mn58) hown (mvT hZ (tw hw 271 rfl)) (mvT hZ (tw hw 272 rfl)) (mvT hZ (tw hw 273 rfl)) (mvT hZ (tw hw 274 rfl)) (mvT hZ (tw hw 275 rfl)) (mvT hZ (tw hw 276 rfl)) (mvT hZ (tw hw 277 rfl)) (mvT hZ (tw hw 143 rfl)) (by decide) (backOf (W := 0) (rm_nx l Z a0 hw [] it w te 1 3 mc G b1 h10 n0 Z10 It10 (I0.ext (ext_kept (ext_refl h0) K10 all0)) (B0.ext (ext_kept (ext_refl h0) K10 all0)) (by decide) (by decide) hG1 g_it nwi ntei) hZ (tw hw 278 rfl) (tw hw 122 rfl) (by decide) (by decide)) qa12 qb12 qc12 (g := (mkF m 27 #[vr w, vr x, vr it, vi v0] [(.ref it)])) rfl (by rw [hml]; rfl) (Steps.refl _) (argsL := []) (rest := []) (lenOf pd35 rfl) rfl (by show 2 * 0 + _ ≤ _; exact Nat.le_of_eq rfl) (hb hby d5_27) (fun _ _ => ⟨rfl, e11, (by decide : 0 + 1 + 2 + 2 + 1 + 0 + 0 + 0 + 1 + 1 + 0 + 0 ≤ _), (by decide : 0 + 4 + (24 + 4) + 90 + 4 + 0 + 0 + 0 + 64 + 64 + 0 + 0 ≤ _)⟩))
  obtain ⟨rfl, N12, Kc12, It12⟩ := hQ12
  have M12 := Fr.app M11 N12
  obtain ⟨h12, e12⟩ : ∃ z, T12.heap = z := ⟨_, rfl⟩
  rw [e12] at Kc12 It12
  have Z12 : n0 ≤ h12.size := Nat.le_trans Z10 Kc12.1
  have K12 := K10.trans Kc12 (allS (Or.inr sz_it) all0)
  have S12 := S10.keep Kc12 (ninS nxi nin0) (ninS nti_t10 nin0)
  have hk := Nat.le_trans hk Kc12.1
  refine EndsK.tr st12 ?_
  obtain ⟨T13, X13, e13, st13⟩ := castY X12 hx hZ hown (tw hw 285 rfl) e12 (Ins.self (Eb1.ext (ext_kept (ext_refl h0) K12 all0))) (g := (mkF m 32 #[vr w, vr x, vr it, vi v0] [(.ref b1)])) rfl rfl (hb hby d5_32)
  refine EndsK.go st13 ?_
  obtain ⟨cq14, kq14, qa14, qb14, qc14⟩ := isOf hZ e13 (Eb1.ext (ext_kept (ext_refl h0) K12 all0))
  obtain ⟨_, T14, Lc14, X14, hQ14, st14⟩ := doneT X13 (X13.virtualBack hx (y := mn47) (z := mn47) hown (mvT hZ (tw hw 286 rfl)) (mvT hZ (tw hw 287 rfl)) (notFace_of_selects (args := #[]) (mvT hZ (tw hw 289 rfl))) (mvT hZ (tw hw 289 rfl)) (mvT hZ (tw hw 288 rfl)) (by decide) (backOf (W := 0) (rm_iv l Z a0 hw [] b1 v1 h12 n0 Z12 (Fb1.ext (ext_kept (ext_refl h0) K12 all0))) hZ (tw hw 290 rfl) (tw hw 221 rfl) (by decide) (by decide)) qa14 qc14 (g := (mkF m 35 #[vr w, vr x, vr it, vi v0] [(.ref b1)])) rfl (by rw [hml]; rfl) (Steps.refl _) (argsL := []) (rest := []) (lenOf pd9 rfl) rfl (by show 2 * 0 + _ ≤ _; exact Nat.le_of_eq rfl) (hb hby d5_35) (fun _ _ => ⟨rfl, e13, (by decide : 0 + 1 + 2 + 2 + 1 + 0 + 0 + 0 + 1 + 1 + 0 + 0 + 0 ≤ _), (by decide : 0 + 4 + (24 + 4) + 90 + 4 + 0 + 0 + 0 + 64 + 64 + 0 + 0 + 0 ≤ _)⟩))
  obtain ⟨rfl, N14, e14⟩ := hQ14
  have M14 := Fr.app M12 N14
  refine EndsK.tr st14 ?_
  refine EndsK.go (fun _ kz => XS.istoreN X14.here hx rfl (hb hby d5_38) rfl (l' := #[vr w, vr x, vr it, vi v1]) rfl (XS.aloadN X14.here hx rfl (hb hby d5_39) rfl rfl (XS.bipush X14.here hx rfl (hb hby d5_40) kz))) ?_
  obtain ⟨cq15, kq15, qa15, qb15, qc15⟩ := isOf hZ e14 S12.1
  obtain ⟨_, T15, Lc15, X15, hQ15, st15⟩ := doneT X14 (X14.virtualBack hx (y := mn24) (z := mn24) hown (mvT hZ (tw hw 291 rfl)) (mvT hZ (tw hw 292 rfl)) (notFace_of_selects (args := #[]) (mvT hZ (tw hw 294 rfl))) (mvT hZ (tw hw 294 rfl)) (mvT hZ (tw hw 293 rfl)) (by decide) (backOf (W := 0) (rm_apC2 l Z a0 hw [] hB zc o d u x t10 N_10 F10 (6 + 1 + sl v0) h12 n0 Z12 J (ext_kept EB K12 all0) hBn S12 g_x g_t10 (by omega)) hZ (tw hw 295 rfl) (tw hw 32 rfl) (by decide) (by decide)) qa15 qc15 (g := (mkF m 42 #[vr w, vr x, vr it, vi v1] [(.int (32 : Int32)), (.ref x)])) rfl (by rw [hml]; rfl) (Steps.refl _) (argsL := [(.int (32 : Int32))]) (rest := []) (lenOf pd36 rfl) rfl (by show 2 * 0 + _ ≤ _; exact Nat.le_of_eq rfl) (hb hby d5_42) (fun _ _ => ⟨rfl, e14, (by decide : 0 + 1 + 2 + 2 + 1 + 0 + 0 + 0 + 1 + 1 + 0 + 0 + 0 + 1 ≤ _), (by decide : 0 + 4 + (24 + 4) + 90 + 4 + 0 + 0 + 0 + 64 + 64 + 0 + 0 + 0 + 64 ≤ _)⟩))
  obtain ⟨t15, N_15, F15, rfl, N15, Kc15, q_t15, S15, q_f15, q_c15⟩ := hQ15
  have M15 := Fr.app M14 N15
  obtain ⟨h15, e15⟩ : ∃ z, T15.heap = z := ⟨_, rfl⟩
  rw [e15] at Kc15 S15
  have Z15 : n0 ≤ h15.size := Nat.le_trans Z12 Kc15.1
  have K15 := K12.trans Kc15 (allS (Or.inr sz_x) (allS (Or.inr sz_t10) all0))
  have It15 := It12.keep Kc15 (ninS (Ne.symm nxi) (ninS (Ne.symm nti_t10) nin0))
  have sz_t15 : h0.size ≤ t15 := q_t15.elim (fun q => by rw [q]; exact sz_t10) (fun q => Nat.le_trans K12.1 q)
  have g_t15 : n0 ≤ t15 := q_t15.elim (fun q => by rw [q]; exact g_t10) (fun q => Nat.le_trans Z12 q)
  have nti_t15 : t15 ≠ it := q_t15.elim (fun q => by rw [q]; exact nti_t10) (fun q => Ne.symm (Nat.ne_of_lt (Nat.lt_of_lt_of_le It12.1.lt q)))
  have hk := Nat.le_trans hk Kc15.1
  have W6_15 : ∀ j, j < 6 → F15 j = gW j := fun j hj => (q_f15 j (by omega)).trans (W6_10 j hj)
  have Sg0_15 : Sg F15 (6) v0 := Sg0_10.mono (fun j hj => q_f15 j (by omega))
  refine EndsK.tr st15 ?_
  refine EndsK.go (fun _ kz => XS.iloadN X15.here hx rfl (hb hby d5_45) rfl kz) ?_
  obtain ⟨cq16, kq16, qa16, qb16, qc16⟩ := isOf hZ e15 S15.1
  obtain ⟨_, T16, Lc16, X16, hQ16, st16⟩ := doneT X15 (X15.virtualBack hx (y := mn27) (z := mn27) hown (mvT hZ (tw hw 304 rfl)) (mvT hZ (tw hw 305 rfl)) (notFace_of_selects (args := #[]) (mvT hZ (tw hw 307 rfl))) (mvT hZ (tw hw 307 rfl)) (mvT hZ (tw hw 306 rfl)) (by decide) (backOf (W := 0) (rm_apI2 l Z a0 hw [] hB zc o d u x t15 N_15 F15 (6 + 1 + sl v0 + 1) v1 h15 n0 Z15 J (ext_kept EB K15 all0) hBn S15 g_x g_t15 (by omega)) hZ (tw hw 308 rfl) (tw hw 32 rfl) (by decide) (by decide)) qa16 qc16 (g := (mkF m 46 #[vr w, vr x, vr it, vi v1] [(.int v1), (.ref x)])) rfl (by rw [hml]; rfl) (Steps.refl _) (argsL := [(.int v1)]) (rest := []) (lenOf pd37 rfl) rfl (by show 2 * 0 + _ ≤ _; exact Nat.le_of_eq rfl) (hb hby d5_46) (fun _ _ => ⟨rfl, e15, (by decide : 0 + 1 + 2 + 2 + 1 + 0 + 0 + 0 + 1 + 1 + 0 + 0 + 0 + 1 + 1 ≤ _), (by decide : 0 + 4 + (24 + 4) + 90 + 4 + 0 + 0 + 0 + 64 + 64 + 0 + 0 + 0 + 64 + 64 ≤ _)⟩))
  obtain ⟨t16, N_16, F16, rfl, N16, Kc16, q_t16, S16, q_f16, q_c16⟩ := hQ16
  have M16 := Fr.app M15 N16
  obtain ⟨h16, e16⟩ : ∃ z, T16.heap = z := ⟨_, rfl⟩
  rw [e16] at Kc16 S16
  have Z16 : n0 ≤ h16.size := Nat.le_trans Z15 Kc16.1
  have K16 := K15.trans Kc16 (allS (Or.inr sz_x) (allS (Or.inr sz_t15) all0))
  have It16 := It15.keep Kc16 (ninS (Ne.symm nxi) (ninS (Ne.symm nti_t15) nin0))
  have sz_t16 : h0.size ≤ t16 := q_t16.elim (fun q => by rw [q]; exact sz_t15) (fun q => Nat.le_trans K15.1 q)
  have g_t16 : n0 ≤ t16 := q_t16.elim (fun q => by rw [q]; exact g_t15) (fun q => Nat.le_trans Z15 q)
  have nti_t16 : t16 ≠ it := q_t16.elim (fun q => by rw [q]; exact nti_t15) (fun q => Ne.symm (Nat.ne_of_lt (Nat.lt_of_lt_of_le It15.1.lt q)))
  have hk := Nat.le_trans hk Kc16.1
  have W6_16 : ∀ j, j < 6 → F16 j = gW j := fun j hj => (q_f16 j (by omega)).trans (W6_15 j hj)
  have Sg0_16 : Sg F16 (6) v0 := Sg0_15.mono (fun j hj => q_f16 j (by omega))
  have Sg1_16 : Sg F16 (6 + 1 + sl v0) v1 := ⟨(q_f16 _ (by omega)).trans q_c15, q_c16⟩
  refine EndsK.tr st16 ?_
  refine EndsK.go (fun _ kz => XS.pop X16.here hx rfl (hb hby d5_49) rfl rfl (XS.goto X16.here hx rfl (pc0 := 50) (pc' := 17) rfl (hb hby d5_50) (by decide) (by decide) (XS.aloadN X16.here hx rfl (hb hby d5_17) rfl rfl kz))) ?_
  obtain ⟨cq17, kq17, qa17, qb17, qc17⟩ := isOf hZ e16 It16.1
  obtain ⟨_, T17, Lc17, X17, hQ17, st17⟩ := doneT X16 (X16.interfaceBack hx (C := "java/util/ArrayList$Itr") (xi := mn61) (y := mn56) hown (mvT hZ (tw hw 136 rfl)) (mvT hZ (tw hw 137 rfl)) (mvT hZ (tw hw 138 rfl)) (mvT hZ (tw hw 139 rfl)) (mvT hZ (tw hw 140 rfl)) (mvT hZ (tw hw 141 rfl)) (mvT hZ (tw hw 142 rfl)) (mvT hZ (tw hw 143 rfl)) (by decide) (backOf (W := 0) (rm_hnT l Z a0 hw [] it w te 2 3 mc h16 n0 Z16 It16 (I0.ext (ext_kept (ext_refl h0) K16 all0)) (by decide) (by decide)) hZ (tw hw 144 rfl) (tw hw 122 rfl) (by decide) (by decide)) qa17 qb17 qc17 (g := (mkF m 18 #[vr w, vr x, vr it, vi v1] [(.ref it)])) rfl (by rw [hml]; rfl) (Steps.refl _) (argsL := []) (rest := []) (lenOf pd14 rfl) rfl (by show 2 * 0 + _ ≤ _; exact Nat.le_of_eq rfl) (hb hby d5_18) (fun _ _ => ⟨rfl, e16, (by decide : 0 + 1 + 2 + 2 + 1 + 0 + 0 + 0 + 1 + 1 + 0 + 0 + 0 + 1 + 1 + 0 ≤ _), (by decide : 0 + 4 + (24 + 4) + 90 + 4 + 0 + 0 + 0 + 64 + 64 + 0 + 0 + 0 + 64 + 64 + 0 ≤ _)⟩))
  obtain ⟨rfl, N17, e17⟩ := hQ17
  have M17 := Fr.app M16 N17
  refine EndsK.tr st17 ?_
  refine EndsK.go (fun _ kz => XS.ifNo X17.here hx rfl (hb hby d5_23) rfl ((if0 _ _).trans (feq (by decide : ¬ ((1 : Int32) = (0 : Int32)))).1) (XS.aloadN X17.here hx rfl (hb hby d5_26) rfl rfl kz)) ?_
  obtain ⟨cq18, kq18, qa18, qb18, qc18⟩ := isOf hZ e17 It16.1
  obtain ⟨_, T18, Lc18, X18, hQ18, st18⟩ := doneT X17 (X17.interfaceBack hx (C := "java/util/ArrayList$Itr") (xi := mn62) (y := mn58) hown (mvT hZ (tw hw 271 rfl)) (mvT hZ (tw hw 272 rfl)) (mvT hZ (tw hw 273 rfl)) (mvT hZ (tw hw 274 rfl)) (mvT hZ (tw hw 275 rfl)) (mvT hZ (tw hw 276 rfl)) (mvT hZ (tw hw 277 rfl)) (mvT hZ (tw hw 143 rfl)) (by decide) (backOf (W := 0) (rm_nx l Z a0 hw [] it w te 2 3 mc G b2 h16 n0 Z16 It16 (I0.ext (ext_kept (ext_refl h0) K16 all0)) (B0.ext (ext_kept (ext_refl h0) K16 all0)) (by decide) (by decide) hG2 g_it nwi ntei) hZ (tw hw 278 rfl) (tw hw 122 rfl) (by decide) (by decide)) qa18 qb18 qc18 (g := (mkF m 27 #[vr w, vr x, vr it, vi v1] [(.ref it)])) rfl (by rw [hml]; rfl) (Steps.refl _) (argsL := []) (rest := []) (lenOf pd35 rfl) rfl (by show 2 * 0 + _ ≤ _; exact Nat.le_of_eq rfl) (hb hby d5_27) (fun _ _ => ⟨rfl, e17, (by decide : 0 + 1 + 2 + 2 + 1 + 0 + 0 + 0 + 1 + 1 + 0 + 0 + 0 + 1 + 1 + 0 + 0 ≤ _), (by decide : 0 + 4 + (24 + 4) + 90 + 4 + 0 + 0 + 0 + 64 + 64 + 0 + 0 + 0 + 64 + 64 + 0 + 0 ≤ _)⟩))
  obtain ⟨rfl, N18, Kc18, It18⟩ := hQ18
  have M18 := Fr.app M17 N18
  obtain ⟨h18, e18⟩ : ∃ z, T18.heap = z := ⟨_, rfl⟩
  rw [e18] at Kc18 It18
  have Z18 : n0 ≤ h18.size := Nat.le_trans Z16 Kc18.1
  have K18 := K16.trans Kc18 (allS (Or.inr sz_it) all0)
  have S18 := S16.keep Kc18 (ninS nxi nin0) (ninS nti_t16 nin0)
  have hk := Nat.le_trans hk Kc18.1
  refine EndsK.tr st18 ?_
  obtain ⟨T19, X19, e19, st19⟩ := castY X18 hx hZ hown (tw hw 285 rfl) e18 (Ins.self (Eb2.ext (ext_kept (ext_refl h0) K18 all0))) (g := (mkF m 32 #[vr w, vr x, vr it, vi v1] [(.ref b2)])) rfl rfl (hb hby d5_32)
  refine EndsK.go st19 ?_
  obtain ⟨cq20, kq20, qa20, qb20, qc20⟩ := isOf hZ e19 (Eb2.ext (ext_kept (ext_refl h0) K18 all0))
  obtain ⟨_, T20, Lc20, X20, hQ20, st20⟩ := doneT X19 (X19.virtualBack hx (y := mn47) (z := mn47) hown (mvT hZ (tw hw 286 rfl)) (mvT hZ (tw hw 287 rfl)) (notFace_of_selects (args := #[]) (mvT hZ (tw hw 289 rfl))) (mvT hZ (tw hw 289 rfl)) (mvT hZ (tw hw 288 rfl)) (by decide) (backOf (W := 0) (rm_iv l Z a0 hw [] b2 v2 h18 n0 Z18 (Fb2.ext (ext_kept (ext_refl h0) K18 all0))) hZ (tw hw 290 rfl) (tw hw 221 rfl) (by decide) (by decide)) qa20 qc20 (g := (mkF m 35 #[vr w, vr x, vr it, vi v1] [(.ref b2)])) rfl (by rw [hml]; rfl) (Steps.refl _) (argsL := []) (rest := []) (lenOf pd9 rfl) rfl (by show 2 * 0 + _ ≤ _; exact Nat.le_of_eq rfl) (hb hby d5_35) (fun _ _ => ⟨rfl, e19, (by decide : 0 + 1 + 2 + 2 + 1 + 0 + 0 + 0 + 1 + 1 + 0 + 0 + 0 + 1 + 1 + 0 + 0 + 0 ≤ _), (by decide : 0 + 4 + (24 + 4) + 90 + 4 + 0 + 0 + 0 + 64 + 64 + 0 + 0 + 0 + 64 + 64 + 0 + 0 + 0 ≤ _)⟩))
  obtain ⟨rfl, N20, e20⟩ := hQ20
  have M20 := Fr.app M18 N20
  refine EndsK.tr st20 ?_
  refine EndsK.go (fun _ kz => XS.istoreN X20.here hx rfl (hb hby d5_38) rfl (l' := #[vr w, vr x, vr it, vi v2]) rfl (XS.aloadN X20.here hx rfl (hb hby d5_39) rfl rfl (XS.bipush X20.here hx rfl (hb hby d5_40) kz))) ?_
  obtain ⟨cq21, kq21, qa21, qb21, qc21⟩ := isOf hZ e20 S18.1
  obtain ⟨_, T21, Lc21, X21, hQ21, st21⟩ := doneT X20 (X20.virtualBack hx (y := mn24) (z := mn24) hown (mvT hZ (tw hw 291 rfl)) (mvT hZ (tw hw 292 rfl)) (notFace_of_selects (args := #[]) (mvT hZ (tw hw 294 rfl))) (mvT hZ (tw hw 294 rfl)) (mvT hZ (tw hw 293 rfl)) (by decide) (backOf (W := 0) (rm_apC2 l Z a0 hw [] hB zc o d u x t16 N_16 F16 (6 + 1 + sl v0 + 1 + sl v1) h18 n0 Z18 J (ext_kept EB K18 all0) hBn S18 g_x g_t16 (by omega)) hZ (tw hw 295 rfl) (tw hw 32 rfl) (by decide) (by decide)) qa21 qc21 (g := (mkF m 42 #[vr w, vr x, vr it, vi v2] [(.int (32 : Int32)), (.ref x)])) rfl (by rw [hml]; rfl) (Steps.refl _) (argsL := [(.int (32 : Int32))]) (rest := []) (lenOf pd36 rfl) rfl (by show 2 * 0 + _ ≤ _; exact Nat.le_of_eq rfl) (hb hby d5_42) (fun _ _ => ⟨rfl, e20, (by decide : 0 + 1 + 2 + 2 + 1 + 0 + 0 + 0 + 1 + 1 + 0 + 0 + 0 + 1 + 1 + 0 + 0 + 0 + 1 ≤ _), (by decide : 0 + 4 + (24 + 4) + 90 + 4 + 0 + 0 + 0 + 64 + 64 + 0 + 0 + 0 + 64 + 64 + 0 + 0 + 0 + 64 ≤ _)⟩))
  obtain ⟨t21, N_21, F21, rfl, N21, Kc21, q_t21, S21, q_f21, q_c21⟩ := hQ21
  have M21 := Fr.app M20 N21
  obtain ⟨h21, e21⟩ : ∃ z, T21.heap = z := ⟨_, rfl⟩
  rw [e21] at Kc21 S21
  have Z21 : n0 ≤ h21.size := Nat.le_trans Z18 Kc21.1
  have K21 := K18.trans Kc21 (allS (Or.inr sz_x) (allS (Or.inr sz_t16) all0))
  have It21 := It18.keep Kc21 (ninS (Ne.symm nxi) (ninS (Ne.symm nti_t16) nin0))
  have sz_t21 : h0.size ≤ t21 := q_t21.elim (fun q => by rw [q]; exact sz_t16) (fun q => Nat.le_trans K18.1 q)
  have g_t21 : n0 ≤ t21 := q_t21.elim (fun q => by rw [q]; exact g_t16) (fun q => Nat.le_trans Z18 q)
  have nti_t21 : t21 ≠ it := q_t21.elim (fun q => by rw [q]; exact nti_t16) (fun q => Ne.symm (Nat.ne_of_lt (Nat.lt_of_lt_of_le It18.1.lt q)))
  have hk := Nat.le_trans hk Kc21.1
  have W6_21 : ∀ j, j < 6 → F21 j = gW j := fun j hj => (q_f21 j (by omega)).trans (W6_16 j hj)
  have Sg0_21 : Sg F21 (6) v0 := Sg0_16.mono (fun j hj => q_f21 j (by omega))
  have Sg1_21 : Sg F21 (6 + 1 + sl v0) v1 := Sg1_16.mono (fun j hj => q_f21 j (by omega))
  refine EndsK.tr st21 ?_
  refine EndsK.go (fun _ kz => XS.iloadN X21.here hx rfl (hb hby d5_45) rfl kz) ?_
  obtain ⟨cq22, kq22, qa22, qb22, qc22⟩ := isOf hZ e21 S21.1
  obtain ⟨_, T22, Lc22, X22, hQ22, st22⟩ := doneT X21 (X21.virtualBack hx (y := mn27) (z := mn27) hown (mvT hZ (tw hw 304 rfl)) (mvT hZ (tw hw 305 rfl)) (notFace_of_selects (args := #[]) (mvT hZ (tw hw 307 rfl))) (mvT hZ (tw hw 307 rfl)) (mvT hZ (tw hw 306 rfl)) (by decide) (backOf (W := 0) (rm_apI2 l Z a0 hw [] hB zc o d u x t21 N_21 F21 (6 + 1 + sl v0 + 1 + sl v1 + 1) v2 h21 n0 Z21 J (ext_kept EB K21 all0) hBn S21 g_x g_t21 (by omega)) hZ (tw hw 308 rfl) (tw hw 32 rfl) (by decide) (by decide)) qa22 qc22 (g := (mkF m 46 #[vr w, vr x, vr it, vi v2] [(.int v2), (.ref x)])) rfl (by rw [hml]; rfl) (Steps.refl _) (argsL := [(.int v2)]) (rest := []) (lenOf pd37 rfl) rfl (by show 2 * 0 + _ ≤ _; exact Nat.le_of_eq rfl) (hb hby d5_46) (fun _ _ => ⟨rfl, e21, (by decide : 0 + 1 + 2 + 2 + 1 + 0 + 0 + 0 + 1 + 1 + 0 + 0 + 0 + 1 + 1 + 0 + 0 + 0 + 1 + 1 ≤ _), (by decide : 0 + 4 + (24 + 4) + 90 + 4 + 0 + 0 + 0 + 64 + 64 + 0 + 0 + 0 + 64 + 64 + 0 + 0 + 0 + 64 + 64 ≤ _)⟩))
  obtain ⟨t22, N_22, F22, rfl, N22, Kc22, q_t22, S22, q_f22, q_c22⟩ := hQ22
  have M22 := Fr.app M21 N22
  obtain ⟨h22, e22⟩ : ∃ z, T22.heap = z := ⟨_, rfl⟩
  rw [e22] at Kc22 S22
  have Z22 : n0 ≤ h22.size := Nat.le_trans Z21 Kc22.1
  have K22 := K21.trans Kc22 (allS (Or.inr sz_x) (allS (Or.inr sz_t21) all0))
  have It22 := It21.keep Kc22 (ninS (Ne.symm nxi) (ninS (Ne.symm nti_t21) nin0))
  have sz_t22 : h0.size ≤ t22 := q_t22.elim (fun q => by rw [q]; exact sz_t21) (fun q => Nat.le_trans K21.1 q)
  have g_t22 : n0 ≤ t22 := q_t22.elim (fun q => by rw [q]; exact g_t21) (fun q => Nat.le_trans Z21 q)
  have nti_t22 : t22 ≠ it := q_t22.elim (fun q => by rw [q]; exact nti_t21) (fun q => Ne.symm (Nat.ne_of_lt (Nat.lt_of_lt_of_le It21.1.lt q)))
  have hk := Nat.le_trans hk Kc22.1
  have W6_22 : ∀ j, j < 6 → F22 j = gW j := fun j hj => (q_f22 j (by omega)).trans (W6_21 j hj)
  have Sg0_22 : Sg F22 (6) v0 := Sg0_21.mono (fun j hj => q_f22 j (by omega))
  have Sg1_22 : Sg F22 (6 + 1 + sl v0) v1 := Sg1_21.mono (fun j hj => q_f22 j (by omega))
  have Sg2_22 : Sg F22 (6 + 1 + sl v0 + 1 + sl v1) v2 := ⟨(q_f22 _ (by omega)).trans q_c21, q_c22⟩
  refine EndsK.tr st22 ?_
  refine EndsK.go (fun _ kz => XS.pop X22.here hx rfl (hb hby d5_49) rfl rfl (XS.goto X22.here hx rfl (pc0 := 50) (pc' := 17) rfl (hb hby d5_50) (by decide) (by decide) (XS.aloadN X22.here hx rfl (hb hby d5_17) rfl rfl kz))) ?_
  obtain ⟨cq23, kq23, qa23, qb23, qc23⟩ := isOf hZ e22 It22.1
  obtain ⟨_, T23, Lc23, X23, hQ23, st23⟩ := doneT X22 (X22.interfaceBack hx (C := "java/util/ArrayList$Itr") (xi := mn61) (y := mn56) hown (mvT hZ (tw hw 136 rfl)) (mvT hZ (tw hw 137 rfl)) (mvT hZ (tw hw 138 rfl)) (mvT hZ (tw hw 139 rfl)) (mvT hZ (tw hw 140 rfl)) (mvT hZ (tw hw 141 rfl)) (mvT hZ (tw hw 142 rfl)) (mvT hZ (tw hw 143 rfl)) (by decide) (backOf (W := 0) (rm_hnF l Z a0 hw [] it w te 3 3 mc h22 n0 Z22 It22 (I0.ext (ext_kept (ext_refl h0) K22 all0)) rfl (by decide)) hZ (tw hw 144 rfl) (tw hw 122 rfl) (by decide) (by decide)) qa23 qb23 qc23 (g := (mkF m 18 #[vr w, vr x, vr it, vi v2] [(.ref it)])) rfl (by rw [hml]; rfl) (Steps.refl _) (argsL := []) (rest := []) (lenOf pd14 rfl) rfl (by show 2 * 0 + _ ≤ _; exact Nat.le_of_eq rfl) (hb hby d5_18) (fun _ _ => ⟨rfl, e22, (by decide : 0 + 1 + 2 + 2 + 1 + 0 + 0 + 0 + 1 + 1 + 0 + 0 + 0 + 1 + 1 + 0 + 0 + 0 + 1 + 1 + 0 ≤ _), (by decide : 0 + 4 + (24 + 4) + 90 + 4 + 0 + 0 + 0 + 64 + 64 + 0 + 0 + 0 + 64 + 64 + 0 + 0 + 0 + 64 + 64 + 0 ≤ _)⟩))
  obtain ⟨rfl, N23, e23⟩ := hQ23
  have M23 := Fr.app M22 N23
  refine EndsK.tr st23 ?_
  refine EndsK.go (fun _ kz => XS.ifYes X23.here hx rfl (pc0 := 23) (pc' := 53) rfl (hb hby d5_23) rfl ((if0 _ _).trans (teq (rfl : (0 : Int32) = (0 : Int32))).1) (by decide) (by decide) (XS.aloadN X23.here hx rfl (hb hby d5_53) rfl rfl kz)) ?_
  obtain ⟨cq24, kq24, qa24, qb24, qc24⟩ := isOf hZ e23 S22.1
  obtain ⟨_, T24, Lc24, X24, hQ24, st24⟩ := doneT X23 (X23.virtualBack hx (y := mn36) (z := mn36) hown (mvT hZ (tw hw 149 rfl)) (mvT hZ (tw hw 150 rfl)) (notFace_of_selects (args := #[]) (mvT hZ (tw hw 152 rfl))) (mvT hZ (tw hw 152 rfl)) (mvT hZ (tw hw 151 rfl)) (by decide) (backOf (W := 0) (rm_tos l Z a0 hw [] zc x t22 N_22 F22 (6 + 1 + sl v0 + 1 + sl v1 + 1 + sl v2) h22 n0 Z22 (J.SC.ext (ext_kept EB K22 all0)) J.hzc S22) hZ (tw hw 153 rfl) (tw hw 32 rfl) (by decide) (by decide)) qa24 qc24 (g := (mkF m 54 #[vr w, vr x, vr it, vi v2] [(.ref x)])) rfl (by rw [hml]; rfl) (Steps.refl _) (argsL := []) (rest := []) (lenOf pd34 rfl) rfl (by show 2 * 0 + _ ≤ _; exact Nat.le_of_eq rfl) (hb hby d5_54) (fun _ _ => ⟨rfl, e23, (by decide : 0 + 1 + 2 + 2 + 1 + 0 + 0 + 0 + 1 + 1 + 0 + 0 + 0 + 1 + 1 + 0 + 0 + 0 + 1 + 1 + 0 + 2 ≤ _), (by decide : 0 + 4 + (24 + 4) + 90 + 4 + 0 + 0 + 0 + 64 + 64 + 0 + 0 + 0 + 64 + 64 + 0 + 0 + 0 + 64 + 64 + 0 + 72 ≤ _)⟩))
  obtain ⟨sa24, sb24, F24, rfl, N24, E24, Ea24, Fc24, Fv24, B24, q_f24⟩ := hQ24
  have M24 := Fr.app M23 N24
  obtain ⟨h24, e24⟩ : ∃ z, T24.heap = z := ⟨_, rfl⟩
  rw [e24] at E24 Ea24 Fc24 Fv24 B24
  have Z24 : n0 ≤ h24.size := Nat.le_trans Z22 E24.1
  have K24 := K22.ext E24
  have hk := Nat.le_trans hk E24.1
  refine EndsK.tr st24 ?_
  show EndsK p e below _ (T24.setTop (mkF m 57 #[vr w, vr x, vr it, vi v2] [(.ref sa24)]))
  exact endRW X24 hS (by rw [e24]; exact hk) hx Bd.returns rfl rfl (hb hby d5_57) hlk ⟨sa24, sb24, F24, rfl, M24, by rw [e24]; exact (ext_kept (ext_refl h0) K24 all0), by rw [e24]; exact Ea24, by rw [e24]; exact Fc24, by rw [e24]; exact Fv24, by rw [e24]; exact B24, fun j hj => (q_f24 j (by omega)).trans (W6_22 j hj), Sg0_22.mono (fun j hj => q_f24 j (by omega)), Sg1_22.mono (fun j hj => q_f24 j (by omega)), Sg2_22.mono (fun j hj => q_f24 j (by omega))⟩ (by decide) (by decide)
theorem ef_law (m : MethodId) (i0 : Int32) (i1 : Int32) (i2 : Int32) (i3 : Int32) (zc : Int32) (o : Addr) (d : Addr) (u : Value) (dce : Addr) (cd : Cell) (ca : Addr) (cl : Cell) : entryFrame m #[(.int i0), (.int i1), (.int i2), (.int i3)] maxLocals = mkF m 0 #[vi i0, vi i1, vi i2, vi i3, .unset, .unset, .unset, .unset, .unset, .unset, .unset, .unset] [] := by first | (simp [entryFrame, mkF, argsToLocals, Value.category, maxLocals]; done) | rfl
def Q_law (Z : State) (i0 : Int32) (i1 : Int32) (i2 : Int32) (i3 : Int32) (zc : Int32) (o : Addr) (d : Addr) (u : Value) (dce : Addr) (cd : Cell) (ca : Addr) (cl : Cell) (h0 : Heap) (n0 : Nat) (vz : Option Value) (hz : Heap) (Lz : List Loc) : Prop := vz = some (.int 1) ∧ Fr n0 Lz
theorem pd38 : parseMethodDescriptor "(Ljava/util/List;)Ljava/lang/String;" = some ⟨[(.object "java/util/List")], some (.object "java/lang/String")⟩ := by decide +kernel
theorem pd39 : parseMethodDescriptor "(I)Ljava/lang/Integer;" = some ⟨[.int], some (.object "java/lang/Integer")⟩ := by decide +kernel
theorem pd40 : parseMethodDescriptor "(Ljava/lang/Object;)Z" = some ⟨[(.object "java/lang/Object")], some .boolean⟩ := by decide +kernel
theorem pd41 : parseMethodDescriptor "(Ljava/lang/String;II)Z" = some ⟨[(.object "java/lang/String"), .int, .int], some .boolean⟩ := by decide +kernel
set_option maxRecDepth 65536 in
set_option maxHeartbeats 40000000 in
theorem rm_law (l : Launch) (Z : State) (a0 : Array Value) (hw : ∀ d ∈ tables_1, d.before a0 Z = true) (ws : List Jvm.Cond) (i0 : Int32) (i1 : Int32) (i2 : Int32) (i3 : Int32) (zc : Int32) (o : Addr) (d : Addr) (u : Value) (dce : Addr) (cd : Cell) (ca : Addr) (cl : Cell) (h0 : Heap) (n0 : Nat) (Z0 : n0 ≤ h0.size) (hn0 : n0 = h0.size) (J : JS Z h0 zc o d u) (L0 : LS Z h0 dce cd) (C0 : IC Z h0 ca cl) :
    MetFree l x (head1 (Jvm.Cond.code x code maxLocals ret :: ws) room_1) (fun az Uz => az = #[(.int i0), (.int i1), (.int i2), (.int i3)] ∧ Z.Warmed39 Uz.vm ∧ Uz.heap = h0 ∧ CHv Z EL1 Uz.vm h0) (fun _ _ _ _ _ => True) (fun _ Uz oz Ut => ∃ vz Lz, oz = .returned vz ∧ Q_law Z i0 i1 i2 i3 zc o d u dce cd ca cl h0 n0 vz Ut.heap Lz ∧ ReturnedEndW Uz oz Ut Lz (room_1).cells (room_1).slots) := by
  refine MetFree.of_bodySF (plainFor_of_name pn0) hisR ?_
  intro p e s m args below meth c s₁ Bd hml0 hP hK
  obtain ⟨rfl, hZ, hh, hCH⟩ := hP
  have hx := Bd.exec
  have hby := Bd.bytes
  have hml : c.maxLocals = 12 := hml0
  have hown : s.vm.findClass "com/example/guildtable/guildtable/table/WinnersLinePinLaw" = some m.cls := findClass_of_methodNamed Bd.named
  have hnm := (name_of_methodNamed Bd.named Bd.method).1
  have hlk : meth.locks = false := Bd.notSynchronized
  have X0 : Stand p l e room_1 s m #[(.int i0), (.int i1), (.int i2), (.int i3)] below meth c s₁ [] 0 0 := Stand.of_body Bd
  have e0 : s₁.heap = h0 := by rw [← hh, Bd.state]; rfl
  have N0 := Fr.nil n0
  show EndsK p e below (OW s (Q_law Z i0 i1 i2 i3 zc o d u dce cd ca cl h0 n0) (room_1).cells (room_1).slots) (s₁.setTop (entryFrame m #[(.int i0), (.int i1), (.int i2), (.int i3)] maxLocals))
  refine EndsK.start (ef_law m i0 i1 i2 i3 zc o d u dce cd ca cl) ?_
  have hEL : EW Z a0 EL1 := EW.cons (text := "winner") (tw hw 33 rfl) (by decide) EW.nil
  have wS : ∀ a ∈ Bundle.stringAtoms, a.before a0 Z = true := fun d hd => hw d ((by decide +kernel : ∀ d ∈ Bundle.stringAtoms, d ∈ tables_1) d hd)
  have K0 : Keep h0 h0 [] := Keep.refl _ _
  refine EndsK.go (fun _ kz => XS.iloadN X0.here hx rfl (hb hby at_0) rfl (XS.iconst X0.here hx rfl (hb hby at_1) (XS.iand X0.here hx rfl (hb hby at_2) rfl kz))) ?_
  rcases and3 i0 with hk3 | hk3 | hk3 | hk3
  · refine EndsK.start (congrArg (fun z_ => (mkF m 3 #[vi i0, vi i1, vi i2, vi i3, .unset, .unset, .unset, .unset, .unset, .unset, .unset, .unset] [(.int z_)])) (hk3 : (i0 &&& (3 : Int32)) = (0 : Int32))) ?_
    refine EndsK.go (fun _ kz => XS.istore X0.here hx rfl (hb hby at_3) rfl (l' := #[vi i0, vi i1, vi i2, vi i3, vi (0 : Int32), .unset, .unset, .unset, .unset, .unset, .unset, .unset]) rfl kz) ?_
    obtain ⟨T21, h21, X21, e21, E21, A21, D21, -, st21⟩ := newO X0 hx hZ hown (tw hw 0 rfl) (tw hw 1 rfl) (tw hw 2 rfl) e0 (g := (mkF m 5 #[vi i0, vi i1, vi i2, vi i3, vi (0 : Int32), .unset, .unset, .unset, .unset, .unset, .unset, .unset] [])) rfl (hb hby at_5) (by decide) (by decide)
    obtain ⟨w, g21⟩ : ∃ z, z = h0.size := ⟨_, rfl⟩
    rw [← g21] at A21 D21 st21
    refine EndsK.go st21 ?_
    have F21_modCount : Fld Z h21 w "java/util/AbstractList" "modCount" "I" (.int (0 : Int32)) := D21 (Or.inl (tw hw 22 rfl)) (ty := .int) (by decide)
    have F21_elementData : Fld Z h21 w "java/util/ArrayList" "elementData" "[Ljava/lang/Object;" .null := D21 (Or.inl (tw hw 25 rfl)) (ty := (.array (.object "java/lang/Object"))) (by decide)
    have F21_size : Fld Z h21 w "java/util/ArrayList" "size" "I" (.int (0 : Int32)) := D21 (Or.inl (tw hw 148 rfl)) (ty := .int) (by decide)
    have Z21 : n0 ≤ h21.size := Nat.le_trans Z0 E21.1
    have G21 : n0 ≤ w := by rw [g21]; exact Z0
    have K21 := K0.ext E21
    have sz_w : h0.size ≤ w := by rw [g21]; exact K0.1
    refine EndsK.go (fun _ kz => XS.dup X21.here hx rfl (hb hby at_8) rfl rfl kz) ?_
    obtain ⟨_, T22, Lc22, X22, hQ22, st22⟩ := doneT X21 (X21.specialBack hx (y := mn49) rfl hown (mvT hZ (tw hw 3 rfl)) (mvT hZ (tw hw 4 rfl)) (mvT hZ (tw hw 5 rfl)) (by decide) (backOf (W := 1) (rm_ali l Z a0 hw [] h0 dce cd w h21 n0 Z21 L0 (ext_kept (ext_refl h0) K21 all0) sz_w A21 F21_size F21_elementData F21_modCount G21) hZ (tw hw 5 rfl) (tw hw 2 rfl) (by decide) (by decide)) (g := (mkF m 9 #[vi i0, vi i1, vi i2, vi i3, vi (0 : Int32), .unset, .unset, .unset, .unset, .unset, .unset, .unset] [(.ref w), (.ref w)])) rfl (by rw [hml]; rfl) (Steps.refl _) (a := w) (argsL := []) (rest := [(.ref w)]) (lenOf pd28 rfl) rfl (by show 2 * 0 + _ ≤ _; exact Nat.le_of_eq rfl) (hb hby at_9) (fun _ _ => ⟨rfl, e21, (by decide : 0 + 1 + 0 ≤ _), (by decide : 0 + 3 + 0 ≤ _)⟩))
    obtain ⟨rfl, N22, Kc22, I22⟩ := hQ22
    have M22 := Fr.app N0 N22
    obtain ⟨h22, e22⟩ : ∃ z, T22.heap = z := ⟨_, rfl⟩
    rw [e22] at Kc22 I22
    have Z22 : n0 ≤ h22.size := Nat.le_trans Z21 Kc22.1
    have K22 := K21.trans Kc22 (allS (Or.inr sz_w) all0)
    have E22_w := A21.keep Kc22
    have g_w := G21
    refine EndsK.tr st22 ?_
    refine EndsK.go (fun _ kz => XS.astore X22.here hx rfl (hb hby at_12) rfl rfl (l' := #[vi i0, vi i1, vi i2, vi i3, vi (0 : Int32), vr w, .unset, .unset, .unset, .unset, .unset, .unset]) rfl (XS.iload X22.here hx rfl (hb hby at_14) rfl (XS.ifYes X22.here hx rfl (pc0 := 16) (pc' := 31) rfl (hb hby at_16) rfl ((if0 _ _).trans (flt (by decide : ¬ ((0 : Int32) < (0 : Int32)))).2.2.2) (by decide) (by decide) (XS.iload X22.here hx rfl (hb hby at_31) rfl (XS.iconst X22.here hx rfl (hb hby at_33) (XS.icmpYes X22.here hx rfl (pc0 := 34) (pc' := 49) rfl (hb hby at_34) rfl (flt (by decide : ¬ ((1 : Int32) < (0 : Int32)))).2.2.2 (by decide) (by decide) (XS.iload X22.here hx rfl (hb hby at_49) rfl kz))))))) ?_
    show EndsK p e below _ (T22.setTop (mkF m 51 #[vi i0, vi i1, vi i2, vi i3, vi (0 : Int32), vr w, .unset, .unset, .unset, .unset, .unset, .unset] [(.int (0 : Int32))]))
    refine EndsK.go (fun _ kz => XS.iconst X22.here hx rfl (hb hby at_51) (XS.icmpYes X22.here hx rfl (pc0 := 52) (pc' := 67) rfl (hb hby at_52) rfl (flt (by decide : ¬ ((2 : Int32) < (0 : Int32)))).2.2.2 (by decide) (by decide) (XS.aload X22.here hx rfl (hb hby at_67) rfl rfl kz))) ?_
    have hCH := hCH.ext (ext_kept (ext_refl h0) K22 all0)
    obtain ⟨_, _, ⟨T23, L23, k23, n23⟩, -, X23, hS, gr23, ⟨Lc23, hQ23, l23, y23, z23⟩, st23⟩ := callSS X22 hx (y := mn59) hown (mvT hZ (tw hw 26 rfl)) (mvT hZ (tw hw 27 rfl)) (mvT hZ (tw hw 28 rfl)) (mvT hZ (tw hw 29 rfl)) (by decide) (backOfC (W := 0) (rm_line0 l Z a0 hw [] h0 zc o d u w dce (0 : Int32)    h22 n0 Z22 J (ext_kept (ext_refl h0) K22 all0) (Nat.le_of_eq hn0.symm) I22  ) hZ (tw hw 29 rfl) (tw hw 28 rfl) (by decide) (by decide) hEL hCH) (g := (mkF m 69 #[vi i0, vi i1, vi i2, vi i3, vi (0 : Int32), vr w, .unset, .unset, .unset, .unset, .unset, .unset] [(.ref w)])) rfl (by rw [hml]; rfl) (argsL := [(.ref w)]) (rest := []) (lenOf pd38 rfl) rfl (by show 2 * 0 + _ ≤ _; exact Nat.le_of_eq rfl) (hb hby at_69) (fun _ _ => ⟨rfl, e22, (by decide : 0 + 1 + 0 + 14 ≤ _), (by decide : 0 + 3 + 0 + 600 ≤ _)⟩)
    dsimp only [Pt.U, Pt.locs, Pt.cells, Pt.slots] at X23 hS gr23 l23 y23 z23 st23 hQ23
    subst l23 y23 z23
    refine EndsK.tr st23 ?_
    obtain ⟨sa, sb, FF, rfl, N23, E23, Ea, Fc, Fv, BF, W6⟩ := hQ23
    have M23 := Fr.app M22 N23
    have hZ : Z.Warmed39 (s.setVm T23.vm).vm := State.Warmed39.trans hZ hS.1
    have hown : (s.setVm T23.vm).vm.findClass "com/example/guildtable/guildtable/table/WinnersLinePinLaw" = some m.cls := (hS.1.alike.findClass _ _).trans hown
    obtain ⟨h23, e23⟩ : ∃ z, T23.heap = z := ⟨_, rfl⟩
    rw [e23] at E23 Ea Fc Fv BF
    have hk : T23.heap.size ≤ h23.size := Nat.le_of_eq (congrArg Array.size e23)
    have Z23 : n0 ≤ h23.size := Nat.le_trans Z22 E23.1
    have K23 := K22.ext E23
    obtain ⟨cS, AS, zS, lS, HS⟩ := id BF
    have JF := J.ext (ext_kept (ext_refl h0) K23 all0)
    refine EndsK.go (fun _ kz => XS.astore X23.here hx rfl (hb hby at_72) rfl rfl (l' := #[vi i0, vi i1, vi i2, vi i3, vi (0 : Int32), vr w, vr sa, .unset, .unset, .unset, .unset, .unset]) rfl (XS.iload X23.here hx rfl (hb hby at_74) rfl (XS.ifYes X23.here hx rfl (pc0 := 76) (pc' := 86) rfl (hb hby at_76) rfl ((if0 _ _).trans (flt (by decide : ¬ ((0 : Int32) < (0 : Int32)))).2.2.2) (by decide) (by decide) (XS.iconst X23.here hx rfl (hb hby at_86) (XS.istore X23.here hx rfl (hb hby at_87) rfl (l' := #[vi i0, vi i1, vi i2, vi i3, vi (0 : Int32), vr w, vr sa, vi (0 : Int32), .unset, .unset, .unset, .unset]) rfl (XS.iload X23.here hx rfl (hb hby at_89) rfl (XS.iconst X23.here hx rfl (hb hby at_91) kz))))))) ?_
    show EndsK p e below _ (T23.setTop (mkF m 92 #[vi i0, vi i1, vi i2, vi i3, vi (0 : Int32), vr w, vr sa, vi (0 : Int32), .unset, .unset, .unset, .unset] [(.int (1 : Int32)), (.int (0 : Int32))]))
    refine EndsK.go (fun _ kz => XS.icmpYes X23.here hx rfl (pc0 := 92) (pc' := 102) rfl (hb hby at_92) rfl (flt (by decide : ¬ ((1 : Int32) < (0 : Int32)))).2.2.2 (by decide) (by decide) (XS.iconst X23.here hx rfl (hb hby at_102) (XS.istore X23.here hx rfl (hb hby at_103) rfl (l' := #[vi i0, vi i1, vi i2, vi i3, vi (0 : Int32), vr w, vr sa, vi (0 : Int32), vi (0 : Int32), .unset, .unset, .unset]) rfl (XS.iload X23.here hx rfl (hb hby at_105) rfl (XS.iconst X23.here hx rfl (hb hby at_107) (XS.icmpYes X23.here hx rfl (pc0 := 108) (pc' := 118) rfl (hb hby at_108) rfl (flt (by decide : ¬ ((2 : Int32) < (0 : Int32)))).2.2.2 (by decide) (by decide) (XS.iconst X23.here hx rfl (hb hby at_118) kz))))))) ?_
    show EndsK p e below _ (T23.setTop (mkF m 119 #[vi i0, vi i1, vi i2, vi i3, vi (0 : Int32), vr w, vr sa, vi (0 : Int32), vi (0 : Int32), .unset, .unset, .unset] [(.int (0 : Int32))]))
    refine EndsK.go (fun _ kz => XS.istore X23.here hx rfl (hb hby at_119) rfl (l' := #[vi i0, vi i1, vi i2, vi i3, vi (0 : Int32), vr w, vr sa, vi (0 : Int32), vi (0 : Int32), vi (0 : Int32), .unset, .unset]) rfl (XS.bipush X23.here hx rfl (hb hby at_121) (XS.iload X23.here hx rfl (hb hby at_123) rfl (XS.iadd X23.here hx rfl (hb hby at_125) rfl (XS.iload X23.here hx rfl (hb hby at_126) rfl (XS.iadd X23.here hx rfl (hb hby at_128) rfl (XS.iload X23.here hx rfl (hb hby at_129) rfl kz))))))) ?_
    show EndsK p e below _ (T23.setTop (mkF m 131 #[vi i0, vi i1, vi i2, vi i3, vi (0 : Int32), vr w, vr sa, vi (0 : Int32), vi (0 : Int32), vi (0 : Int32), .unset, .unset] [(.int (0 : Int32)), (.int (6 : Int32))]))
    refine EndsK.go (fun _ kz => XS.iadd X23.here hx rfl (hb hby at_131) rfl (XS.istore X23.here hx rfl (hb hby at_132) rfl (l' := #[vi i0, vi i1, vi i2, vi i3, vi (0 : Int32), vr w, vr sa, vi (0 : Int32), vi (0 : Int32), vi (0 : Int32), vi (6 : Int32), .unset]) rfl (XS.aload X23.here hx rfl (hb hby at_134) rfl rfl kz))) ?_
    obtain ⟨cq24, kq24, qa24, qb24, qc24⟩ := isOf hZ e23 Ea
    obtain ⟨_, T24, Lc24, X24, hQ24, st24⟩ := doneT X23 (X23.virtualBack hx (y := mn9) (z := mn9) hown (mvT hZ (tw hw 196 rfl)) (mvT hZ (tw hw 52 rfl)) (notFace_of_selects (args := #[]) (mvT hZ (tw hw 54 rfl))) (mvT hZ (tw hw 54 rfl)) (mvT hZ (tw hw 53 rfl)) (by decide) (backOf (W := 0) (rm_slen l Z a0 hw [] sa zc sb cS (Int32.ofNat (6)) h23 n0 Z23 JF.SC JF.hzc Ea Fc Fv AS (by rw [zS])) hZ (tw hw 55 rfl) (tw hw 34 rfl) (by decide) (by decide)) qa24 qc24 (g := (mkF m 136 #[vi i0, vi i1, vi i2, vi i3, vi (0 : Int32), vr w, vr sa, vi (0 : Int32), vi (0 : Int32), vi (0 : Int32), vi (6 : Int32), .unset] [(.ref sa)])) rfl (by rw [hml]; rfl) (Steps.refl _) (argsL := []) (rest := []) (lenOf pd9 rfl) rfl (by show 2 * 0 + _ ≤ _; exact Nat.le_of_eq rfl) (hb hby at_136) (fun _ _ => ⟨rfl, e23, (by decide : 0 + 1 + 0 + 14 + 0 ≤ _), (by decide : 0 + 3 + 0 + 600 + 0 ≤ _)⟩))
    obtain ⟨rfl, N24, e24⟩ := hQ24
    have M24 := Fr.app M23 N24
    refine EndsK.tr st24 ?_
    refine EndsK.go (fun _ kz => XS.iload X24.here hx rfl (hb hby at_139) rfl (XS.icmpYes X24.here hx rfl (pc0 := 141) (pc' := 146) rfl (hb hby at_141) rfl (teq (rfl : (Int32.ofNat (6)) = (6 : Int32))).1 (by decide) (by decide) (XS.aload X24.here hx rfl (hb hby at_146) rfl rfl (XS.iconst X24.here hx rfl (hb hby at_148) kz)))) ?_
    refine EndsK.start (congrArg (fun z_ => (mkF m 149 #[vi i0, vi i1, vi i2, vi i3, vi (0 : Int32), vr w, vr sa, vi (0 : Int32), vi (0 : Int32), vi (0 : Int32), vi (6 : Int32), .unset] [(.int z_), (.ref sa)])) (rfl : (0 : Int32) = (Int32.ofNat 0))) ?_
    obtain ⟨cq25, kq25, qa25, qb25, qc25⟩ := isOf hZ e24 Ea
    obtain ⟨_, T25, Lc25, X25, hQ25, st25⟩ := doneT X24 (X24.virtualBack hx (y := mn41) (z := mn41) hown (mvT hZ (tw hw 197 rfl)) (mvT hZ (tw hw 198 rfl)) (notFace_of_selects (args := #[]) (mvT hZ (tw hw 200 rfl))) (mvT hZ (tw hw 200 rfl)) (mvT hZ (tw hw 199 rfl)) (by decide) (backOf (W := 0) (rm_chA l Z a0 hw [] zc o d u sa sb FF 0 (6) h23 n0 Z23 JF Ea Fc Fv BF (by omega) (by omega)) hZ (tw hw 201 rfl) (tw hw 34 rfl) (by decide) (by decide)) qa25 qc25 (g := (mkF m 149 #[vi i0, vi i1, vi i2, vi i3, vi (0 : Int32), vr w, vr sa, vi (0 : Int32), vi (0 : Int32), vi (0 : Int32), vi (6 : Int32), .unset] [(.int (Int32.ofNat 0)), (.ref sa)])) rfl (by rw [hml]; rfl) (Steps.refl _) (argsL := [(.int (Int32.ofNat 0))]) (rest := []) (lenOf pd26 rfl) rfl (by show 2 * 0 + _ ≤ _; exact Nat.le_of_eq rfl) (hb hby at_149) (fun _ _ => ⟨rfl, e24, (by decide : 0 + 1 + 0 + 14 + 0 + 0 ≤ _), (by decide : 0 + 3 + 0 + 600 + 0 + 0 ≤ _)⟩))
    obtain ⟨rfl, N25, e25⟩ := hQ25
    have M25 := Fr.app M24 N25
    refine EndsK.tr st25 ?_
    refine EndsK.go (fun _ kz => XS.bipush X25.here hx rfl (hb hby at_152) (XS.icmpNo X25.here hx rfl (hb hby at_154) rfl (teq (chF_of (k := 119) ((W6 0 (by decide)).trans rfl) (by decide))).2 (XS.aload X25.here hx rfl (hb hby at_157) rfl rfl (XS.iconst X25.here hx rfl (hb hby at_159) kz)))) ?_
    refine EndsK.start (congrArg (fun z_ => (mkF m 160 #[vi i0, vi i1, vi i2, vi i3, vi (0 : Int32), vr w, vr sa, vi (0 : Int32), vi (0 : Int32), vi (0 : Int32), vi (6 : Int32), .unset] [(.int z_), (.ref sa)])) (rfl : (1 : Int32) = (Int32.ofNat 1))) ?_
    obtain ⟨cq26, kq26, qa26, qb26, qc26⟩ := isOf hZ e25 Ea
    obtain ⟨_, T26, Lc26, X26, hQ26, st26⟩ := doneT X25 (X25.virtualBack hx (y := mn41) (z := mn41) hown (mvT hZ (tw hw 197 rfl)) (mvT hZ (tw hw 198 rfl)) (notFace_of_selects (args := #[]) (mvT hZ (tw hw 200 rfl))) (mvT hZ (tw hw 200 rfl)) (mvT hZ (tw hw 199 rfl)) (by decide) (backOf (W := 0) (rm_chA l Z a0 hw [] zc o d u sa sb FF 1 (6) h23 n0 Z23 JF Ea Fc Fv BF (by omega) (by omega)) hZ (tw hw 201 rfl) (tw hw 34 rfl) (by decide) (by decide)) qa26 qc26 (g := (mkF m 160 #[vi i0, vi i1, vi i2, vi i3, vi (0 : Int32), vr w, vr sa, vi (0 : Int32), vi (0 : Int32), vi (0 : Int32), vi (6 : Int32), .unset] [(.int (Int32.ofNat 1)), (.ref sa)])) rfl (by rw [hml]; rfl) (Steps.refl _) (argsL := [(.int (Int32.ofNat 1))]) (rest := []) (lenOf pd26 rfl) rfl (by show 2 * 0 + _ ≤ _; exact Nat.le_of_eq rfl) (hb hby at_160) (fun _ _ => ⟨rfl, e25, (by decide : 0 + 1 + 0 + 14 + 0 + 0 + 0 ≤ _), (by decide : 0 + 3 + 0 + 600 + 0 + 0 + 0 ≤ _)⟩))
    obtain ⟨rfl, N26, e26⟩ := hQ26
    have M26 := Fr.app M25 N26
    refine EndsK.tr st26 ?_
    refine EndsK.go (fun _ kz => XS.bipush X26.here hx rfl (hb hby at_163) (XS.icmpNo X26.here hx rfl (hb hby at_165) rfl (teq (chF_of (k := 105) ((W6 1 (by decide)).trans rfl) (by decide))).2 (XS.aload X26.here hx rfl (hb hby at_168) rfl rfl (XS.iconst X26.here hx rfl (hb hby at_170) kz)))) ?_
    refine EndsK.start (congrArg (fun z_ => (mkF m 171 #[vi i0, vi i1, vi i2, vi i3, vi (0 : Int32), vr w, vr sa, vi (0 : Int32), vi (0 : Int32), vi (0 : Int32), vi (6 : Int32), .unset] [(.int z_), (.ref sa)])) (rfl : (2 : Int32) = (Int32.ofNat 2))) ?_
    obtain ⟨cq27, kq27, qa27, qb27, qc27⟩ := isOf hZ e26 Ea
    obtain ⟨_, T27, Lc27, X27, hQ27, st27⟩ := doneT X26 (X26.virtualBack hx (y := mn41) (z := mn41) hown (mvT hZ (tw hw 197 rfl)) (mvT hZ (tw hw 198 rfl)) (notFace_of_selects (args := #[]) (mvT hZ (tw hw 200 rfl))) (mvT hZ (tw hw 200 rfl)) (mvT hZ (tw hw 199 rfl)) (by decide) (backOf (W := 0) (rm_chA l Z a0 hw [] zc o d u sa sb FF 2 (6) h23 n0 Z23 JF Ea Fc Fv BF (by omega) (by omega)) hZ (tw hw 201 rfl) (tw hw 34 rfl) (by decide) (by decide)) qa27 qc27 (g := (mkF m 171 #[vi i0, vi i1, vi i2, vi i3, vi (0 : Int32), vr w, vr sa, vi (0 : Int32), vi (0 : Int32), vi (0 : Int32), vi (6 : Int32), .unset] [(.int (Int32.ofNat 2)), (.ref sa)])) rfl (by rw [hml]; rfl) (Steps.refl _) (argsL := [(.int (Int32.ofNat 2))]) (rest := []) (lenOf pd26 rfl) rfl (by show 2 * 0 + _ ≤ _; exact Nat.le_of_eq rfl) (hb hby at_171) (fun _ _ => ⟨rfl, e26, (by decide : 0 + 1 + 0 + 14 + 0 + 0 + 0 + 0 ≤ _), (by decide : 0 + 3 + 0 + 600 + 0 + 0 + 0 + 0 ≤ _)⟩))
    obtain ⟨rfl, N27, e27⟩ := hQ27
    have M27 := Fr.app M26 N27
    refine EndsK.tr st27 ?_
    refine EndsK.go (fun _ kz => XS.bipush X27.here hx rfl (hb hby at_174) (XS.icmpNo X27.here hx rfl (hb hby at_176) rfl (teq (chF_of (k := 110) ((W6 2 (by decide)).trans rfl) (by decide))).2 (XS.aload X27.here hx rfl (hb hby at_179) rfl rfl (XS.iconst X27.here hx rfl (hb hby at_181) kz)))) ?_
    refine EndsK.start (congrArg (fun z_ => (mkF m 182 #[vi i0, vi i1, vi i2, vi i3, vi (0 : Int32), vr w, vr sa, vi (0 : Int32), vi (0 : Int32), vi (0 : Int32), vi (6 : Int32), .unset] [(.int z_), (.ref sa)])) (rfl : (3 : Int32) = (Int32.ofNat 3))) ?_
    obtain ⟨cq28, kq28, qa28, qb28, qc28⟩ := isOf hZ e27 Ea
    obtain ⟨_, T28, Lc28, X28, hQ28, st28⟩ := doneT X27 (X27.virtualBack hx (y := mn41) (z := mn41) hown (mvT hZ (tw hw 197 rfl)) (mvT hZ (tw hw 198 rfl)) (notFace_of_selects (args := #[]) (mvT hZ (tw hw 200 rfl))) (mvT hZ (tw hw 200 rfl)) (mvT hZ (tw hw 199 rfl)) (by decide) (backOf (W := 0) (rm_chA l Z a0 hw [] zc o d u sa sb FF 3 (6) h23 n0 Z23 JF Ea Fc Fv BF (by omega) (by omega)) hZ (tw hw 201 rfl) (tw hw 34 rfl) (by decide) (by decide)) qa28 qc28 (g := (mkF m 182 #[vi i0, vi i1, vi i2, vi i3, vi (0 : Int32), vr w, vr sa, vi (0 : Int32), vi (0 : Int32), vi (0 : Int32), vi (6 : Int32), .unset] [(.int (Int32.ofNat 3)), (.ref sa)])) rfl (by rw [hml]; rfl) (Steps.refl _) (argsL := [(.int (Int32.ofNat 3))]) (rest := []) (lenOf pd26 rfl) rfl (by show 2 * 0 + _ ≤ _; exact Nat.le_of_eq rfl) (hb hby at_182) (fun _ _ => ⟨rfl, e27, (by decide : 0 + 1 + 0 + 14 + 0 + 0 + 0 + 0 + 0 ≤ _), (by decide : 0 + 3 + 0 + 600 + 0 + 0 + 0 + 0 + 0 ≤ _)⟩))
    obtain ⟨rfl, N28, e28⟩ := hQ28
    have M28 := Fr.app M27 N28
    refine EndsK.tr st28 ?_
    refine EndsK.go (fun _ kz => XS.bipush X28.here hx rfl (hb hby at_185) (XS.icmpNo X28.here hx rfl (hb hby at_187) rfl (teq (chF_of (k := 110) ((W6 3 (by decide)).trans rfl) (by decide))).2 (XS.aload X28.here hx rfl (hb hby at_190) rfl rfl (XS.iconst X28.here hx rfl (hb hby at_192) kz)))) ?_
    refine EndsK.start (congrArg (fun z_ => (mkF m 193 #[vi i0, vi i1, vi i2, vi i3, vi (0 : Int32), vr w, vr sa, vi (0 : Int32), vi (0 : Int32), vi (0 : Int32), vi (6 : Int32), .unset] [(.int z_), (.ref sa)])) (rfl : (4 : Int32) = (Int32.ofNat 4))) ?_
    obtain ⟨cq29, kq29, qa29, qb29, qc29⟩ := isOf hZ e28 Ea
    obtain ⟨_, T29, Lc29, X29, hQ29, st29⟩ := doneT X28 (X28.virtualBack hx (y := mn41) (z := mn41) hown (mvT hZ (tw hw 197 rfl)) (mvT hZ (tw hw 198 rfl)) (notFace_of_selects (args := #[]) (mvT hZ (tw hw 200 rfl))) (mvT hZ (tw hw 200 rfl)) (mvT hZ (tw hw 199 rfl)) (by decide) (backOf (W := 0) (rm_chA l Z a0 hw [] zc o d u sa sb FF 4 (6) h23 n0 Z23 JF Ea Fc Fv BF (by omega) (by omega)) hZ (tw hw 201 rfl) (tw hw 34 rfl) (by decide) (by decide)) qa29 qc29 (g := (mkF m 193 #[vi i0, vi i1, vi i2, vi i3, vi (0 : Int32), vr w, vr sa, vi (0 : Int32), vi (0 : Int32), vi (0 : Int32), vi (6 : Int32), .unset] [(.int (Int32.ofNat 4)), (.ref sa)])) rfl (by rw [hml]; rfl) (Steps.refl _) (argsL := [(.int (Int32.ofNat 4))]) (rest := []) (lenOf pd26 rfl) rfl (by show 2 * 0 + _ ≤ _; exact Nat.le_of_eq rfl) (hb hby at_193) (fun _ _ => ⟨rfl, e28, (by decide : 0 + 1 + 0 + 14 + 0 + 0 + 0 + 0 + 0 + 0 ≤ _), (by decide : 0 + 3 + 0 + 600 + 0 + 0 + 0 + 0 + 0 + 0 ≤ _)⟩))
    obtain ⟨rfl, N29, e29⟩ := hQ29
    have M29 := Fr.app M28 N29
    refine EndsK.tr st29 ?_
    refine EndsK.go (fun _ kz => XS.bipush X29.here hx rfl (hb hby at_196) (XS.icmpNo X29.here hx rfl (hb hby at_198) rfl (teq (chF_of (k := 101) ((W6 4 (by decide)).trans rfl) (by decide))).2 (XS.aload X29.here hx rfl (hb hby at_201) rfl rfl (XS.iconst X29.here hx rfl (hb hby at_203) kz)))) ?_
    refine EndsK.start (congrArg (fun z_ => (mkF m 204 #[vi i0, vi i1, vi i2, vi i3, vi (0 : Int32), vr w, vr sa, vi (0 : Int32), vi (0 : Int32), vi (0 : Int32), vi (6 : Int32), .unset] [(.int z_), (.ref sa)])) (rfl : (5 : Int32) = (Int32.ofNat 5))) ?_
    obtain ⟨cq30, kq30, qa30, qb30, qc30⟩ := isOf hZ e29 Ea
    obtain ⟨_, T30, Lc30, X30, hQ30, st30⟩ := doneT X29 (X29.virtualBack hx (y := mn41) (z := mn41) hown (mvT hZ (tw hw 197 rfl)) (mvT hZ (tw hw 198 rfl)) (notFace_of_selects (args := #[]) (mvT hZ (tw hw 200 rfl))) (mvT hZ (tw hw 200 rfl)) (mvT hZ (tw hw 199 rfl)) (by decide) (backOf (W := 0) (rm_chA l Z a0 hw [] zc o d u sa sb FF 5 (6) h23 n0 Z23 JF Ea Fc Fv BF (by omega) (by omega)) hZ (tw hw 201 rfl) (tw hw 34 rfl) (by decide) (by decide)) qa30 qc30 (g := (mkF m 204 #[vi i0, vi i1, vi i2, vi i3, vi (0 : Int32), vr w, vr sa, vi (0 : Int32), vi (0 : Int32), vi (0 : Int32), vi (6 : Int32), .unset] [(.int (Int32.ofNat 5)), (.ref sa)])) rfl (by rw [hml]; rfl) (Steps.refl _) (argsL := [(.int (Int32.ofNat 5))]) (rest := []) (lenOf pd26 rfl) rfl (by show 2 * 0 + _ ≤ _; exact Nat.le_of_eq rfl) (hb hby at_204) (fun _ _ => ⟨rfl, e29, (by decide : 0 + 1 + 0 + 14 + 0 + 0 + 0 + 0 + 0 + 0 + 0 ≤ _), (by decide : 0 + 3 + 0 + 600 + 0 + 0 + 0 + 0 + 0 + 0 + 0 ≤ _)⟩))
    obtain ⟨rfl, N30, e30⟩ := hQ30
    have M30 := Fr.app M29 N30
    refine EndsK.tr st30 ?_
    refine EndsK.go (fun _ kz => XS.bipush X30.here hx rfl (hb hby at_207) (XS.icmpYes X30.here hx rfl (pc0 := 209) (pc' := 214) rfl (hb hby at_209) rfl (teq (chF_of (k := 114) ((W6 5 (by decide)).trans rfl) (by decide))).1 (by decide) (by decide) (XS.bipush X30.here hx rfl (hb hby at_214) (XS.istore X30.here hx rfl (hb hby at_216) rfl (l' := #[vi i0, vi i1, vi i2, vi i3, vi (0 : Int32), vr w, vr sa, vi (0 : Int32), vi (0 : Int32), vi (0 : Int32), vi (6 : Int32), vi (6 : Int32)]) rfl (XS.iload X30.here hx rfl (hb hby at_218) rfl (XS.ifYes X30.here hx rfl (pc0 := 220) (pc' := 243) rfl (hb hby at_220) rfl ((if0 _ _).trans (flt (by decide : ¬ ((0 : Int32) < (0 : Int32)))).2.2.2) (by decide) (by decide) (XS.iload X30.here hx rfl (hb hby at_243) rfl kz))))))) ?_
    show EndsK p e below _ (T30.setTop (mkF m 245 #[vi i0, vi i1, vi i2, vi i3, vi (0 : Int32), vr w, vr sa, vi (0 : Int32), vi (0 : Int32), vi (0 : Int32), vi (6 : Int32), vi (6 : Int32)] [(.int (0 : Int32))]))
    refine EndsK.go (fun _ kz => XS.iconst X30.here hx rfl (hb hby at_245) (XS.icmpYes X30.here hx rfl (pc0 := 246) (pc' := 269) rfl (hb hby at_246) rfl (flt (by decide : ¬ ((1 : Int32) < (0 : Int32)))).2.2.2 (by decide) (by decide) (XS.iload X30.here hx rfl (hb hby at_269) rfl (XS.iconst X30.here hx rfl (hb hby at_271) (XS.icmpYes X30.here hx rfl (pc0 := 272) (pc' := 288) rfl (hb hby at_272) rfl (flt (by decide : ¬ ((2 : Int32) < (0 : Int32)))).2.2.2 (by decide) (by decide) (XS.iconst X30.here hx rfl (hb hby at_288) kz)))))) ?_
    show EndsK p e below _ (T30.setTop (mkF m 289 #[vi i0, vi i1, vi i2, vi i3, vi (0 : Int32), vr w, vr sa, vi (0 : Int32), vi (0 : Int32), vi (0 : Int32), vi (6 : Int32), vi (6 : Int32)] [(.int (1 : Int32))]))
    exact endNW X30 hS (by rw [e30]; exact hk) hx (t := .boolean) Bd.returns (by simp) (hb hby at_289) hlk ⟨rfl, M30⟩ (by decide) (by decide)
  · have hsl1 := sl_le i1
    refine EndsK.start (congrArg (fun z_ => (mkF m 3 #[vi i0, vi i1, vi i2, vi i3, .unset, .unset, .unset, .unset, .unset, .unset, .unset, .unset] [(.int z_)])) (hk3 : (i0 &&& (3 : Int32)) = (1 : Int32))) ?_
    refine EndsK.go (fun _ kz => XS.istore X0.here hx rfl (hb hby at_3) rfl (l' := #[vi i0, vi i1, vi i2, vi i3, vi (1 : Int32), .unset, .unset, .unset, .unset, .unset, .unset, .unset]) rfl kz) ?_
    obtain ⟨T21, h21, X21, e21, E21, A21, D21, -, st21⟩ := newO X0 hx hZ hown (tw hw 0 rfl) (tw hw 1 rfl) (tw hw 2 rfl) e0 (g := (mkF m 5 #[vi i0, vi i1, vi i2, vi i3, vi (1 : Int32), .unset, .unset, .unset, .unset, .unset, .unset, .unset] [])) rfl (hb hby at_5) (by decide) (by decide)
    obtain ⟨w, g21⟩ : ∃ z, z = h0.size := ⟨_, rfl⟩
    rw [← g21] at A21 D21 st21
    refine EndsK.go st21 ?_
    have F21_modCount : Fld Z h21 w "java/util/AbstractList" "modCount" "I" (.int (0 : Int32)) := D21 (Or.inl (tw hw 22 rfl)) (ty := .int) (by decide)
    have F21_elementData : Fld Z h21 w "java/util/ArrayList" "elementData" "[Ljava/lang/Object;" .null := D21 (Or.inl (tw hw 25 rfl)) (ty := (.array (.object "java/lang/Object"))) (by decide)
    have F21_size : Fld Z h21 w "java/util/ArrayList" "size" "I" (.int (0 : Int32)) := D21 (Or.inl (tw hw 148 rfl)) (ty := .int) (by decide)
    have Z21 : n0 ≤ h21.size := Nat.le_trans Z0 E21.1
    have G21 : n0 ≤ w := by rw [g21]; exact Z0
    have K21 := K0.ext E21
    have sz_w : h0.size ≤ w := by rw [g21]; exact K0.1
    refine EndsK.go (fun _ kz => XS.dup X21.here hx rfl (hb hby at_8) rfl rfl kz) ?_
    obtain ⟨_, T22, Lc22, X22, hQ22, st22⟩ := doneT X21 (X21.specialBack hx (y := mn49) rfl hown (mvT hZ (tw hw 3 rfl)) (mvT hZ (tw hw 4 rfl)) (mvT hZ (tw hw 5 rfl)) (by decide) (backOf (W := 1) (rm_ali l Z a0 hw [] h0 dce cd w h21 n0 Z21 L0 (ext_kept (ext_refl h0) K21 all0) sz_w A21 F21_size F21_elementData F21_modCount G21) hZ (tw hw 5 rfl) (tw hw 2 rfl) (by decide) (by decide)) (g := (mkF m 9 #[vi i0, vi i1, vi i2, vi i3, vi (1 : Int32), .unset, .unset, .unset, .unset, .unset, .unset, .unset] [(.ref w), (.ref w)])) rfl (by rw [hml]; rfl) (Steps.refl _) (a := w) (argsL := []) (rest := [(.ref w)]) (lenOf pd28 rfl) rfl (by show 2 * 0 + _ ≤ _; exact Nat.le_of_eq rfl) (hb hby at_9) (fun _ _ => ⟨rfl, e21, (by decide : 0 + 1 + 0 ≤ _), (by decide : 0 + 3 + 0 ≤ _)⟩))
    obtain ⟨rfl, N22, Kc22, I22⟩ := hQ22
    have M22 := Fr.app N0 N22
    obtain ⟨h22, e22⟩ : ∃ z, T22.heap = z := ⟨_, rfl⟩
    rw [e22] at Kc22 I22
    have Z22 : n0 ≤ h22.size := Nat.le_trans Z21 Kc22.1
    have K22 := K21.trans Kc22 (allS (Or.inr sz_w) all0)
    have E22_w := A21.keep Kc22
    have g_w := G21
    refine EndsK.tr st22 ?_
    refine EndsK.go (fun _ kz => XS.astore X22.here hx rfl (hb hby at_12) rfl rfl (l' := #[vi i0, vi i1, vi i2, vi i3, vi (1 : Int32), vr w, .unset, .unset, .unset, .unset, .unset, .unset]) rfl (XS.iload X22.here hx rfl (hb hby at_14) rfl (XS.ifNo X22.here hx rfl (hb hby at_16) rfl ((if0 _ _).trans (tlt (by decide : (0 : Int32) < (1 : Int32))).2.2.2) (XS.aload X22.here hx rfl (hb hby at_19) rfl rfl (XS.iloadN X22.here hx rfl (hb hby at_21) rfl kz))))) ?_
    obtain ⟨_, T23, Lc23, X23, hQ23, st23⟩ := doneG X22 (Jvm.LawKit.callS X22 hx (y := mn46) hown (mvT hZ (tw hw 219 rfl)) (mvT hZ (tw hw 220 rfl)) (mvT hZ (tw hw 221 rfl)) (mvT hZ (tw hw 222 rfl)) (by decide) (backOf (W := 1) (rm_vo l Z a0 hw [] i1 ca cl h22 n0 Z22 (C0.ext (ext_kept (ext_refl h0) K22 all0))) hZ (tw hw 222 rfl) (tw hw 221 rfl) (by decide) (by decide)) (g := (mkF m 22 #[vi i0, vi i1, vi i2, vi i3, vi (1 : Int32), vr w, .unset, .unset, .unset, .unset, .unset, .unset] [(.int i1), (.ref w)])) rfl (by rw [hml]; rfl) (argsL := [(.int i1)]) (rest := [(.ref w)]) (lenOf pd39 rfl) rfl (by show 2 * 0 + _ ≤ _; exact Nat.le_of_eq rfl) (hb hby at_22) (fun _ _ => ⟨rfl, e22, (by decide : 0 + 1 + 0 + 1 ≤ _), (by decide : 0 + 3 + 0 + 1 ≤ _)⟩))
    obtain ⟨b0, rfl, N23, E23, Eb23, Fb23⟩ := hQ23
    have M23 := Fr.app M22 N23
    obtain ⟨h23, e23⟩ : ∃ z, T23.heap = z := ⟨_, rfl⟩
    rw [e23] at E23 Eb23 Fb23
    have Z23 : n0 ≤ h23.size := Nat.le_trans Z22 E23.1
    have K23 := K22.ext E23
    have I23 := I22.ext E23
    refine EndsK.go st23 ?_
    obtain ⟨cq24, kq24, qa24, qb24, qc24⟩ := isOf hZ e23 I23.1
    obtain ⟨_, T24, Lc24, X24, hQ24, st24⟩ := doneT X23 (X23.interfaceBack hx (C := "java/util/ArrayList") (xi := mn63) (y := mn53) hown (mvT hZ (tw hw 240 rfl)) (mvT hZ (tw hw 241 rfl)) (mvT hZ (tw hw 242 rfl)) (mvT hZ (tw hw 243 rfl)) (mvT hZ (tw hw 244 rfl)) (mvT hZ (tw hw 245 rfl)) (mvT hZ (tw hw 246 rfl)) (mvT hZ (tw hw 118 rfl)) (by decide) (backOf (W := 0) (rm_add0 l Z a0 hw [] h0 dce cd w (0 : Int32) b0 h23 n0 Z23 L0 (ext_kept (ext_refl h0) K23 all0) sz_w I23 g_w Eb23) hZ (tw hw 247 rfl) (tw hw 2 rfl) (by decide) (by decide)) qa24 qb24 qc24 (g := (mkF m 25 #[vi i0, vi i1, vi i2, vi i3, vi (1 : Int32), vr w, .unset, .unset, .unset, .unset, .unset, .unset] [(.ref b0), (.ref w)])) rfl (by rw [hml]; rfl) (Steps.refl _) (argsL := [(.ref b0)]) (rest := []) (lenOf pd40 rfl) rfl (by show 2 * 0 + _ ≤ _; exact Nat.le_of_eq rfl) (hb hby at_25) (fun _ _ => ⟨rfl, e23, (by decide : 0 + 1 + 0 + 1 + 1 ≤ _), (by decide : 0 + 3 + 0 + 1 + 10 ≤ _)⟩))
    obtain ⟨te, rfl, N24, Kc24, q_s24, I24, B24⟩ := hQ24
    have M24 := Fr.app M23 N24
    obtain ⟨h24, e24⟩ : ∃ z, T24.heap = z := ⟨_, rfl⟩
    rw [e24] at Kc24 I24 B24
    have Z24 : n0 ≤ h24.size := Nat.le_trans Z23 Kc24.1
    have K24 := K23.trans Kc24 (allS (Or.inr sz_w) all0)
    have sz_te : h0.size ≤ te := Nat.le_trans K23.1 q_s24
    have g_te : n0 ≤ te := Nat.le_trans Z23 q_s24
    have nwt : w ≠ te := Nat.ne_of_lt (Nat.lt_of_lt_of_le I23.1.lt q_s24)
    have Er0_24 := Eb23.keep Kc24
    have Fr0_24 := Fb23.keep Kc24 (ninS (exa_ne Eb23 I23.1 (by decide)) nin0)
    refine EndsK.tr st24 ?_
    refine EndsK.go (fun _ kz => XS.pop X24.here hx rfl (hb hby at_30) rfl rfl (XS.iload X24.here hx rfl (hb hby at_31) rfl (XS.iconst X24.here hx rfl (hb hby at_33) (XS.icmpYes X24.here hx rfl (pc0 := 34) (pc' := 49) rfl (hb hby at_34) rfl (flt (by decide : ¬ ((1 : Int32) < (1 : Int32)))).2.2.2 (by decide) (by decide) (XS.iload X24.here hx rfl (hb hby at_49) rfl (XS.iconst X24.here hx rfl (hb hby at_51) (XS.icmpYes X24.here hx rfl (pc0 := 52) (pc' := 67) rfl (hb hby at_52) rfl (flt (by decide : ¬ ((2 : Int32) < (1 : Int32)))).2.2.2 (by decide) (by decide) kz))))))) ?_
    show EndsK p e below _ (T24.setTop (mkF m 67 #[vi i0, vi i1, vi i2, vi i3, vi (1 : Int32), vr w, .unset, .unset, .unset, .unset, .unset, .unset] []))
    refine EndsK.go (fun _ kz => XS.aload X24.here hx rfl (hb hby at_67) rfl rfl kz) ?_
    have hCH := hCH.ext (ext_kept (ext_refl h0) K24 all0)
    obtain ⟨_, _, ⟨T25, L25, k25, n25⟩, -, X25, hS, gr25, ⟨Lc25, hQ25, l25, y25, z25⟩, st25⟩ := callSS X24 hx (y := mn59) hown (mvT hZ (tw hw 26 rfl)) (mvT hZ (tw hw 27 rfl)) (mvT hZ (tw hw 28 rfl)) (mvT hZ (tw hw 29 rfl)) (by decide) (backOfC (W := 0) (rm_line1 l Z a0 hw [] h0 zc o d u w te ((0 : Int32) + 1) (fun j => if j = 0 then b0 else (fun _ => 0) j) b0 i1 h24 n0 Z24 J (ext_kept (ext_refl h0) K24 all0) (Nat.le_of_eq hn0.symm) I24 B24 rfl Er0_24 Fr0_24) hZ (tw hw 29 rfl) (tw hw 28 rfl) (by decide) (by decide) hEL hCH) (g := (mkF m 69 #[vi i0, vi i1, vi i2, vi i3, vi (1 : Int32), vr w, .unset, .unset, .unset, .unset, .unset, .unset] [(.ref w)])) rfl (by rw [hml]; rfl) (argsL := [(.ref w)]) (rest := []) (lenOf pd38 rfl) rfl (by show 2 * 0 + _ ≤ _; exact Nat.le_of_eq rfl) (hb hby at_69) (fun _ _ => ⟨rfl, e24, (by decide : 0 + 1 + 0 + 1 + 1 + 14 ≤ _), (by decide : 0 + 3 + 0 + 1 + 10 + 600 ≤ _)⟩)
    dsimp only [Pt.U, Pt.locs, Pt.cells, Pt.slots] at X25 hS gr25 l25 y25 z25 st25 hQ25
    subst l25 y25 z25
    refine EndsK.tr st25 ?_
    obtain ⟨sa, sb, FF, rfl, N25, E25, Ea, Fc, Fv, BF, W6, Sg0⟩ := hQ25
    have M25 := Fr.app M24 N25
    have hZ : Z.Warmed39 (s.setVm T25.vm).vm := State.Warmed39.trans hZ hS.1
    have hown : (s.setVm T25.vm).vm.findClass "com/example/guildtable/guildtable/table/WinnersLinePinLaw" = some m.cls := (hS.1.alike.findClass _ _).trans hown
    obtain ⟨h25, e25⟩ : ∃ z, T25.heap = z := ⟨_, rfl⟩
    rw [e25] at E25 Ea Fc Fv BF
    have hk : T25.heap.size ≤ h25.size := Nat.le_of_eq (congrArg Array.size e25)
    have Z25 : n0 ≤ h25.size := Nat.le_trans Z24 E25.1
    have K25 := K24.ext E25
    obtain ⟨cS, AS, zS, lS, HS⟩ := id BF
    have JF := J.ext (ext_kept (ext_refl h0) K25 all0)
    refine EndsK.go (fun _ kz => XS.astore X25.here hx rfl (hb hby at_72) rfl rfl (l' := #[vi i0, vi i1, vi i2, vi i3, vi (1 : Int32), vr w, vr sa, .unset, .unset, .unset, .unset, .unset]) rfl (XS.iload X25.here hx rfl (hb hby at_74) rfl (XS.ifNo X25.here hx rfl (hb hby at_76) rfl ((if0 _ _).trans (tlt (by decide : (0 : Int32) < (1 : Int32))).2.2.2) (XS.iloadN X25.here hx rfl (hb hby at_79) rfl kz)))) ?_
    obtain ⟨_, T26, Lc26, X26, hQ26, st26⟩ := doneG X25 (Jvm.LawKit.callS X25 hx (y := mn3) hown (mvT hZ (tw hw 321 rfl)) (mvT hZ (tw hw 322 rfl)) (mvT hZ (tw hw 323 rfl)) (mvT hZ (tw hw 324 rfl)) (by decide) (backOf (W := 0) (rm_segl l Z a0 hw [] i1 h25 n0 Z25) hZ (tw hw 324 rfl) (tw hw 323 rfl) (by decide) (by decide)) (g := (mkF m 80 #[vi i0, vi i1, vi i2, vi i3, vi (1 : Int32), vr w, vr sa, .unset, .unset, .unset, .unset, .unset] [(.int i1)])) rfl (by rw [hml]; rfl) (argsL := [(.int i1)]) (rest := []) (lenOf pd5 rfl) rfl (by show 2 * 0 + _ ≤ _; exact Nat.le_of_eq rfl) (hb hby at_80) (fun _ _ => ⟨rfl, e25, (by decide : 0 + 1 + 0 + 1 + 1 + 14 + 0 ≤ _), (by decide : 0 + 3 + 0 + 1 + 10 + 600 + 0 ≤ _)⟩))
    obtain ⟨rfl, N26, e26⟩ := hQ26
    have M26 := Fr.app M25 N26
    refine EndsK.go st26 ?_
    refine EndsK.start (congrArg (fun z_ => (mkF m 83 #[vi i0, vi i1, vi i2, vi i3, vi (1 : Int32), vr w, vr sa, .unset, .unset, .unset, .unset, .unset] [(.int z_)])) (segLen_eq _ : (segLenF i1) = (Int32.ofNat (1 + sl i1)))) ?_
    refine EndsK.go (fun _ kz => XS.goto X26.here hx rfl (pc0 := 83) (pc' := 87) rfl (hb hby at_83) (by decide) (by decide) (XS.istore X26.here hx rfl (hb hby at_87) rfl (l' := #[vi i0, vi i1, vi i2, vi i3, vi (1 : Int32), vr w, vr sa, vi (Int32.ofNat (1 + sl i1)), .unset, .unset, .unset, .unset]) rfl (XS.iload X26.here hx rfl (hb hby at_89) rfl (XS.iconst X26.here hx rfl (hb hby at_91) (XS.icmpYes X26.here hx rfl (pc0 := 92) (pc' := 102) rfl (hb hby at_92) rfl (flt (by decide : ¬ ((1 : Int32) < (1 : Int32)))).2.2.2 (by decide) (by decide) (XS.iconst X26.here hx rfl (hb hby at_102) (XS.istore X26.here hx rfl (hb hby at_103) rfl (l' := #[vi i0, vi i1, vi i2, vi i3, vi (1 : Int32), vr w, vr sa, vi (Int32.ofNat (1 + sl i1)), vi (0 : Int32), .unset, .unset, .unset]) rfl kz))))))) ?_
    show EndsK p e below _ (T26.setTop (mkF m 105 #[vi i0, vi i1, vi i2, vi i3, vi (1 : Int32), vr w, vr sa, vi (Int32.ofNat (1 + sl i1)), vi (0 : Int32), .unset, .unset, .unset] []))
    refine EndsK.go (fun _ kz => XS.iload X26.here hx rfl (hb hby at_105) rfl (XS.iconst X26.here hx rfl (hb hby at_107) (XS.icmpYes X26.here hx rfl (pc0 := 108) (pc' := 118) rfl (hb hby at_108) rfl (flt (by decide : ¬ ((2 : Int32) < (1 : Int32)))).2.2.2 (by decide) (by decide) (XS.iconst X26.here hx rfl (hb hby at_118) (XS.istore X26.here hx rfl (hb hby at_119) rfl (l' := #[vi i0, vi i1, vi i2, vi i3, vi (1 : Int32), vr w, vr sa, vi (Int32.ofNat (1 + sl i1)), vi (0 : Int32), vi (0 : Int32), .unset, .unset]) rfl (XS.bipush X26.here hx rfl (hb hby at_121) (XS.iload X26.here hx rfl (hb hby at_123) rfl kz))))))) ?_
    show EndsK p e below _ (T26.setTop (mkF m 125 #[vi i0, vi i1, vi i2, vi i3, vi (1 : Int32), vr w, vr sa, vi (Int32.ofNat (1 + sl i1)), vi (0 : Int32), vi (0 : Int32), .unset, .unset] [(.int (Int32.ofNat (1 + sl i1))), (.int (6 : Int32))]))
    refine EndsK.go (fun _ kz => XS.iadd X26.here hx rfl (hb hby at_125) rfl kz) ?_
    refine EndsK.start (congrArg (fun z_ => (mkF m 126 #[vi i0, vi i1, vi i2, vi i3, vi (1 : Int32), vr w, vr sa, vi (Int32.ofNat (1 + sl i1)), vi (0 : Int32), vi (0 : Int32), .unset, .unset] [(.int z_)])) (on_addN (a := 6) (by omega) : ((6 : Int32) + (Int32.ofNat (1 + sl i1))) = (Int32.ofNat (6 + 1 + sl i1)))) ?_
    refine EndsK.go (fun _ kz => XS.iload X26.here hx rfl (hb hby at_126) rfl (XS.iadd X26.here hx rfl (hb hby at_128) rfl kz)) ?_
    refine EndsK.start (congrArg (fun z_ => (mkF m 129 #[vi i0, vi i1, vi i2, vi i3, vi (1 : Int32), vr w, vr sa, vi (Int32.ofNat (1 + sl i1)), vi (0 : Int32), vi (0 : Int32), .unset, .unset] [(.int z_)])) (Int32.add_zero _ : ((Int32.ofNat (6 + 1 + sl i1)) + (0 : Int32)) = (Int32.ofNat (6 + 1 + sl i1)))) ?_
    refine EndsK.go (fun _ kz => XS.iload X26.here hx rfl (hb hby at_129) rfl (XS.iadd X26.here hx rfl (hb hby at_131) rfl kz)) ?_
    refine EndsK.start (congrArg (fun z_ => (mkF m 132 #[vi i0, vi i1, vi i2, vi i3, vi (1 : Int32), vr w, vr sa, vi (Int32.ofNat (1 + sl i1)), vi (0 : Int32), vi (0 : Int32), .unset, .unset] [(.int z_)])) (Int32.add_zero _ : ((Int32.ofNat (6 + 1 + sl i1)) + (0 : Int32)) = (Int32.ofNat (6 + 1 + sl i1)))) ?_
    refine EndsK.go (fun _ kz => XS.istore X26.here hx rfl (hb hby at_132) rfl (l' := #[vi i0, vi i1, vi i2, vi i3, vi (1 : Int32), vr w, vr sa, vi (Int32.ofNat (1 + sl i1)), vi (0 : Int32), vi (0 : Int32), vi (Int32.ofNat (6 + 1 + sl i1)), .unset]) rfl (XS.aload X26.here hx rfl (hb hby at_134) rfl rfl kz)) ?_
    obtain ⟨cq27, kq27, qa27, qb27, qc27⟩ := isOf hZ e26 Ea
    obtain ⟨_, T27, Lc27, X27, hQ27, st27⟩ := doneT X26 (X26.virtualBack hx (y := mn9) (z := mn9) hown (mvT hZ (tw hw 196 rfl)) (mvT hZ (tw hw 52 rfl)) (notFace_of_selects (args := #[]) (mvT hZ (tw hw 54 rfl))) (mvT hZ (tw hw 54 rfl)) (mvT hZ (tw hw 53 rfl)) (by decide) (backOf (W := 0) (rm_slen l Z a0 hw [] sa zc sb cS (Int32.ofNat (6 + 1 + sl i1)) h25 n0 Z25 JF.SC JF.hzc Ea Fc Fv AS (by rw [zS])) hZ (tw hw 55 rfl) (tw hw 34 rfl) (by decide) (by decide)) qa27 qc27 (g := (mkF m 136 #[vi i0, vi i1, vi i2, vi i3, vi (1 : Int32), vr w, vr sa, vi (Int32.ofNat (1 + sl i1)), vi (0 : Int32), vi (0 : Int32), vi (Int32.ofNat (6 + 1 + sl i1)), .unset] [(.ref sa)])) rfl (by rw [hml]; rfl) (Steps.refl _) (argsL := []) (rest := []) (lenOf pd9 rfl) rfl (by show 2 * 0 + _ ≤ _; exact Nat.le_of_eq rfl) (hb hby at_136) (fun _ _ => ⟨rfl, e26, (by decide : 0 + 1 + 0 + 1 + 1 + 14 + 0 + 0 ≤ _), (by decide : 0 + 3 + 0 + 1 + 10 + 600 + 0 + 0 ≤ _)⟩))
    obtain ⟨rfl, N27, e27⟩ := hQ27
    have M27 := Fr.app M26 N27
    refine EndsK.tr st27 ?_
    refine EndsK.go (fun _ kz => XS.iload X27.here hx rfl (hb hby at_139) rfl (XS.icmpYes X27.here hx rfl (pc0 := 141) (pc' := 146) rfl (hb hby at_141) rfl (teq (congrArg Int32.ofNat (by omega) : (Int32.ofNat (6 + 1 + sl i1)) = (Int32.ofNat (6 + 1 + sl i1)))).1 (by decide) (by decide) (XS.aload X27.here hx rfl (hb hby at_146) rfl rfl (XS.iconst X27.here hx rfl (hb hby at_148) kz)))) ?_
    refine EndsK.start (congrArg (fun z_ => (mkF m 149 #[vi i0, vi i1, vi i2, vi i3, vi (1 : Int32), vr w, vr sa, vi (Int32.ofNat (1 + sl i1)), vi (0 : Int32), vi (0 : Int32), vi (Int32.ofNat (6 + 1 + sl i1)), .unset] [(.int z_), (.ref sa)])) (rfl : (0 : Int32) = (Int32.ofNat 0))) ?_
    obtain ⟨cq28, kq28, qa28, qb28, qc28⟩ := isOf hZ e27 Ea
    obtain ⟨_, T28, Lc28, X28, hQ28, st28⟩ := doneT X27 (X27.virtualBack hx (y := mn41) (z := mn41) hown (mvT hZ (tw hw 197 rfl)) (mvT hZ (tw hw 198 rfl)) (notFace_of_selects (args := #[]) (mvT hZ (tw hw 200 rfl))) (mvT hZ (tw hw 200 rfl)) (mvT hZ (tw hw 199 rfl)) (by decide) (backOf (W := 0) (rm_chA l Z a0 hw [] zc o d u sa sb FF 0 (6 + 1 + sl i1) h25 n0 Z25 JF Ea Fc Fv BF (by omega) (by omega)) hZ (tw hw 201 rfl) (tw hw 34 rfl) (by decide) (by decide)) qa28 qc28 (g := (mkF m 149 #[vi i0, vi i1, vi i2, vi i3, vi (1 : Int32), vr w, vr sa, vi (Int32.ofNat (1 + sl i1)), vi (0 : Int32), vi (0 : Int32), vi (Int32.ofNat (6 + 1 + sl i1)), .unset] [(.int (Int32.ofNat 0)), (.ref sa)])) rfl (by rw [hml]; rfl) (Steps.refl _) (argsL := [(.int (Int32.ofNat 0))]) (rest := []) (lenOf pd26 rfl) rfl (by show 2 * 0 + _ ≤ _; exact Nat.le_of_eq rfl) (hb hby at_149) (fun _ _ => ⟨rfl, e27, (by decide : 0 + 1 + 0 + 1 + 1 + 14 + 0 + 0 + 0 ≤ _), (by decide : 0 + 3 + 0 + 1 + 10 + 600 + 0 + 0 + 0 ≤ _)⟩))
    obtain ⟨rfl, N28, e28⟩ := hQ28
    have M28 := Fr.app M27 N28
    refine EndsK.tr st28 ?_
    refine EndsK.go (fun _ kz => XS.bipush X28.here hx rfl (hb hby at_152) (XS.icmpNo X28.here hx rfl (hb hby at_154) rfl (teq (chF_of (k := 119) ((W6 0 (by decide)).trans rfl) (by decide))).2 (XS.aload X28.here hx rfl (hb hby at_157) rfl rfl (XS.iconst X28.here hx rfl (hb hby at_159) kz)))) ?_
    refine EndsK.start (congrArg (fun z_ => (mkF m 160 #[vi i0, vi i1, vi i2, vi i3, vi (1 : Int32), vr w, vr sa, vi (Int32.ofNat (1 + sl i1)), vi (0 : Int32), vi (0 : Int32), vi (Int32.ofNat (6 + 1 + sl i1)), .unset] [(.int z_), (.ref sa)])) (rfl : (1 : Int32) = (Int32.ofNat 1))) ?_
    obtain ⟨cq29, kq29, qa29, qb29, qc29⟩ := isOf hZ e28 Ea
    obtain ⟨_, T29, Lc29, X29, hQ29, st29⟩ := doneT X28 (X28.virtualBack hx (y := mn41) (z := mn41) hown (mvT hZ (tw hw 197 rfl)) (mvT hZ (tw hw 198 rfl)) (notFace_of_selects (args := #[]) (mvT hZ (tw hw 200 rfl))) (mvT hZ (tw hw 200 rfl)) (mvT hZ (tw hw 199 rfl)) (by decide) (backOf (W := 0) (rm_chA l Z a0 hw [] zc o d u sa sb FF 1 (6 + 1 + sl i1) h25 n0 Z25 JF Ea Fc Fv BF (by omega) (by omega)) hZ (tw hw 201 rfl) (tw hw 34 rfl) (by decide) (by decide)) qa29 qc29 (g := (mkF m 160 #[vi i0, vi i1, vi i2, vi i3, vi (1 : Int32), vr w, vr sa, vi (Int32.ofNat (1 + sl i1)), vi (0 : Int32), vi (0 : Int32), vi (Int32.ofNat (6 + 1 + sl i1)), .unset] [(.int (Int32.ofNat 1)), (.ref sa)])) rfl (by rw [hml]; rfl) (Steps.refl _) (argsL := [(.int (Int32.ofNat 1))]) (rest := []) (lenOf pd26 rfl) rfl (by show 2 * 0 + _ ≤ _; exact Nat.le_of_eq rfl) (hb hby at_160) (fun _ _ => ⟨rfl, e28, (by decide : 0 + 1 + 0 + 1 + 1 + 14 + 0 + 0 + 0 + 0 ≤ _), (by decide : 0 + 3 + 0 + 1 + 10 + 600 + 0 + 0 + 0 + 0 ≤ _)⟩))
    obtain ⟨rfl, N29, e29⟩ := hQ29
    have M29 := Fr.app M28 N29
    refine EndsK.tr st29 ?_
    refine EndsK.go (fun _ kz => XS.bipush X29.here hx rfl (hb hby at_163) (XS.icmpNo X29.here hx rfl (hb hby at_165) rfl (teq (chF_of (k := 105) ((W6 1 (by decide)).trans rfl) (by decide))).2 (XS.aload X29.here hx rfl (hb hby at_168) rfl rfl (XS.iconst X29.here hx rfl (hb hby at_170) kz)))) ?_
    refine EndsK.start (congrArg (fun z_ => (mkF m 171 #[vi i0, vi i1, vi i2, vi i3, vi (1 : Int32), vr w, vr sa, vi (Int32.ofNat (1 + sl i1)), vi (0 : Int32), vi (0 : Int32), vi (Int32.ofNat (6 + 1 + sl i1)), .unset] [(.int z_), (.ref sa)])) (rfl : (2 : Int32) = (Int32.ofNat 2))) ?_
    obtain ⟨cq30, kq30, qa30, qb30, qc30⟩ := isOf hZ e29 Ea
    obtain ⟨_, T30, Lc30, X30, hQ30, st30⟩ := doneT X29 (X29.virtualBack hx (y := mn41) (z := mn41) hown (mvT hZ (tw hw 197 rfl)) (mvT hZ (tw hw 198 rfl)) (notFace_of_selects (args := #[]) (mvT hZ (tw hw 200 rfl))) (mvT hZ (tw hw 200 rfl)) (mvT hZ (tw hw 199 rfl)) (by decide) (backOf (W := 0) (rm_chA l Z a0 hw [] zc o d u sa sb FF 2 (6 + 1 + sl i1) h25 n0 Z25 JF Ea Fc Fv BF (by omega) (by omega)) hZ (tw hw 201 rfl) (tw hw 34 rfl) (by decide) (by decide)) qa30 qc30 (g := (mkF m 171 #[vi i0, vi i1, vi i2, vi i3, vi (1 : Int32), vr w, vr sa, vi (Int32.ofNat (1 + sl i1)), vi (0 : Int32), vi (0 : Int32), vi (Int32.ofNat (6 + 1 + sl i1)), .unset] [(.int (Int32.ofNat 2)), (.ref sa)])) rfl (by rw [hml]; rfl) (Steps.refl _) (argsL := [(.int (Int32.ofNat 2))]) (rest := []) (lenOf pd26 rfl) rfl (by show 2 * 0 + _ ≤ _; exact Nat.le_of_eq rfl) (hb hby at_171) (fun _ _ => ⟨rfl, e29, (by decide : 0 + 1 + 0 + 1 + 1 + 14 + 0 + 0 + 0 + 0 + 0 ≤ _), (by decide : 0 + 3 + 0 + 1 + 10 + 600 + 0 + 0 + 0 + 0 + 0 ≤ _)⟩))
    obtain ⟨rfl, N30, e30⟩ := hQ30
    have M30 := Fr.app M29 N30
    refine EndsK.tr st30 ?_
    refine EndsK.go (fun _ kz => XS.bipush X30.here hx rfl (hb hby at_174) (XS.icmpNo X30.here hx rfl (hb hby at_176) rfl (teq (chF_of (k := 110) ((W6 2 (by decide)).trans rfl) (by decide))).2 (XS.aload X30.here hx rfl (hb hby at_179) rfl rfl (XS.iconst X30.here hx rfl (hb hby at_181) kz)))) ?_
    refine EndsK.start (congrArg (fun z_ => (mkF m 182 #[vi i0, vi i1, vi i2, vi i3, vi (1 : Int32), vr w, vr sa, vi (Int32.ofNat (1 + sl i1)), vi (0 : Int32), vi (0 : Int32), vi (Int32.ofNat (6 + 1 + sl i1)), .unset] [(.int z_), (.ref sa)])) (rfl : (3 : Int32) = (Int32.ofNat 3))) ?_
    obtain ⟨cq31, kq31, qa31, qb31, qc31⟩ := isOf hZ e30 Ea
    obtain ⟨_, T31, Lc31, X31, hQ31, st31⟩ := doneT X30 (X30.virtualBack hx (y := mn41) (z := mn41) hown (mvT hZ (tw hw 197 rfl)) (mvT hZ (tw hw 198 rfl)) (notFace_of_selects (args := #[]) (mvT hZ (tw hw 200 rfl))) (mvT hZ (tw hw 200 rfl)) (mvT hZ (tw hw 199 rfl)) (by decide) (backOf (W := 0) (rm_chA l Z a0 hw [] zc o d u sa sb FF 3 (6 + 1 + sl i1) h25 n0 Z25 JF Ea Fc Fv BF (by omega) (by omega)) hZ (tw hw 201 rfl) (tw hw 34 rfl) (by decide) (by decide)) qa31 qc31 (g := (mkF m 182 #[vi i0, vi i1, vi i2, vi i3, vi (1 : Int32), vr w, vr sa, vi (Int32.ofNat (1 + sl i1)), vi (0 : Int32), vi (0 : Int32), vi (Int32.ofNat (6 + 1 + sl i1)), .unset] [(.int (Int32.ofNat 3)), (.ref sa)])) rfl (by rw [hml]; rfl) (Steps.refl _) (argsL := [(.int (Int32.ofNat 3))]) (rest := []) (lenOf pd26 rfl) rfl (by show 2 * 0 + _ ≤ _; exact Nat.le_of_eq rfl) (hb hby at_182) (fun _ _ => ⟨rfl, e30, (by decide : 0 + 1 + 0 + 1 + 1 + 14 + 0 + 0 + 0 + 0 + 0 + 0 ≤ _), (by decide : 0 + 3 + 0 + 1 + 10 + 600 + 0 + 0 + 0 + 0 + 0 + 0 ≤ _)⟩))
    obtain ⟨rfl, N31, e31⟩ := hQ31
    have M31 := Fr.app M30 N31
    refine EndsK.tr st31 ?_
    refine EndsK.go (fun _ kz => XS.bipush X31.here hx rfl (hb hby at_185) (XS.icmpNo X31.here hx rfl (hb hby at_187) rfl (teq (chF_of (k := 110) ((W6 3 (by decide)).trans rfl) (by decide))).2 (XS.aload X31.here hx rfl (hb hby at_190) rfl rfl (XS.iconst X31.here hx rfl (hb hby at_192) kz)))) ?_
    refine EndsK.start (congrArg (fun z_ => (mkF m 193 #[vi i0, vi i1, vi i2, vi i3, vi (1 : Int32), vr w, vr sa, vi (Int32.ofNat (1 + sl i1)), vi (0 : Int32), vi (0 : Int32), vi (Int32.ofNat (6 + 1 + sl i1)), .unset] [(.int z_), (.ref sa)])) (rfl : (4 : Int32) = (Int32.ofNat 4))) ?_
    obtain ⟨cq32, kq32, qa32, qb32, qc32⟩ := isOf hZ e31 Ea
    obtain ⟨_, T32, Lc32, X32, hQ32, st32⟩ := doneT X31 (X31.virtualBack hx (y := mn41) (z := mn41) hown (mvT hZ (tw hw 197 rfl)) (mvT hZ (tw hw 198 rfl)) (notFace_of_selects (args := #[]) (mvT hZ (tw hw 200 rfl))) (mvT hZ (tw hw 200 rfl)) (mvT hZ (tw hw 199 rfl)) (by decide) (backOf (W := 0) (rm_chA l Z a0 hw [] zc o d u sa sb FF 4 (6 + 1 + sl i1) h25 n0 Z25 JF Ea Fc Fv BF (by omega) (by omega)) hZ (tw hw 201 rfl) (tw hw 34 rfl) (by decide) (by decide)) qa32 qc32 (g := (mkF m 193 #[vi i0, vi i1, vi i2, vi i3, vi (1 : Int32), vr w, vr sa, vi (Int32.ofNat (1 + sl i1)), vi (0 : Int32), vi (0 : Int32), vi (Int32.ofNat (6 + 1 + sl i1)), .unset] [(.int (Int32.ofNat 4)), (.ref sa)])) rfl (by rw [hml]; rfl) (Steps.refl _) (argsL := [(.int (Int32.ofNat 4))]) (rest := []) (lenOf pd26 rfl) rfl (by show 2 * 0 + _ ≤ _; exact Nat.le_of_eq rfl) (hb hby at_193) (fun _ _ => ⟨rfl, e31, (by decide : 0 + 1 + 0 + 1 + 1 + 14 + 0 + 0 + 0 + 0 + 0 + 0 + 0 ≤ _), (by decide : 0 + 3 + 0 + 1 + 10 + 600 + 0 + 0 + 0 + 0 + 0 + 0 + 0 ≤ _)⟩))
    obtain ⟨rfl, N32, e32⟩ := hQ32
    have M32 := Fr.app M31 N32
    refine EndsK.tr st32 ?_
    refine EndsK.go (fun _ kz => XS.bipush X32.here hx rfl (hb hby at_196) (XS.icmpNo X32.here hx rfl (hb hby at_198) rfl (teq (chF_of (k := 101) ((W6 4 (by decide)).trans rfl) (by decide))).2 (XS.aload X32.here hx rfl (hb hby at_201) rfl rfl (XS.iconst X32.here hx rfl (hb hby at_203) kz)))) ?_
    refine EndsK.start (congrArg (fun z_ => (mkF m 204 #[vi i0, vi i1, vi i2, vi i3, vi (1 : Int32), vr w, vr sa, vi (Int32.ofNat (1 + sl i1)), vi (0 : Int32), vi (0 : Int32), vi (Int32.ofNat (6 + 1 + sl i1)), .unset] [(.int z_), (.ref sa)])) (rfl : (5 : Int32) = (Int32.ofNat 5))) ?_
    obtain ⟨cq33, kq33, qa33, qb33, qc33⟩ := isOf hZ e32 Ea
    obtain ⟨_, T33, Lc33, X33, hQ33, st33⟩ := doneT X32 (X32.virtualBack hx (y := mn41) (z := mn41) hown (mvT hZ (tw hw 197 rfl)) (mvT hZ (tw hw 198 rfl)) (notFace_of_selects (args := #[]) (mvT hZ (tw hw 200 rfl))) (mvT hZ (tw hw 200 rfl)) (mvT hZ (tw hw 199 rfl)) (by decide) (backOf (W := 0) (rm_chA l Z a0 hw [] zc o d u sa sb FF 5 (6 + 1 + sl i1) h25 n0 Z25 JF Ea Fc Fv BF (by omega) (by omega)) hZ (tw hw 201 rfl) (tw hw 34 rfl) (by decide) (by decide)) qa33 qc33 (g := (mkF m 204 #[vi i0, vi i1, vi i2, vi i3, vi (1 : Int32), vr w, vr sa, vi (Int32.ofNat (1 + sl i1)), vi (0 : Int32), vi (0 : Int32), vi (Int32.ofNat (6 + 1 + sl i1)), .unset] [(.int (Int32.ofNat 5)), (.ref sa)])) rfl (by rw [hml]; rfl) (Steps.refl _) (argsL := [(.int (Int32.ofNat 5))]) (rest := []) (lenOf pd26 rfl) rfl (by show 2 * 0 + _ ≤ _; exact Nat.le_of_eq rfl) (hb hby at_204) (fun _ _ => ⟨rfl, e32, (by decide : 0 + 1 + 0 + 1 + 1 + 14 + 0 + 0 + 0 + 0 + 0 + 0 + 0 + 0 ≤ _), (by decide : 0 + 3 + 0 + 1 + 10 + 600 + 0 + 0 + 0 + 0 + 0 + 0 + 0 + 0 ≤ _)⟩))
    obtain ⟨rfl, N33, e33⟩ := hQ33
    have M33 := Fr.app M32 N33
    refine EndsK.tr st33 ?_
    refine EndsK.go (fun _ kz => XS.bipush X33.here hx rfl (hb hby at_207) (XS.icmpYes X33.here hx rfl (pc0 := 209) (pc' := 214) rfl (hb hby at_209) rfl (teq (chF_of (k := 114) ((W6 5 (by decide)).trans rfl) (by decide))).1 (by decide) (by decide) (XS.bipush X33.here hx rfl (hb hby at_214) (XS.istore X33.here hx rfl (hb hby at_216) rfl (l' := #[vi i0, vi i1, vi i2, vi i3, vi (1 : Int32), vr w, vr sa, vi (Int32.ofNat (1 + sl i1)), vi (0 : Int32), vi (0 : Int32), vi (Int32.ofNat (6 + 1 + sl i1)), vi (6 : Int32)]) rfl (XS.iload X33.here hx rfl (hb hby at_218) rfl (XS.ifNo X33.here hx rfl (hb hby at_220) rfl ((if0 _ _).trans (tlt (by decide : (0 : Int32) < (1 : Int32))).2.2.2) (XS.aload X33.here hx rfl (hb hby at_223) rfl rfl kz))))))) ?_
    show EndsK p e below _ (T33.setTop (mkF m 225 #[vi i0, vi i1, vi i2, vi i3, vi (1 : Int32), vr w, vr sa, vi (Int32.ofNat (1 + sl i1)), vi (0 : Int32), vi (0 : Int32), vi (Int32.ofNat (6 + 1 + sl i1)), vi (6 : Int32)] [(.ref sa)]))
    refine EndsK.go (fun _ kz => XS.iload X33.here hx rfl (hb hby at_225) rfl (XS.iloadN X33.here hx rfl (hb hby at_227) rfl kz)) ?_
    refine EndsK.start (congrArg (fun z_ => (mkF m 228 #[vi i0, vi i1, vi i2, vi i3, vi (1 : Int32), vr w, vr sa, vi (Int32.ofNat (1 + sl i1)), vi (0 : Int32), vi (0 : Int32), vi (Int32.ofNat (6 + 1 + sl i1)), vi (6 : Int32)] [(.int i1), (.int z_), (.ref sa)])) (rfl : (6 : Int32) = (Int32.ofNat (6)))) ?_
    obtain ⟨_, T34, Lc34, X34, hQ34, st34⟩ := doneG X33 (Jvm.LawKit.callS X33 hx (y := mn42) hown (mvT hZ (tw hw 334 rfl)) (mvT hZ (tw hw 335 rfl)) (mvT hZ (tw hw 323 rfl)) (mvT hZ (tw hw 336 rfl)) (by decide) (backOf (W := 0) (rm_seg l Z a0 hw [] zc o d u sa sb FF (6 + 1 + sl i1) (6) i1 h25 n0 Z25 JF Ea Fc Fv BF (by omega) (by omega) Sg0) hZ (tw hw 336 rfl) (tw hw 323 rfl) (by decide) (by decide)) (g := (mkF m 228 #[vi i0, vi i1, vi i2, vi i3, vi (1 : Int32), vr w, vr sa, vi (Int32.ofNat (1 + sl i1)), vi (0 : Int32), vi (0 : Int32), vi (Int32.ofNat (6 + 1 + sl i1)), vi (6 : Int32)] [(.int i1), (.int (Int32.ofNat (6))), (.ref sa)])) rfl (by rw [hml]; rfl) (argsL := [(.ref sa), (.int (Int32.ofNat (6))), (.int i1)]) (rest := []) (lenOf pd41 rfl) rfl (by show 2 * 0 + _ ≤ _; exact Nat.le_of_eq rfl) (hb hby at_228) (fun _ _ => ⟨rfl, e33, (by decide : 0 + 1 + 0 + 1 + 1 + 14 + 0 + 0 + 0 + 0 + 0 + 0 + 0 + 0 + 0 ≤ _), (by decide : 0 + 3 + 0 + 1 + 10 + 600 + 0 + 0 + 0 + 0 + 0 + 0 + 0 + 0 + 0 ≤ _)⟩))
    obtain ⟨rfl, N34, e34⟩ := hQ34
    have M34 := Fr.app M33 N34
    refine EndsK.go st34 ?_
    refine EndsK.go (fun _ kz => XS.ifYes X34.here hx rfl (pc0 := 231) (pc' := 236) rfl (hb hby at_231) rfl ((if0 _ _).trans (feq (by decide : ¬ ((1 : Int32) = (0 : Int32)))).2) (by decide) (by decide) (XS.iload X34.here hx rfl (hb hby at_236) rfl (XS.iload X34.here hx rfl (hb hby at_238) rfl (XS.iadd X34.here hx rfl (hb hby at_240) rfl kz)))) ?_
    refine EndsK.start (congrArg (fun z_ => (mkF m 241 #[vi i0, vi i1, vi i2, vi i3, vi (1 : Int32), vr w, vr sa, vi (Int32.ofNat (1 + sl i1)), vi (0 : Int32), vi (0 : Int32), vi (Int32.ofNat (6 + 1 + sl i1)), vi (6 : Int32)] [(.int z_)])) (on_addN (a := 6) (by omega) : ((6 : Int32) + (Int32.ofNat (1 + sl i1))) = (Int32.ofNat (6 + 1 + sl i1)))) ?_
    refine EndsK.go (fun _ kz => XS.istore X34.here hx rfl (hb hby at_241) rfl (l' := #[vi i0, vi i1, vi i2, vi i3, vi (1 : Int32), vr w, vr sa, vi (Int32.ofNat (1 + sl i1)), vi (0 : Int32), vi (0 : Int32), vi (Int32.ofNat (6 + 1 + sl i1)), vi (Int32.ofNat (6 + 1 + sl i1))]) rfl (XS.iload X34.here hx rfl (hb hby at_243) rfl (XS.iconst X34.here hx rfl (hb hby at_245) (XS.icmpYes X34.here hx rfl (pc0 := 246) (pc' := 269) rfl (hb hby at_246) rfl (flt (by decide : ¬ ((1 : Int32) < (1 : Int32)))).2.2.2 (by decide) (by decide) (XS.iload X34.here hx rfl (hb hby at_269) rfl (XS.iconst X34.here hx rfl (hb hby at_271) (XS.icmpYes X34.here hx rfl (pc0 := 272) (pc' := 288) rfl (hb hby at_272) rfl (flt (by decide : ¬ ((2 : Int32) < (1 : Int32)))).2.2.2 (by decide) (by decide) kz))))))) ?_
    show EndsK p e below _ (T34.setTop (mkF m 288 #[vi i0, vi i1, vi i2, vi i3, vi (1 : Int32), vr w, vr sa, vi (Int32.ofNat (1 + sl i1)), vi (0 : Int32), vi (0 : Int32), vi (Int32.ofNat (6 + 1 + sl i1)), vi (Int32.ofNat (6 + 1 + sl i1))] []))
    refine EndsK.go (fun _ kz => XS.iconst X34.here hx rfl (hb hby at_288) kz) ?_
    show EndsK p e below _ (T34.setTop (mkF m 289 #[vi i0, vi i1, vi i2, vi i3, vi (1 : Int32), vr w, vr sa, vi (Int32.ofNat (1 + sl i1)), vi (0 : Int32), vi (0 : Int32), vi (Int32.ofNat (6 + 1 + sl i1)), vi (Int32.ofNat (6 + 1 + sl i1))] [(.int (1 : Int32))]))
    exact endNW X34 hS (by rw [e34]; exact hk) hx (t := .boolean) Bd.returns (by simp) (hb hby at_289) hlk ⟨rfl, M34⟩ (by decide) (by decide)
  · have hsl1 := sl_le i1
    have hsl2 := sl_le i2
    refine EndsK.start (congrArg (fun z_ => (mkF m 3 #[vi i0, vi i1, vi i2, vi i3, .unset, .unset, .unset, .unset, .unset, .unset, .unset, .unset] [(.int z_)])) (hk3 : (i0 &&& (3 : Int32)) = (2 : Int32))) ?_
    refine EndsK.go (fun _ kz => XS.istore X0.here hx rfl (hb hby at_3) rfl (l' := #[vi i0, vi i1, vi i2, vi i3, vi (2 : Int32), .unset, .unset, .unset, .unset, .unset, .unset, .unset]) rfl kz) ?_
    obtain ⟨T21, h21, X21, e21, E21, A21, D21, -, st21⟩ := newO X0 hx hZ hown (tw hw 0 rfl) (tw hw 1 rfl) (tw hw 2 rfl) e0 (g := (mkF m 5 #[vi i0, vi i1, vi i2, vi i3, vi (2 : Int32), .unset, .unset, .unset, .unset, .unset, .unset, .unset] [])) rfl (hb hby at_5) (by decide) (by decide)
    obtain ⟨w, g21⟩ : ∃ z, z = h0.size := ⟨_, rfl⟩
    rw [← g21] at A21 D21 st21
    refine EndsK.go st21 ?_
    have F21_modCount : Fld Z h21 w "java/util/AbstractList" "modCount" "I" (.int (0 : Int32)) := D21 (Or.inl (tw hw 22 rfl)) (ty := .int) (by decide)
    have F21_elementData : Fld Z h21 w "java/util/ArrayList" "elementData" "[Ljava/lang/Object;" .null := D21 (Or.inl (tw hw 25 rfl)) (ty := (.array (.object "java/lang/Object"))) (by decide)
    have F21_size : Fld Z h21 w "java/util/ArrayList" "size" "I" (.int (0 : Int32)) := D21 (Or.inl (tw hw 148 rfl)) (ty := .int) (by decide)
    have Z21 : n0 ≤ h21.size := Nat.le_trans Z0 E21.1
    have G21 : n0 ≤ w := by rw [g21]; exact Z0
    have K21 := K0.ext E21
    have sz_w : h0.size ≤ w := by rw [g21]; exact K0.1
    refine EndsK.go (fun _ kz => XS.dup X21.here hx rfl (hb hby at_8) rfl rfl kz) ?_
    obtain ⟨_, T22, Lc22, X22, hQ22, st22⟩ := doneT X21 (X21.specialBack hx (y := mn49) rfl hown (mvT hZ (tw hw 3 rfl)) (mvT hZ (tw hw 4 rfl)) (mvT hZ (tw hw 5 rfl)) (by decide) (backOf (W := 1) (rm_ali l Z a0 hw [] h0 dce cd w h21 n0 Z21 L0 (ext_kept (ext_refl h0) K21 all0) sz_w A21 F21_size F21_elementData F21_modCount G21) hZ (tw hw 5 rfl) (tw hw 2 rfl) (by decide) (by decide)) (g := (mkF m 9 #[vi i0, vi i1, vi i2, vi i3, vi (2 : Int32), .unset, .unset, .unset, .unset, .unset, .unset, .unset] [(.ref w), (.ref w)])) rfl (by rw [hml]; rfl) (Steps.refl _) (a := w) (argsL := []) (rest := [(.ref w)]) (lenOf pd28 rfl) rfl (by show 2 * 0 + _ ≤ _; exact Nat.le_of_eq rfl) (hb hby at_9) (fun _ _ => ⟨rfl, e21, (by decide : 0 + 1 + 0 ≤ _), (by decide : 0 + 3 + 0 ≤ _)⟩))
    obtain ⟨rfl, N22, Kc22, I22⟩ := hQ22
    have M22 := Fr.app N0 N22
    obtain ⟨h22, e22⟩ : ∃ z, T22.heap = z := ⟨_, rfl⟩
    rw [e22] at Kc22 I22
    have Z22 : n0 ≤ h22.size := Nat.le_trans Z21 Kc22.1
    have K22 := K21.trans Kc22 (allS (Or.inr sz_w) all0)
    have E22_w := A21.keep Kc22
    have g_w := G21
    refine EndsK.tr st22 ?_
    refine EndsK.go (fun _ kz => XS.astore X22.here hx rfl (hb hby at_12) rfl rfl (l' := #[vi i0, vi i1, vi i2, vi i3, vi (2 : Int32), vr w, .unset, .unset, .unset, .unset, .unset, .unset]) rfl (XS.iload X22.here hx rfl (hb hby at_14) rfl (XS.ifNo X22.here hx rfl (hb hby at_16) rfl ((if0 _ _).trans (tlt (by decide : (0 : Int32) < (2 : Int32))).2.2.2) (XS.aload X22.here hx rfl (hb hby at_19) rfl rfl (XS.iloadN X22.here hx rfl (hb hby at_21) rfl kz))))) ?_
    obtain ⟨_, T23, Lc23, X23, hQ23, st23⟩ := doneG X22 (Jvm.LawKit.callS X22 hx (y := mn46) hown (mvT hZ (tw hw 219 rfl)) (mvT hZ (tw hw 220 rfl)) (mvT hZ (tw hw 221 rfl)) (mvT hZ (tw hw 222 rfl)) (by decide) (backOf (W := 1) (rm_vo l Z a0 hw [] i1 ca cl h22 n0 Z22 (C0.ext (ext_kept (ext_refl h0) K22 all0))) hZ (tw hw 222 rfl) (tw hw 221 rfl) (by decide) (by decide)) (g := (mkF m 22 #[vi i0, vi i1, vi i2, vi i3, vi (2 : Int32), vr w, .unset, .unset, .unset, .unset, .unset, .unset] [(.int i1), (.ref w)])) rfl (by rw [hml]; rfl) (argsL := [(.int i1)]) (rest := [(.ref w)]) (lenOf pd39 rfl) rfl (by show 2 * 0 + _ ≤ _; exact Nat.le_of_eq rfl) (hb hby at_22) (fun _ _ => ⟨rfl, e22, (by decide : 0 + 1 + 0 + 1 ≤ _), (by decide : 0 + 3 + 0 + 1 ≤ _)⟩))
    obtain ⟨b0, rfl, N23, E23, Eb23, Fb23⟩ := hQ23
    have M23 := Fr.app M22 N23
    obtain ⟨h23, e23⟩ : ∃ z, T23.heap = z := ⟨_, rfl⟩
    rw [e23] at E23 Eb23 Fb23
    have Z23 : n0 ≤ h23.size := Nat.le_trans Z22 E23.1
    have K23 := K22.ext E23
    have I23 := I22.ext E23
    refine EndsK.go st23 ?_
    obtain ⟨cq24, kq24, qa24, qb24, qc24⟩ := isOf hZ e23 I23.1
    obtain ⟨_, T24, Lc24, X24, hQ24, st24⟩ := doneT X23 (X23.interfaceBack hx (C := "java/util/ArrayList") (xi := mn63) (y := mn53) hown (mvT hZ (tw hw 240 rfl)) (mvT hZ (tw hw 241 rfl)) (mvT hZ (tw hw 242 rfl)) (mvT hZ (tw hw 243 rfl)) (mvT hZ (tw hw 244 rfl)) (mvT hZ (tw hw 245 rfl)) (mvT hZ (tw hw 246 rfl)) (mvT hZ (tw hw 118 rfl)) (by decide) (backOf (W := 0) (rm_add0 l Z a0 hw [] h0 dce cd w (0 : Int32) b0 h23 n0 Z23 L0 (ext_kept (ext_refl h0) K23 all0) sz_w I23 g_w Eb23) hZ (tw hw 247 rfl) (tw hw 2 rfl) (by decide) (by decide)) qa24 qb24 qc24 (g := (mkF m 25 #[vi i0, vi i1, vi i2, vi i3, vi (2 : Int32), vr w, .unset, .unset, .unset, .unset, .unset, .unset] [(.ref b0), (.ref w)])) rfl (by rw [hml]; rfl) (Steps.refl _) (argsL := [(.ref b0)]) (rest := []) (lenOf pd40 rfl) rfl (by show 2 * 0 + _ ≤ _; exact Nat.le_of_eq rfl) (hb hby at_25) (fun _ _ => ⟨rfl, e23, (by decide : 0 + 1 + 0 + 1 + 1 ≤ _), (by decide : 0 + 3 + 0 + 1 + 10 ≤ _)⟩))
    obtain ⟨te, rfl, N24, Kc24, q_s24, I24, B24⟩ := hQ24
    have M24 := Fr.app M23 N24
    obtain ⟨h24, e24⟩ : ∃ z, T24.heap = z := ⟨_, rfl⟩
    rw [e24] at Kc24 I24 B24
    have Z24 : n0 ≤ h24.size := Nat.le_trans Z23 Kc24.1
    have K24 := K23.trans Kc24 (allS (Or.inr sz_w) all0)
    have sz_te : h0.size ≤ te := Nat.le_trans K23.1 q_s24
    have g_te : n0 ≤ te := Nat.le_trans Z23 q_s24
    have nwt : w ≠ te := Nat.ne_of_lt (Nat.lt_of_lt_of_le I23.1.lt q_s24)
    have Er0_24 := Eb23.keep Kc24
    have Fr0_24 := Fb23.keep Kc24 (ninS (exa_ne Eb23 I23.1 (by decide)) nin0)
    refine EndsK.tr st24 ?_
    refine EndsK.go (fun _ kz => XS.pop X24.here hx rfl (hb hby at_30) rfl rfl (XS.iload X24.here hx rfl (hb hby at_31) rfl (XS.iconst X24.here hx rfl (hb hby at_33) (XS.icmpNo X24.here hx rfl (hb hby at_34) rfl (tlt (by decide : (1 : Int32) < (2 : Int32))).2.2.2 (XS.aload X24.here hx rfl (hb hby at_37) rfl rfl (XS.iloadN X24.here hx rfl (hb hby at_39) rfl kz)))))) ?_
    obtain ⟨_, T25, Lc25, X25, hQ25, st25⟩ := doneG X24 (Jvm.LawKit.callS X24 hx (y := mn46) hown (mvT hZ (tw hw 219 rfl)) (mvT hZ (tw hw 220 rfl)) (mvT hZ (tw hw 221 rfl)) (mvT hZ (tw hw 222 rfl)) (by decide) (backOf (W := 1) (rm_vo l Z a0 hw [] i2 ca cl h24 n0 Z24 (C0.ext (ext_kept (ext_refl h0) K24 all0))) hZ (tw hw 222 rfl) (tw hw 221 rfl) (by decide) (by decide)) (g := (mkF m 40 #[vi i0, vi i1, vi i2, vi i3, vi (2 : Int32), vr w, .unset, .unset, .unset, .unset, .unset, .unset] [(.int i2), (.ref w)])) rfl (by rw [hml]; rfl) (argsL := [(.int i2)]) (rest := [(.ref w)]) (lenOf pd39 rfl) rfl (by show 2 * 0 + _ ≤ _; exact Nat.le_of_eq rfl) (hb hby at_40) (fun _ _ => ⟨rfl, e24, (by decide : 0 + 1 + 0 + 1 + 1 + 1 ≤ _), (by decide : 0 + 3 + 0 + 1 + 10 + 1 ≤ _)⟩))
    obtain ⟨b1, rfl, N25, E25, Eb25, Fb25⟩ := hQ25
    have M25 := Fr.app M24 N25
    obtain ⟨h25, e25⟩ : ∃ z, T25.heap = z := ⟨_, rfl⟩
    rw [e25] at E25 Eb25 Fb25
    have Z25 : n0 ≤ h25.size := Nat.le_trans Z24 E25.1
    have K25 := K24.ext E25
    have I25 := I24.ext E25
    have L25_ := B24.ext E25
    have Eq0_25 := (Er0_24.ext E25)
    have Fq0_25 := (Fr0_24.ext E25)
    refine EndsK.go st25 ?_
    obtain ⟨cq26, kq26, qa26, qb26, qc26⟩ := isOf hZ e25 I25.1
    obtain ⟨_, T26, Lc26, X26, hQ26, st26⟩ := doneT X25 (X25.interfaceBack hx (C := "java/util/ArrayList") (xi := mn63) (y := mn53) hown (mvT hZ (tw hw 240 rfl)) (mvT hZ (tw hw 241 rfl)) (mvT hZ (tw hw 242 rfl)) (mvT hZ (tw hw 243 rfl)) (mvT hZ (tw hw 244 rfl)) (mvT hZ (tw hw 245 rfl)) (mvT hZ (tw hw 246 rfl)) (mvT hZ (tw hw 118 rfl)) (by decide) (backOf (W := 0) (rm_addn l Z a0 hw [] w te b1 1 (fun j => if j = 0 then b0 else (fun _ => 0) j) ((0 : Int32) + 1) h25 n0 Z25 I25 L25_ Eb25 g_w g_te nwt (by decide)) hZ (tw hw 247 rfl) (tw hw 2 rfl) (by decide) (by decide)) qa26 qb26 qc26 (g := (mkF m 43 #[vi i0, vi i1, vi i2, vi i3, vi (2 : Int32), vr w, .unset, .unset, .unset, .unset, .unset, .unset] [(.ref b1), (.ref w)])) rfl (by rw [hml]; rfl) (Steps.refl _) (argsL := [(.ref b1)]) (rest := []) (lenOf pd40 rfl) rfl (by show 2 * 0 + _ ≤ _; exact Nat.le_of_eq rfl) (hb hby at_43) (fun _ _ => ⟨rfl, e25, (by decide : 0 + 1 + 0 + 1 + 1 + 1 + 0 ≤ _), (by decide : 0 + 3 + 0 + 1 + 10 + 1 + 0 ≤ _)⟩))
    obtain ⟨rfl, N26, Kc26, I26, B26⟩ := hQ26
    have M26 := Fr.app M25 N26
    obtain ⟨h26, e26⟩ : ∃ z, T26.heap = z := ⟨_, rfl⟩
    rw [e26] at Kc26 I26 B26
    have Z26 : n0 ≤ h26.size := Nat.le_trans Z25 Kc26.1
    have K26 := K25.trans Kc26 (allS (Or.inr sz_w) (allS (Or.inr sz_te) all0))
    have Er0_26 := Eq0_25.keep Kc26
    have Fr0_26 := Fq0_25.keep Kc26 (ninS (exa_ne Eq0_25 I25.1 (by decide)) (ninS (els_ne Eq0_25 (tw hw 226 rfl) L25_) nin0))
    have Er1_26 := Eb25.keep Kc26
    have Fr1_26 := Fb25.keep Kc26 (ninS (exa_ne Eb25 I25.1 (by decide)) (ninS (els_ne Eb25 (tw hw 226 rfl) L25_) nin0))
    refine EndsK.tr st26 ?_
    refine EndsK.go (fun _ kz => XS.pop X26.here hx rfl (hb hby at_48) rfl rfl (XS.iload X26.here hx rfl (hb hby at_49) rfl (XS.iconst X26.here hx rfl (hb hby at_51) (XS.icmpYes X26.here hx rfl (pc0 := 52) (pc' := 67) rfl (hb hby at_52) rfl (flt (by decide : ¬ ((2 : Int32) < (2 : Int32)))).2.2.2 (by decide) (by decide) (XS.aload X26.here hx rfl (hb hby at_67) rfl rfl kz))))) ?_
    have hCH := hCH.ext (ext_kept (ext_refl h0) K26 all0)
    obtain ⟨_, _, ⟨T27, L27, k27, n27⟩, -, X27, hS, gr27, ⟨Lc27, hQ27, l27, y27, z27⟩, st27⟩ := callSS X26 hx (y := mn59) hown (mvT hZ (tw hw 26 rfl)) (mvT hZ (tw hw 27 rfl)) (mvT hZ (tw hw 28 rfl)) (mvT hZ (tw hw 29 rfl)) (by decide) (backOfC (W := 0) (rm_line2 l Z a0 hw [] h0 zc o d u w te (((0 : Int32) + 1) + 1) (fun j => if j = 1 then b1 else (fun j => if j = 0 then b0 else (fun _ => 0) j) j) b0 b1 i1 i2 h26 n0 Z26 J (ext_kept (ext_refl h0) K26 all0) (Nat.le_of_eq hn0.symm) I26 B26 rfl Er0_26 Fr0_26 rfl Er1_26 Fr1_26) hZ (tw hw 29 rfl) (tw hw 28 rfl) (by decide) (by decide) hEL hCH) (g := (mkF m 69 #[vi i0, vi i1, vi i2, vi i3, vi (2 : Int32), vr w, .unset, .unset, .unset, .unset, .unset, .unset] [(.ref w)])) rfl (by rw [hml]; rfl) (argsL := [(.ref w)]) (rest := []) (lenOf pd38 rfl) rfl (by show 2 * 0 + _ ≤ _; exact Nat.le_of_eq rfl) (hb hby at_69) (fun _ _ => ⟨rfl, e26, (by decide : 0 + 1 + 0 + 1 + 1 + 1 + 0 + 14 ≤ _), (by decide : 0 + 3 + 0 + 1 + 10 + 1 + 0 + 600 ≤ _)⟩)
    dsimp only [Pt.U, Pt.locs, Pt.cells, Pt.slots] at X27 hS gr27 l27 y27 z27 st27 hQ27
    subst l27 y27 z27
    refine EndsK.tr st27 ?_
    obtain ⟨sa, sb, FF, rfl, N27, E27, Ea, Fc, Fv, BF, W6, Sg0, Sg1⟩ := hQ27
    have M27 := Fr.app M26 N27
    have hZ : Z.Warmed39 (s.setVm T27.vm).vm := State.Warmed39.trans hZ hS.1
    have hown : (s.setVm T27.vm).vm.findClass "com/example/guildtable/guildtable/table/WinnersLinePinLaw" = some m.cls := (hS.1.alike.findClass _ _).trans hown
    obtain ⟨h27, e27⟩ : ∃ z, T27.heap = z := ⟨_, rfl⟩
    rw [e27] at E27 Ea Fc Fv BF
    have hk : T27.heap.size ≤ h27.size := Nat.le_of_eq (congrArg Array.size e27)
    have Z27 : n0 ≤ h27.size := Nat.le_trans Z26 E27.1
    have K27 := K26.ext E27
    obtain ⟨cS, AS, zS, lS, HS⟩ := id BF
    have JF := J.ext (ext_kept (ext_refl h0) K27 all0)
    refine EndsK.go (fun _ kz => XS.astore X27.here hx rfl (hb hby at_72) rfl rfl (l' := #[vi i0, vi i1, vi i2, vi i3, vi (2 : Int32), vr w, vr sa, .unset, .unset, .unset, .unset, .unset]) rfl (XS.iload X27.here hx rfl (hb hby at_74) rfl (XS.ifNo X27.here hx rfl (hb hby at_76) rfl ((if0 _ _).trans (tlt (by decide : (0 : Int32) < (2 : Int32))).2.2.2) (XS.iloadN X27.here hx rfl (hb hby at_79) rfl kz)))) ?_
    obtain ⟨_, T28, Lc28, X28, hQ28, st28⟩ := doneG X27 (Jvm.LawKit.callS X27 hx (y := mn3) hown (mvT hZ (tw hw 321 rfl)) (mvT hZ (tw hw 322 rfl)) (mvT hZ (tw hw 323 rfl)) (mvT hZ (tw hw 324 rfl)) (by decide) (backOf (W := 0) (rm_segl l Z a0 hw [] i1 h27 n0 Z27) hZ (tw hw 324 rfl) (tw hw 323 rfl) (by decide) (by decide)) (g := (mkF m 80 #[vi i0, vi i1, vi i2, vi i3, vi (2 : Int32), vr w, vr sa, .unset, .unset, .unset, .unset, .unset] [(.int i1)])) rfl (by rw [hml]; rfl) (argsL := [(.int i1)]) (rest := []) (lenOf pd5 rfl) rfl (by show 2 * 0 + _ ≤ _; exact Nat.le_of_eq rfl) (hb hby at_80) (fun _ _ => ⟨rfl, e27, (by decide : 0 + 1 + 0 + 1 + 1 + 1 + 0 + 14 + 0 ≤ _), (by decide : 0 + 3 + 0 + 1 + 10 + 1 + 0 + 600 + 0 ≤ _)⟩))
    obtain ⟨rfl, N28, e28⟩ := hQ28
    have M28 := Fr.app M27 N28
    refine EndsK.go st28 ?_
    refine EndsK.start (congrArg (fun z_ => (mkF m 83 #[vi i0, vi i1, vi i2, vi i3, vi (2 : Int32), vr w, vr sa, .unset, .unset, .unset, .unset, .unset] [(.int z_)])) (segLen_eq _ : (segLenF i1) = (Int32.ofNat (1 + sl i1)))) ?_
    refine EndsK.go (fun _ kz => XS.goto X28.here hx rfl (pc0 := 83) (pc' := 87) rfl (hb hby at_83) (by decide) (by decide) (XS.istore X28.here hx rfl (hb hby at_87) rfl (l' := #[vi i0, vi i1, vi i2, vi i3, vi (2 : Int32), vr w, vr sa, vi (Int32.ofNat (1 + sl i1)), .unset, .unset, .unset, .unset]) rfl (XS.iload X28.here hx rfl (hb hby at_89) rfl (XS.iconst X28.here hx rfl (hb hby at_91) (XS.icmpNo X28.here hx rfl (hb hby at_92) rfl (tlt (by decide : (1 : Int32) < (2 : Int32))).2.2.2 (XS.iloadN X28.here hx rfl (hb hby at_95) rfl kz)))))) ?_
    obtain ⟨_, T29, Lc29, X29, hQ29, st29⟩ := doneG X28 (Jvm.LawKit.callS X28 hx (y := mn3) hown (mvT hZ (tw hw 321 rfl)) (mvT hZ (tw hw 322 rfl)) (mvT hZ (tw hw 323 rfl)) (mvT hZ (tw hw 324 rfl)) (by decide) (backOf (W := 0) (rm_segl l Z a0 hw [] i2 h27 n0 Z27) hZ (tw hw 324 rfl) (tw hw 323 rfl) (by decide) (by decide)) (g := (mkF m 96 #[vi i0, vi i1, vi i2, vi i3, vi (2 : Int32), vr w, vr sa, vi (Int32.ofNat (1 + sl i1)), .unset, .unset, .unset, .unset] [(.int i2)])) rfl (by rw [hml]; rfl) (argsL := [(.int i2)]) (rest := []) (lenOf pd5 rfl) rfl (by show 2 * 0 + _ ≤ _; exact Nat.le_of_eq rfl) (hb hby at_96) (fun _ _ => ⟨rfl, e28, (by decide : 0 + 1 + 0 + 1 + 1 + 1 + 0 + 14 + 0 + 0 ≤ _), (by decide : 0 + 3 + 0 + 1 + 10 + 1 + 0 + 600 + 0 + 0 ≤ _)⟩))
    obtain ⟨rfl, N29, e29⟩ := hQ29
    have M29 := Fr.app M28 N29
    refine EndsK.go st29 ?_
    refine EndsK.start (congrArg (fun z_ => (mkF m 99 #[vi i0, vi i1, vi i2, vi i3, vi (2 : Int32), vr w, vr sa, vi (Int32.ofNat (1 + sl i1)), .unset, .unset, .unset, .unset] [(.int z_)])) (segLen_eq _ : (segLenF i2) = (Int32.ofNat (1 + sl i2)))) ?_
    refine EndsK.go (fun _ kz => XS.goto X29.here hx rfl (pc0 := 99) (pc' := 103) rfl (hb hby at_99) (by decide) (by decide) (XS.istore X29.here hx rfl (hb hby at_103) rfl (l' := #[vi i0, vi i1, vi i2, vi i3, vi (2 : Int32), vr w, vr sa, vi (Int32.ofNat (1 + sl i1)), vi (Int32.ofNat (1 + sl i2)), .unset, .unset, .unset]) rfl (XS.iload X29.here hx rfl (hb hby at_105) rfl (XS.iconst X29.here hx rfl (hb hby at_107) (XS.icmpYes X29.here hx rfl (pc0 := 108) (pc' := 118) rfl (hb hby at_108) rfl (flt (by decide : ¬ ((2 : Int32) < (2 : Int32)))).2.2.2 (by decide) (by decide) (XS.iconst X29.here hx rfl (hb hby at_118) (XS.istore X29.here hx rfl (hb hby at_119) rfl (l' := #[vi i0, vi i1, vi i2, vi i3, vi (2 : Int32), vr w, vr sa, vi (Int32.ofNat (1 + sl i1)), vi (Int32.ofNat (1 + sl i2)), vi (0 : Int32), .unset, .unset]) rfl kz))))))) ?_
    show EndsK p e below _ (T29.setTop (mkF m 121 #[vi i0, vi i1, vi i2, vi i3, vi (2 : Int32), vr w, vr sa, vi (Int32.ofNat (1 + sl i1)), vi (Int32.ofNat (1 + sl i2)), vi (0 : Int32), .unset, .unset] []))
    refine EndsK.go (fun _ kz => XS.bipush X29.here hx rfl (hb hby at_121) (XS.iload X29.here hx rfl (hb hby at_123) rfl (XS.iadd X29.here hx rfl (hb hby at_125) rfl kz))) ?_
    refine EndsK.start (congrArg (fun z_ => (mkF m 126 #[vi i0, vi i1, vi i2, vi i3, vi (2 : Int32), vr w, vr sa, vi (Int32.ofNat (1 + sl i1)), vi (Int32.ofNat (1 + sl i2)), vi (0 : Int32), .unset, .unset] [(.int z_)])) (on_addN (a := 6) (by omega) : ((6 : Int32) + (Int32.ofNat (1 + sl i1))) = (Int32.ofNat (6 + 1 + sl i1)))) ?_
    refine EndsK.go (fun _ kz => XS.iload X29.here hx rfl (hb hby at_126) rfl (XS.iadd X29.here hx rfl (hb hby at_128) rfl kz)) ?_
    refine EndsK.start (congrArg (fun z_ => (mkF m 129 #[vi i0, vi i1, vi i2, vi i3, vi (2 : Int32), vr w, vr sa, vi (Int32.ofNat (1 + sl i1)), vi (Int32.ofNat (1 + sl i2)), vi (0 : Int32), .unset, .unset] [(.int z_)])) (on_addN (by omega) : ((Int32.ofNat (6 + 1 + sl i1)) + (Int32.ofNat (1 + sl i2))) = (Int32.ofNat (6 + 1 + sl i1 + 1 + sl i2)))) ?_
    refine EndsK.go (fun _ kz => XS.iload X29.here hx rfl (hb hby at_129) rfl (XS.iadd X29.here hx rfl (hb hby at_131) rfl kz)) ?_
    refine EndsK.start (congrArg (fun z_ => (mkF m 132 #[vi i0, vi i1, vi i2, vi i3, vi (2 : Int32), vr w, vr sa, vi (Int32.ofNat (1 + sl i1)), vi (Int32.ofNat (1 + sl i2)), vi (0 : Int32), .unset, .unset] [(.int z_)])) (Int32.add_zero _ : ((Int32.ofNat (6 + 1 + sl i1 + 1 + sl i2)) + (0 : Int32)) = (Int32.ofNat (6 + 1 + sl i1 + 1 + sl i2)))) ?_
    refine EndsK.go (fun _ kz => XS.istore X29.here hx rfl (hb hby at_132) rfl (l' := #[vi i0, vi i1, vi i2, vi i3, vi (2 : Int32), vr w, vr sa, vi (Int32.ofNat (1 + sl i1)), vi (Int32.ofNat (1 + sl i2)), vi (0 : Int32), vi (Int32.ofNat (6 + 1 + sl i1 + 1 + sl i2)), .unset]) rfl (XS.aload X29.here hx rfl (hb hby at_134) rfl rfl kz)) ?_
    obtain ⟨cq30, kq30, qa30, qb30, qc30⟩ := isOf hZ e29 Ea
    obtain ⟨_, T30, Lc30, X30, hQ30, st30⟩ := doneT X29 (X29.virtualBack hx (y := mn9) (z := mn9) hown (mvT hZ (tw hw 196 rfl)) (mvT hZ (tw hw 52 rfl)) (notFace_of_selects (args := #[]) (mvT hZ (tw hw 54 rfl))) (mvT hZ (tw hw 54 rfl)) (mvT hZ (tw hw 53 rfl)) (by decide) (backOf (W := 0) (rm_slen l Z a0 hw [] sa zc sb cS (Int32.ofNat (6 + 1 + sl i1 + 1 + sl i2)) h27 n0 Z27 JF.SC JF.hzc Ea Fc Fv AS (by rw [zS])) hZ (tw hw 55 rfl) (tw hw 34 rfl) (by decide) (by decide)) qa30 qc30 (g := (mkF m 136 #[vi i0, vi i1, vi i2, vi i3, vi (2 : Int32), vr w, vr sa, vi (Int32.ofNat (1 + sl i1)), vi (Int32.ofNat (1 + sl i2)), vi (0 : Int32), vi (Int32.ofNat (6 + 1 + sl i1 + 1 + sl i2)), .unset] [(.ref sa)])) rfl (by rw [hml]; rfl) (Steps.refl _) (argsL := []) (rest := []) (lenOf pd9 rfl) rfl (by show 2 * 0 + _ ≤ _; exact Nat.le_of_eq rfl) (hb hby at_136) (fun _ _ => ⟨rfl, e29, (by decide : 0 + 1 + 0 + 1 + 1 + 1 + 0 + 14 + 0 + 0 + 0 ≤ _), (by decide : 0 + 3 + 0 + 1 + 10 + 1 + 0 + 600 + 0 + 0 + 0 ≤ _)⟩))
    obtain ⟨rfl, N30, e30⟩ := hQ30
    have M30 := Fr.app M29 N30
    refine EndsK.tr st30 ?_
    refine EndsK.go (fun _ kz => XS.iload X30.here hx rfl (hb hby at_139) rfl (XS.icmpYes X30.here hx rfl (pc0 := 141) (pc' := 146) rfl (hb hby at_141) rfl (teq (congrArg Int32.ofNat (by omega) : (Int32.ofNat (6 + 1 + sl i1 + 1 + sl i2)) = (Int32.ofNat (6 + 1 + sl i1 + 1 + sl i2)))).1 (by decide) (by decide) (XS.aload X30.here hx rfl (hb hby at_146) rfl rfl (XS.iconst X30.here hx rfl (hb hby at_148) kz)))) ?_
    refine EndsK.start (congrArg (fun z_ => (mkF m 149 #[vi i0, vi i1, vi i2, vi i3, vi (2 : Int32), vr w, vr sa, vi (Int32.ofNat (1 + sl i1)), vi (Int32.ofNat (1 + sl i2)), vi (0 : Int32), vi (Int32.ofNat (6 + 1 + sl i1 + 1 + sl i2)), .unset] [(.int z_), (.ref sa)])) (rfl : (0 : Int32) = (Int32.ofNat 0))) ?_
    obtain ⟨cq31, kq31, qa31, qb31, qc31⟩ := isOf hZ e30 Ea
    obtain ⟨_, T31, Lc31, X31, hQ31, st31⟩ := doneT X30 (X30.virtualBack hx (y := mn41) (z := mn41) hown (mvT hZ (tw hw 197 rfl)) (mvT hZ (tw hw 198 rfl)) (notFace_of_selects (args := #[]) (mvT hZ (tw hw 200 rfl))) (mvT hZ (tw hw 200 rfl)) (mvT hZ (tw hw 199 rfl)) (by decide) (backOf (W := 0) (rm_chA l Z a0 hw [] zc o d u sa sb FF 0 (6 + 1 + sl i1 + 1 + sl i2) h27 n0 Z27 JF Ea Fc Fv BF (by omega) (by omega)) hZ (tw hw 201 rfl) (tw hw 34 rfl) (by decide) (by decide)) qa31 qc31 (g := (mkF m 149 #[vi i0, vi i1, vi i2, vi i3, vi (2 : Int32), vr w, vr sa, vi (Int32.ofNat (1 + sl i1)), vi (Int32.ofNat (1 + sl i2)), vi (0 : Int32), vi (Int32.ofNat (6 + 1 + sl i1 + 1 + sl i2)), .unset] [(.int (Int32.ofNat 0)), (.ref sa)])) rfl (by rw [hml]; rfl) (Steps.refl _) (argsL := [(.int (Int32.ofNat 0))]) (rest := []) (lenOf pd26 rfl) rfl (by show 2 * 0 + _ ≤ _; exact Nat.le_of_eq rfl) (hb hby at_149) (fun _ _ => ⟨rfl, e30, (by decide : 0 + 1 + 0 + 1 + 1 + 1 + 0 + 14 + 0 + 0 + 0 + 0 ≤ _), (by decide : 0 + 3 + 0 + 1 + 10 + 1 + 0 + 600 + 0 + 0 + 0 + 0 ≤ _)⟩))
    obtain ⟨rfl, N31, e31⟩ := hQ31
    have M31 := Fr.app M30 N31
    refine EndsK.tr st31 ?_
    refine EndsK.go (fun _ kz => XS.bipush X31.here hx rfl (hb hby at_152) (XS.icmpNo X31.here hx rfl (hb hby at_154) rfl (teq (chF_of (k := 119) ((W6 0 (by decide)).trans rfl) (by decide))).2 (XS.aload X31.here hx rfl (hb hby at_157) rfl rfl (XS.iconst X31.here hx rfl (hb hby at_159) kz)))) ?_
    refine EndsK.start (congrArg (fun z_ => (mkF m 160 #[vi i0, vi i1, vi i2, vi i3, vi (2 : Int32), vr w, vr sa, vi (Int32.ofNat (1 + sl i1)), vi (Int32.ofNat (1 + sl i2)), vi (0 : Int32), vi (Int32.ofNat (6 + 1 + sl i1 + 1 + sl i2)), .unset] [(.int z_), (.ref sa)])) (rfl : (1 : Int32) = (Int32.ofNat 1))) ?_
    obtain ⟨cq32, kq32, qa32, qb32, qc32⟩ := isOf hZ e31 Ea
    obtain ⟨_, T32, Lc32, X32, hQ32, st32⟩ := doneT X31 (X31.virtualBack hx (y := mn41) (z := mn41) hown (mvT hZ (tw hw 197 rfl)) (mvT hZ (tw hw 198 rfl)) (notFace_of_selects (args := #[]) (mvT hZ (tw hw 200 rfl))) (mvT hZ (tw hw 200 rfl)) (mvT hZ (tw hw 199 rfl)) (by decide) (backOf (W := 0) (rm_chA l Z a0 hw [] zc o d u sa sb FF 1 (6 + 1 + sl i1 + 1 + sl i2) h27 n0 Z27 JF Ea Fc Fv BF (by omega) (by omega)) hZ (tw hw 201 rfl) (tw hw 34 rfl) (by decide) (by decide)) qa32 qc32 (g := (mkF m 160 #[vi i0, vi i1, vi i2, vi i3, vi (2 : Int32), vr w, vr sa, vi (Int32.ofNat (1 + sl i1)), vi (Int32.ofNat (1 + sl i2)), vi (0 : Int32), vi (Int32.ofNat (6 + 1 + sl i1 + 1 + sl i2)), .unset] [(.int (Int32.ofNat 1)), (.ref sa)])) rfl (by rw [hml]; rfl) (Steps.refl _) (argsL := [(.int (Int32.ofNat 1))]) (rest := []) (lenOf pd26 rfl) rfl (by show 2 * 0 + _ ≤ _; exact Nat.le_of_eq rfl) (hb hby at_160) (fun _ _ => ⟨rfl, e31, (by decide : 0 + 1 + 0 + 1 + 1 + 1 + 0 + 14 + 0 + 0 + 0 + 0 + 0 ≤ _), (by decide : 0 + 3 + 0 + 1 + 10 + 1 + 0 + 600 + 0 + 0 + 0 + 0 + 0 ≤ _)⟩))
    obtain ⟨rfl, N32, e32⟩ := hQ32
    have M32 := Fr.app M31 N32
    refine EndsK.tr st32 ?_
    refine EndsK.go (fun _ kz => XS.bipush X32.here hx rfl (hb hby at_163) (XS.icmpNo X32.here hx rfl (hb hby at_165) rfl (teq (chF_of (k := 105) ((W6 1 (by decide)).trans rfl) (by decide))).2 (XS.aload X32.here hx rfl (hb hby at_168) rfl rfl (XS.iconst X32.here hx rfl (hb hby at_170) kz)))) ?_
    refine EndsK.start (congrArg (fun z_ => (mkF m 171 #[vi i0, vi i1, vi i2, vi i3, vi (2 : Int32), vr w, vr sa, vi (Int32.ofNat (1 + sl i1)), vi (Int32.ofNat (1 + sl i2)), vi (0 : Int32), vi (Int32.ofNat (6 + 1 + sl i1 + 1 + sl i2)), .unset] [(.int z_), (.ref sa)])) (rfl : (2 : Int32) = (Int32.ofNat 2))) ?_
    obtain ⟨cq33, kq33, qa33, qb33, qc33⟩ := isOf hZ e32 Ea
    obtain ⟨_, T33, Lc33, X33, hQ33, st33⟩ := doneT X32 (X32.virtualBack hx (y := mn41) (z := mn41) hown (mvT hZ (tw hw 197 rfl)) (mvT hZ (tw hw 198 rfl)) (notFace_of_selects (args := #[]) (mvT hZ (tw hw 200 rfl))) (mvT hZ (tw hw 200 rfl)) (mvT hZ (tw hw 199 rfl)) (by decide) (backOf (W := 0) (rm_chA l Z a0 hw [] zc o d u sa sb FF 2 (6 + 1 + sl i1 + 1 + sl i2) h27 n0 Z27 JF Ea Fc Fv BF (by omega) (by omega)) hZ (tw hw 201 rfl) (tw hw 34 rfl) (by decide) (by decide)) qa33 qc33 (g := (mkF m 171 #[vi i0, vi i1, vi i2, vi i3, vi (2 : Int32), vr w, vr sa, vi (Int32.ofNat (1 + sl i1)), vi (Int32.ofNat (1 + sl i2)), vi (0 : Int32), vi (Int32.ofNat (6 + 1 + sl i1 + 1 + sl i2)), .unset] [(.int (Int32.ofNat 2)), (.ref sa)])) rfl (by rw [hml]; rfl) (Steps.refl _) (argsL := [(.int (Int32.ofNat 2))]) (rest := []) (lenOf pd26 rfl) rfl (by show 2 * 0 + _ ≤ _; exact Nat.le_of_eq rfl) (hb hby at_171) (fun _ _ => ⟨rfl, e32, (by decide : 0 + 1 + 0 + 1 + 1 + 1 + 0 + 14 + 0 + 0 + 0 + 0 + 0 + 0 ≤ _), (by decide : 0 + 3 + 0 + 1 + 10 + 1 + 0 + 600 + 0 + 0 + 0 + 0 + 0 + 0 ≤ _)⟩))
    obtain ⟨rfl, N33, e33⟩ := hQ33
    have M33 := Fr.app M32 N33
    refine EndsK.tr st33 ?_
    refine EndsK.go (fun _ kz => XS.bipush X33.here hx rfl (hb hby at_174) (XS.icmpNo X33.here hx rfl (hb hby at_176) rfl (teq (chF_of (k := 110) ((W6 2 (by decide)).trans rfl) (by decide))).2 (XS.aload X33.here hx rfl (hb hby at_179) rfl rfl (XS.iconst X33.here hx rfl (hb hby at_181) kz)))) ?_
    refine EndsK.start (congrArg (fun z_ => (mkF m 182 #[vi i0, vi i1, vi i2, vi i3, vi (2 : Int32), vr w, vr sa, vi (Int32.ofNat (1 + sl i1)), vi (Int32.ofNat (1 + sl i2)), vi (0 : Int32), vi (Int32.ofNat (6 + 1 + sl i1 + 1 + sl i2)), .unset] [(.int z_), (.ref sa)])) (rfl : (3 : Int32) = (Int32.ofNat 3))) ?_
    obtain ⟨cq34, kq34, qa34, qb34, qc34⟩ := isOf hZ e33 Ea
    obtain ⟨_, T34, Lc34, X34, hQ34, st34⟩ := doneT X33 (X33.virtualBack hx (y := mn41) (z := mn41) hown (mvT hZ (tw hw 197 rfl)) (mvT hZ (tw hw 198 rfl)) (notFace_of_selects (args := #[]) (mvT hZ (tw hw 200 rfl))) (mvT hZ (tw hw 200 rfl)) (mvT hZ (tw hw 199 rfl)) (by decide) (backOf (W := 0) (rm_chA l Z a0 hw [] zc o d u sa sb FF 3 (6 + 1 + sl i1 + 1 + sl i2) h27 n0 Z27 JF Ea Fc Fv BF (by omega) (by omega)) hZ (tw hw 201 rfl) (tw hw 34 rfl) (by decide) (by decide)) qa34 qc34 (g := (mkF m 182 #[vi i0, vi i1, vi i2, vi i3, vi (2 : Int32), vr w, vr sa, vi (Int32.ofNat (1 + sl i1)), vi (Int32.ofNat (1 + sl i2)), vi (0 : Int32), vi (Int32.ofNat (6 + 1 + sl i1 + 1 + sl i2)), .unset] [(.int (Int32.ofNat 3)), (.ref sa)])) rfl (by rw [hml]; rfl) (Steps.refl _) (argsL := [(.int (Int32.ofNat 3))]) (rest := []) (lenOf pd26 rfl) rfl (by show 2 * 0 + _ ≤ _; exact Nat.le_of_eq rfl) (hb hby at_182) (fun _ _ => ⟨rfl, e33, (by decide : 0 + 1 + 0 + 1 + 1 + 1 + 0 + 14 + 0 + 0 + 0 + 0 + 0 + 0 + 0 ≤ _), (by decide : 0 + 3 + 0 + 1 + 10 + 1 + 0 + 600 + 0 + 0 + 0 + 0 + 0 + 0 + 0 ≤ _)⟩))
    obtain ⟨rfl, N34, e34⟩ := hQ34
    have M34 := Fr.app M33 N34
    refine EndsK.tr st34 ?_
    refine EndsK.go (fun _ kz => XS.bipush X34.here hx rfl (hb hby at_185) (XS.icmpNo X34.here hx rfl (hb hby at_187) rfl (teq (chF_of (k := 110) ((W6 3 (by decide)).trans rfl) (by decide))).2 (XS.aload X34.here hx rfl (hb hby at_190) rfl rfl (XS.iconst X34.here hx rfl (hb hby at_192) kz)))) ?_
    refine EndsK.start (congrArg (fun z_ => (mkF m 193 #[vi i0, vi i1, vi i2, vi i3, vi (2 : Int32), vr w, vr sa, vi (Int32.ofNat (1 + sl i1)), vi (Int32.ofNat (1 + sl i2)), vi (0 : Int32), vi (Int32.ofNat (6 + 1 + sl i1 + 1 + sl i2)), .unset] [(.int z_), (.ref sa)])) (rfl : (4 : Int32) = (Int32.ofNat 4))) ?_
    obtain ⟨cq35, kq35, qa35, qb35, qc35⟩ := isOf hZ e34 Ea
    obtain ⟨_, T35, Lc35, X35, hQ35, st35⟩ := doneT X34 (X34.virtualBack hx (y := mn41) (z := mn41) hown (mvT hZ (tw hw 197 rfl)) (mvT hZ (tw hw 198 rfl)) (notFace_of_selects (args := #[]) (mvT hZ (tw hw 200 rfl))) (mvT hZ (tw hw 200 rfl)) (mvT hZ (tw hw 199 rfl)) (by decide) (backOf (W := 0) (rm_chA l Z a0 hw [] zc o d u sa sb FF 4 (6 + 1 + sl i1 + 1 + sl i2) h27 n0 Z27 JF Ea Fc Fv BF (by omega) (by omega)) hZ (tw hw 201 rfl) (tw hw 34 rfl) (by decide) (by decide)) qa35 qc35 (g := (mkF m 193 #[vi i0, vi i1, vi i2, vi i3, vi (2 : Int32), vr w, vr sa, vi (Int32.ofNat (1 + sl i1)), vi (Int32.ofNat (1 + sl i2)), vi (0 : Int32), vi (Int32.ofNat (6 + 1 + sl i1 + 1 + sl i2)), .unset] [(.int (Int32.ofNat 4)), (.ref sa)])) rfl (by rw [hml]; rfl) (Steps.refl _) (argsL := [(.int (Int32.ofNat 4))]) (rest := []) (lenOf pd26 rfl) rfl (by show 2 * 0 + _ ≤ _; exact Nat.le_of_eq rfl) (hb hby at_193) (fun _ _ => ⟨rfl, e34, (by decide : 0 + 1 + 0 + 1 + 1 + 1 + 0 + 14 + 0 + 0 + 0 + 0 + 0 + 0 + 0 + 0 ≤ _), (by decide : 0 + 3 + 0 + 1 + 10 + 1 + 0 + 600 + 0 + 0 + 0 + 0 + 0 + 0 + 0 + 0 ≤ _)⟩))
    obtain ⟨rfl, N35, e35⟩ := hQ35
    have M35 := Fr.app M34 N35
    refine EndsK.tr st35 ?_
    refine EndsK.go (fun _ kz => XS.bipush X35.here hx rfl (hb hby at_196) (XS.icmpNo X35.here hx rfl (hb hby at_198) rfl (teq (chF_of (k := 101) ((W6 4 (by decide)).trans rfl) (by decide))).2 (XS.aload X35.here hx rfl (hb hby at_201) rfl rfl (XS.iconst X35.here hx rfl (hb hby at_203) kz)))) ?_
    refine EndsK.start (congrArg (fun z_ => (mkF m 204 #[vi i0, vi i1, vi i2, vi i3, vi (2 : Int32), vr w, vr sa, vi (Int32.ofNat (1 + sl i1)), vi (Int32.ofNat (1 + sl i2)), vi (0 : Int32), vi (Int32.ofNat (6 + 1 + sl i1 + 1 + sl i2)), .unset] [(.int z_), (.ref sa)])) (rfl : (5 : Int32) = (Int32.ofNat 5))) ?_
    obtain ⟨cq36, kq36, qa36, qb36, qc36⟩ := isOf hZ e35 Ea
    obtain ⟨_, T36, Lc36, X36, hQ36, st36⟩ := doneT X35 (X35.virtualBack hx (y := mn41) (z := mn41) hown (mvT hZ (tw hw 197 rfl)) (mvT hZ (tw hw 198 rfl)) (notFace_of_selects (args := #[]) (mvT hZ (tw hw 200 rfl))) (mvT hZ (tw hw 200 rfl)) (mvT hZ (tw hw 199 rfl)) (by decide) (backOf (W := 0) (rm_chA l Z a0 hw [] zc o d u sa sb FF 5 (6 + 1 + sl i1 + 1 + sl i2) h27 n0 Z27 JF Ea Fc Fv BF (by omega) (by omega)) hZ (tw hw 201 rfl) (tw hw 34 rfl) (by decide) (by decide)) qa36 qc36 (g := (mkF m 204 #[vi i0, vi i1, vi i2, vi i3, vi (2 : Int32), vr w, vr sa, vi (Int32.ofNat (1 + sl i1)), vi (Int32.ofNat (1 + sl i2)), vi (0 : Int32), vi (Int32.ofNat (6 + 1 + sl i1 + 1 + sl i2)), .unset] [(.int (Int32.ofNat 5)), (.ref sa)])) rfl (by rw [hml]; rfl) (Steps.refl _) (argsL := [(.int (Int32.ofNat 5))]) (rest := []) (lenOf pd26 rfl) rfl (by show 2 * 0 + _ ≤ _; exact Nat.le_of_eq rfl) (hb hby at_204) (fun _ _ => ⟨rfl, e35, (by decide : 0 + 1 + 0 + 1 + 1 + 1 + 0 + 14 + 0 + 0 + 0 + 0 + 0 + 0 + 0 + 0 + 0 ≤ _), (by decide : 0 + 3 + 0 + 1 + 10 + 1 + 0 + 600 + 0 + 0 + 0 + 0 + 0 + 0 + 0 + 0 + 0 ≤ _)⟩))
    obtain ⟨rfl, N36, e36⟩ := hQ36
    have M36 := Fr.app M35 N36
    refine EndsK.tr st36 ?_
    refine EndsK.go (fun _ kz => XS.bipush X36.here hx rfl (hb hby at_207) (XS.icmpYes X36.here hx rfl (pc0 := 209) (pc' := 214) rfl (hb hby at_209) rfl (teq (chF_of (k := 114) ((W6 5 (by decide)).trans rfl) (by decide))).1 (by decide) (by decide) (XS.bipush X36.here hx rfl (hb hby at_214) (XS.istore X36.here hx rfl (hb hby at_216) rfl (l' := #[vi i0, vi i1, vi i2, vi i3, vi (2 : Int32), vr w, vr sa, vi (Int32.ofNat (1 + sl i1)), vi (Int32.ofNat (1 + sl i2)), vi (0 : Int32), vi (Int32.ofNat (6 + 1 + sl i1 + 1 + sl i2)), vi (6 : Int32)]) rfl (XS.iload X36.here hx rfl (hb hby at_218) rfl (XS.ifNo X36.here hx rfl (hb hby at_220) rfl ((if0 _ _).trans (tlt (by decide : (0 : Int32) < (2 : Int32))).2.2.2) (XS.aload X36.here hx rfl (hb hby at_223) rfl rfl kz))))))) ?_
    show EndsK p e below _ (T36.setTop (mkF m 225 #[vi i0, vi i1, vi i2, vi i3, vi (2 : Int32), vr w, vr sa, vi (Int32.ofNat (1 + sl i1)), vi (Int32.ofNat (1 + sl i2)), vi (0 : Int32), vi (Int32.ofNat (6 + 1 + sl i1 + 1 + sl i2)), vi (6 : Int32)] [(.ref sa)]))
    refine EndsK.go (fun _ kz => XS.iload X36.here hx rfl (hb hby at_225) rfl (XS.iloadN X36.here hx rfl (hb hby at_227) rfl kz)) ?_
    refine EndsK.start (congrArg (fun z_ => (mkF m 228 #[vi i0, vi i1, vi i2, vi i3, vi (2 : Int32), vr w, vr sa, vi (Int32.ofNat (1 + sl i1)), vi (Int32.ofNat (1 + sl i2)), vi (0 : Int32), vi (Int32.ofNat (6 + 1 + sl i1 + 1 + sl i2)), vi (6 : Int32)] [(.int i1), (.int z_), (.ref sa)])) (rfl : (6 : Int32) = (Int32.ofNat (6)))) ?_
    obtain ⟨_, T37, Lc37, X37, hQ37, st37⟩ := doneG X36 (Jvm.LawKit.callS X36 hx (y := mn42) hown (mvT hZ (tw hw 334 rfl)) (mvT hZ (tw hw 335 rfl)) (mvT hZ (tw hw 323 rfl)) (mvT hZ (tw hw 336 rfl)) (by decide) (backOf (W := 0) (rm_seg l Z a0 hw [] zc o d u sa sb FF (6 + 1 + sl i1 + 1 + sl i2) (6) i1 h27 n0 Z27 JF Ea Fc Fv BF (by omega) (by omega) Sg0) hZ (tw hw 336 rfl) (tw hw 323 rfl) (by decide) (by decide)) (g := (mkF m 228 #[vi i0, vi i1, vi i2, vi i3, vi (2 : Int32), vr w, vr sa, vi (Int32.ofNat (1 + sl i1)), vi (Int32.ofNat (1 + sl i2)), vi (0 : Int32), vi (Int32.ofNat (6 + 1 + sl i1 + 1 + sl i2)), vi (6 : Int32)] [(.int i1), (.int (Int32.ofNat (6))), (.ref sa)])) rfl (by rw [hml]; rfl) (argsL := [(.ref sa), (.int (Int32.ofNat (6))), (.int i1)]) (rest := []) (lenOf pd41 rfl) rfl (by show 2 * 0 + _ ≤ _; exact Nat.le_of_eq rfl) (hb hby at_228) (fun _ _ => ⟨rfl, e36, (by decide : 0 + 1 + 0 + 1 + 1 + 1 + 0 + 14 + 0 + 0 + 0 + 0 + 0 + 0 + 0 + 0 + 0 + 0 ≤ _), (by decide : 0 + 3 + 0 + 1 + 10 + 1 + 0 + 600 + 0 + 0 + 0 + 0 + 0 + 0 + 0 + 0 + 0 + 0 ≤ _)⟩))
    obtain ⟨rfl, N37, e37⟩ := hQ37
    have M37 := Fr.app M36 N37
    refine EndsK.go st37 ?_
    refine EndsK.go (fun _ kz => XS.ifYes X37.here hx rfl (pc0 := 231) (pc' := 236) rfl (hb hby at_231) rfl ((if0 _ _).trans (feq (by decide : ¬ ((1 : Int32) = (0 : Int32)))).2) (by decide) (by decide) (XS.iload X37.here hx rfl (hb hby at_236) rfl (XS.iload X37.here hx rfl (hb hby at_238) rfl (XS.iadd X37.here hx rfl (hb hby at_240) rfl kz)))) ?_
    refine EndsK.start (congrArg (fun z_ => (mkF m 241 #[vi i0, vi i1, vi i2, vi i3, vi (2 : Int32), vr w, vr sa, vi (Int32.ofNat (1 + sl i1)), vi (Int32.ofNat (1 + sl i2)), vi (0 : Int32), vi (Int32.ofNat (6 + 1 + sl i1 + 1 + sl i2)), vi (6 : Int32)] [(.int z_)])) (on_addN (a := 6) (by omega) : ((6 : Int32) + (Int32.ofNat (1 + sl i1))) = (Int32.ofNat (6 + 1 + sl i1)))) ?_
    refine EndsK.go (fun _ kz => XS.istore X37.here hx rfl (hb hby at_241) rfl (l' := #[vi i0, vi i1, vi i2, vi i3, vi (2 : Int32), vr w, vr sa, vi (Int32.ofNat (1 + sl i1)), vi (Int32.ofNat (1 + sl i2)), vi (0 : Int32), vi (Int32.ofNat (6 + 1 + sl i1 + 1 + sl i2)), vi (Int32.ofNat (6 + 1 + sl i1))]) rfl (XS.iload X37.here hx rfl (hb hby at_243) rfl (XS.iconst X37.here hx rfl (hb hby at_245) (XS.icmpNo X37.here hx rfl (hb hby at_246) rfl (tlt (by decide : (1 : Int32) < (2 : Int32))).2.2.2 (XS.aload X37.here hx rfl (hb hby at_249) rfl rfl (XS.iload X37.here hx rfl (hb hby at_251) rfl (XS.iloadN X37.here hx rfl (hb hby at_253) rfl kz))))))) ?_
    show EndsK p e below _ (T37.setTop (mkF m 254 #[vi i0, vi i1, vi i2, vi i3, vi (2 : Int32), vr w, vr sa, vi (Int32.ofNat (1 + sl i1)), vi (Int32.ofNat (1 + sl i2)), vi (0 : Int32), vi (Int32.ofNat (6 + 1 + sl i1 + 1 + sl i2)), vi (Int32.ofNat (6 + 1 + sl i1))] [(.int i2), (.int (Int32.ofNat (6 + 1 + sl i1))), (.ref sa)]))
    obtain ⟨_, T38, Lc38, X38, hQ38, st38⟩ := doneG X37 (Jvm.LawKit.callS X37 hx (y := mn42) hown (mvT hZ (tw hw 334 rfl)) (mvT hZ (tw hw 335 rfl)) (mvT hZ (tw hw 323 rfl)) (mvT hZ (tw hw 336 rfl)) (by decide) (backOf (W := 0) (rm_seg l Z a0 hw [] zc o d u sa sb FF (6 + 1 + sl i1 + 1 + sl i2) (6 + 1 + sl i1) i2 h27 n0 Z27 JF Ea Fc Fv BF (by omega) (by omega) Sg1) hZ (tw hw 336 rfl) (tw hw 323 rfl) (by decide) (by decide)) (g := (mkF m 254 #[vi i0, vi i1, vi i2, vi i3, vi (2 : Int32), vr w, vr sa, vi (Int32.ofNat (1 + sl i1)), vi (Int32.ofNat (1 + sl i2)), vi (0 : Int32), vi (Int32.ofNat (6 + 1 + sl i1 + 1 + sl i2)), vi (Int32.ofNat (6 + 1 + sl i1))] [(.int i2), (.int (Int32.ofNat (6 + 1 + sl i1))), (.ref sa)])) rfl (by rw [hml]; rfl) (argsL := [(.ref sa), (.int (Int32.ofNat (6 + 1 + sl i1))), (.int i2)]) (rest := []) (lenOf pd41 rfl) rfl (by show 2 * 0 + _ ≤ _; exact Nat.le_of_eq rfl) (hb hby at_254) (fun _ _ => ⟨rfl, e37, (by decide : 0 + 1 + 0 + 1 + 1 + 1 + 0 + 14 + 0 + 0 + 0 + 0 + 0 + 0 + 0 + 0 + 0 + 0 + 0 ≤ _), (by decide : 0 + 3 + 0 + 1 + 10 + 1 + 0 + 600 + 0 + 0 + 0 + 0 + 0 + 0 + 0 + 0 + 0 + 0 + 0 ≤ _)⟩))
    obtain ⟨rfl, N38, e38⟩ := hQ38
    have M38 := Fr.app M37 N38
    refine EndsK.go st38 ?_
    refine EndsK.go (fun _ kz => XS.ifYes X38.here hx rfl (pc0 := 257) (pc' := 262) rfl (hb hby at_257) rfl ((if0 _ _).trans (feq (by decide : ¬ ((1 : Int32) = (0 : Int32)))).2) (by decide) (by decide) (XS.iload X38.here hx rfl (hb hby at_262) rfl (XS.iload X38.here hx rfl (hb hby at_264) rfl (XS.iadd X38.here hx rfl (hb hby at_266) rfl kz)))) ?_
    refine EndsK.start (congrArg (fun z_ => (mkF m 267 #[vi i0, vi i1, vi i2, vi i3, vi (2 : Int32), vr w, vr sa, vi (Int32.ofNat (1 + sl i1)), vi (Int32.ofNat (1 + sl i2)), vi (0 : Int32), vi (Int32.ofNat (6 + 1 + sl i1 + 1 + sl i2)), vi (Int32.ofNat (6 + 1 + sl i1))] [(.int z_)])) (on_addN (by omega) : ((Int32.ofNat (6 + 1 + sl i1)) + (Int32.ofNat (1 + sl i2))) = (Int32.ofNat (6 + 1 + sl i1 + 1 + sl i2)))) ?_
    refine EndsK.go (fun _ kz => XS.istore X38.here hx rfl (hb hby at_267) rfl (l' := #[vi i0, vi i1, vi i2, vi i3, vi (2 : Int32), vr w, vr sa, vi (Int32.ofNat (1 + sl i1)), vi (Int32.ofNat (1 + sl i2)), vi (0 : Int32), vi (Int32.ofNat (6 + 1 + sl i1 + 1 + sl i2)), vi (Int32.ofNat (6 + 1 + sl i1 + 1 + sl i2))]) rfl (XS.iload X38.here hx rfl (hb hby at_269) rfl (XS.iconst X38.here hx rfl (hb hby at_271) (XS.icmpYes X38.here hx rfl (pc0 := 272) (pc' := 288) rfl (hb hby at_272) rfl (flt (by decide : ¬ ((2 : Int32) < (2 : Int32)))).2.2.2 (by decide) (by decide) (XS.iconst X38.here hx rfl (hb hby at_288) kz))))) ?_
    show EndsK p e below _ (T38.setTop (mkF m 289 #[vi i0, vi i1, vi i2, vi i3, vi (2 : Int32), vr w, vr sa, vi (Int32.ofNat (1 + sl i1)), vi (Int32.ofNat (1 + sl i2)), vi (0 : Int32), vi (Int32.ofNat (6 + 1 + sl i1 + 1 + sl i2)), vi (Int32.ofNat (6 + 1 + sl i1 + 1 + sl i2))] [(.int (1 : Int32))]))
    exact endNW X38 hS (by rw [e38]; exact hk) hx (t := .boolean) Bd.returns (by simp) (hb hby at_289) hlk ⟨rfl, M38⟩ (by decide) (by decide)
  · have hsl1 := sl_le i1
    have hsl2 := sl_le i2
    have hsl3 := sl_le i3
    refine EndsK.start (congrArg (fun z_ => (mkF m 3 #[vi i0, vi i1, vi i2, vi i3, .unset, .unset, .unset, .unset, .unset, .unset, .unset, .unset] [(.int z_)])) (hk3 : (i0 &&& (3 : Int32)) = (3 : Int32))) ?_
    refine EndsK.go (fun _ kz => XS.istore X0.here hx rfl (hb hby at_3) rfl (l' := #[vi i0, vi i1, vi i2, vi i3, vi (3 : Int32), .unset, .unset, .unset, .unset, .unset, .unset, .unset]) rfl kz) ?_
    obtain ⟨T21, h21, X21, e21, E21, A21, D21, -, st21⟩ := newO X0 hx hZ hown (tw hw 0 rfl) (tw hw 1 rfl) (tw hw 2 rfl) e0 (g := (mkF m 5 #[vi i0, vi i1, vi i2, vi i3, vi (3 : Int32), .unset, .unset, .unset, .unset, .unset, .unset, .unset] [])) rfl (hb hby at_5) (by decide) (by decide)
    obtain ⟨w, g21⟩ : ∃ z, z = h0.size := ⟨_, rfl⟩
    rw [← g21] at A21 D21 st21
    refine EndsK.go st21 ?_
    have F21_modCount : Fld Z h21 w "java/util/AbstractList" "modCount" "I" (.int (0 : Int32)) := D21 (Or.inl (tw hw 22 rfl)) (ty := .int) (by decide)
    have F21_elementData : Fld Z h21 w "java/util/ArrayList" "elementData" "[Ljava/lang/Object;" .null := D21 (Or.inl (tw hw 25 rfl)) (ty := (.array (.object "java/lang/Object"))) (by decide)
    have F21_size : Fld Z h21 w "java/util/ArrayList" "size" "I" (.int (0 : Int32)) := D21 (Or.inl (tw hw 148 rfl)) (ty := .int) (by decide)
    have Z21 : n0 ≤ h21.size := Nat.le_trans Z0 E21.1
    have G21 : n0 ≤ w := by rw [g21]; exact Z0
    have K21 := K0.ext E21
    have sz_w : h0.size ≤ w := by rw [g21]; exact K0.1
    refine EndsK.go (fun _ kz => XS.dup X21.here hx rfl (hb hby at_8) rfl rfl kz) ?_
    obtain ⟨_, T22, Lc22, X22, hQ22, st22⟩ := doneT X21 (X21.specialBack hx (y := mn49) rfl hown (mvT hZ (tw hw 3 rfl)) (mvT hZ (tw hw 4 rfl)) (mvT hZ (tw hw 5 rfl)) (by decide) (backOf (W := 1) (rm_ali l Z a0 hw [] h0 dce cd w h21 n0 Z21 L0 (ext_kept (ext_refl h0) K21 all0) sz_w A21 F21_size F21_elementData F21_modCount G21) hZ (tw hw 5 rfl) (tw hw 2 rfl) (by decide) (by decide)) (g := (mkF m 9 #[vi i0, vi i1, vi i2, vi i3, vi (3 : Int32), .unset, .unset, .unset, .unset, .unset, .unset, .unset] [(.ref w), (.ref w)])) rfl (by rw [hml]; rfl) (Steps.refl _) (a := w) (argsL := []) (rest := [(.ref w)]) (lenOf pd28 rfl) rfl (by show 2 * 0 + _ ≤ _; exact Nat.le_of_eq rfl) (hb hby at_9) (fun _ _ => ⟨rfl, e21, (by decide : 0 + 1 + 0 ≤ _), (by decide : 0 + 3 + 0 ≤ _)⟩))
    obtain ⟨rfl, N22, Kc22, I22⟩ := hQ22
    have M22 := Fr.app N0 N22
    obtain ⟨h22, e22⟩ : ∃ z, T22.heap = z := ⟨_, rfl⟩
    rw [e22] at Kc22 I22
    have Z22 : n0 ≤ h22.size := Nat.le_trans Z21 Kc22.1
    have K22 := K21.trans Kc22 (allS (Or.inr sz_w) all0)
    have E22_w := A21.keep Kc22
    have g_w := G21
    refine EndsK.tr st22 ?_
    refine EndsK.go (fun _ kz => XS.astore X22.here hx rfl (hb hby at_12) rfl rfl (l' := #[vi i0, vi i1, vi i2, vi i3, vi (3 : Int32), vr w, .unset, .unset, .unset, .unset, .unset, .unset]) rfl (XS.iload X22.here hx rfl (hb hby at_14) rfl (XS.ifNo X22.here hx rfl (hb hby at_16) rfl ((if0 _ _).trans (tlt (by decide : (0 : Int32) < (3 : Int32))).2.2.2) (XS.aload X22.here hx rfl (hb hby at_19) rfl rfl (XS.iloadN X22.here hx rfl (hb hby at_21) rfl kz))))) ?_
    obtain ⟨_, T23, Lc23, X23, hQ23, st23⟩ := doneG X22 (Jvm.LawKit.callS X22 hx (y := mn46) hown (mvT hZ (tw hw 219 rfl)) (mvT hZ (tw hw 220 rfl)) (mvT hZ (tw hw 221 rfl)) (mvT hZ (tw hw 222 rfl)) (by decide) (backOf (W := 1) (rm_vo l Z a0 hw [] i1 ca cl h22 n0 Z22 (C0.ext (ext_kept (ext_refl h0) K22 all0))) hZ (tw hw 222 rfl) (tw hw 221 rfl) (by decide) (by decide)) (g := (mkF m 22 #[vi i0, vi i1, vi i2, vi i3, vi (3 : Int32), vr w, .unset, .unset, .unset, .unset, .unset, .unset] [(.int i1), (.ref w)])) rfl (by rw [hml]; rfl) (argsL := [(.int i1)]) (rest := [(.ref w)]) (lenOf pd39 rfl) rfl (by show 2 * 0 + _ ≤ _; exact Nat.le_of_eq rfl) (hb hby at_22) (fun _ _ => ⟨rfl, e22, (by decide : 0 + 1 + 0 + 1 ≤ _), (by decide : 0 + 3 + 0 + 1 ≤ _)⟩))
    obtain ⟨b0, rfl, N23, E23, Eb23, Fb23⟩ := hQ23
    have M23 := Fr.app M22 N23
    obtain ⟨h23, e23⟩ : ∃ z, T23.heap = z := ⟨_, rfl⟩
    rw [e23] at E23 Eb23 Fb23
    have Z23 : n0 ≤ h23.size := Nat.le_trans Z22 E23.1
    have K23 := K22.ext E23
    have I23 := I22.ext E23
    refine EndsK.go st23 ?_
    obtain ⟨cq24, kq24, qa24, qb24, qc24⟩ := isOf hZ e23 I23.1
    obtain ⟨_, T24, Lc24, X24, hQ24, st24⟩ := doneT X23 (X23.interfaceBack hx (C := "java/util/ArrayList") (xi := mn63) (y := mn53) hown (mvT hZ (tw hw 240 rfl)) (mvT hZ (tw hw 241 rfl)) (mvT hZ (tw hw 242 rfl)) (mvT hZ (tw hw 243 rfl)) (mvT hZ (tw hw 244 rfl)) (mvT hZ (tw hw 245 rfl)) (mvT hZ (tw hw 246 rfl)) (mvT hZ (tw hw 118 rfl)) (by decide) (backOf (W := 0) (rm_add0 l Z a0 hw [] h0 dce cd w (0 : Int32) b0 h23 n0 Z23 L0 (ext_kept (ext_refl h0) K23 all0) sz_w I23 g_w Eb23) hZ (tw hw 247 rfl) (tw hw 2 rfl) (by decide) (by decide)) qa24 qb24 qc24 (g := (mkF m 25 #[vi i0, vi i1, vi i2, vi i3, vi (3 : Int32), vr w, .unset, .unset, .unset, .unset, .unset, .unset] [(.ref b0), (.ref w)])) rfl (by rw [hml]; rfl) (Steps.refl _) (argsL := [(.ref b0)]) (rest := []) (lenOf pd40 rfl) rfl (by show 2 * 0 + _ ≤ _; exact Nat.le_of_eq rfl) (hb hby at_25) (fun _ _ => ⟨rfl, e23, (by decide : 0 + 1 + 0 + 1 + 1 ≤ _), (by decide : 0 + 3 + 0 + 1 + 10 ≤ _)⟩))
    obtain ⟨te, rfl, N24, Kc24, q_s24, I24, B24⟩ := hQ24
    have M24 := Fr.app M23 N24
    obtain ⟨h24, e24⟩ : ∃ z, T24.heap = z := ⟨_, rfl⟩
    rw [e24] at Kc24 I24 B24
    have Z24 : n0 ≤ h24.size := Nat.le_trans Z23 Kc24.1
    have K24 := K23.trans Kc24 (allS (Or.inr sz_w) all0)
    have sz_te : h0.size ≤ te := Nat.le_trans K23.1 q_s24
    have g_te : n0 ≤ te := Nat.le_trans Z23 q_s24
    have nwt : w ≠ te := Nat.ne_of_lt (Nat.lt_of_lt_of_le I23.1.lt q_s24)
    have Er0_24 := Eb23.keep Kc24
    have Fr0_24 := Fb23.keep Kc24 (ninS (exa_ne Eb23 I23.1 (by decide)) nin0)
    refine EndsK.tr st24 ?_
    refine EndsK.go (fun _ kz => XS.pop X24.here hx rfl (hb hby at_30) rfl rfl (XS.iload X24.here hx rfl (hb hby at_31) rfl (XS.iconst X24.here hx rfl (hb hby at_33) (XS.icmpNo X24.here hx rfl (hb hby at_34) rfl (tlt (by decide : (1 : Int32) < (3 : Int32))).2.2.2 (XS.aload X24.here hx rfl (hb hby at_37) rfl rfl (XS.iloadN X24.here hx rfl (hb hby at_39) rfl kz)))))) ?_
    obtain ⟨_, T25, Lc25, X25, hQ25, st25⟩ := doneG X24 (Jvm.LawKit.callS X24 hx (y := mn46) hown (mvT hZ (tw hw 219 rfl)) (mvT hZ (tw hw 220 rfl)) (mvT hZ (tw hw 221 rfl)) (mvT hZ (tw hw 222 rfl)) (by decide) (backOf (W := 1) (rm_vo l Z a0 hw [] i2 ca cl h24 n0 Z24 (C0.ext (ext_kept (ext_refl h0) K24 all0))) hZ (tw hw 222 rfl) (tw hw 221 rfl) (by decide) (by decide)) (g := (mkF m 40 #[vi i0, vi i1, vi i2, vi i3, vi (3 : Int32), vr w, .unset, .unset, .unset, .unset, .unset, .unset] [(.int i2), (.ref w)])) rfl (by rw [hml]; rfl) (argsL := [(.int i2)]) (rest := [(.ref w)]) (lenOf pd39 rfl) rfl (by show 2 * 0 + _ ≤ _; exact Nat.le_of_eq rfl) (hb hby at_40) (fun _ _ => ⟨rfl, e24, (by decide : 0 + 1 + 0 + 1 + 1 + 1 ≤ _), (by decide : 0 + 3 + 0 + 1 + 10 + 1 ≤ _)⟩))
    obtain ⟨b1, rfl, N25, E25, Eb25, Fb25⟩ := hQ25
    have M25 := Fr.app M24 N25
    obtain ⟨h25, e25⟩ : ∃ z, T25.heap = z := ⟨_, rfl⟩
    rw [e25] at E25 Eb25 Fb25
    have Z25 : n0 ≤ h25.size := Nat.le_trans Z24 E25.1
    have K25 := K24.ext E25
    have I25 := I24.ext E25
    have L25_ := B24.ext E25
    have Eq0_25 := (Er0_24.ext E25)
    have Fq0_25 := (Fr0_24.ext E25)
    refine EndsK.go st25 ?_
    obtain ⟨cq26, kq26, qa26, qb26, qc26⟩ := isOf hZ e25 I25.1
    obtain ⟨_, T26, Lc26, X26, hQ26, st26⟩ := doneT X25 (X25.interfaceBack hx (C := "java/util/ArrayList") (xi := mn63) (y := mn53) hown (mvT hZ (tw hw 240 rfl)) (mvT hZ (tw hw 241 rfl)) (mvT hZ (tw hw 242 rfl)) (mvT hZ (tw hw 243 rfl)) (mvT hZ (tw hw 244 rfl)) (mvT hZ (tw hw 245 rfl)) (mvT hZ (tw hw 246 rfl)) (mvT hZ (tw hw 118 rfl)) (by decide) (backOf (W := 0) (rm_addn l Z a0 hw [] w te b1 1 (fun j => if j = 0 then b0 else (fun _ => 0) j) ((0 : Int32) + 1) h25 n0 Z25 I25 L25_ Eb25 g_w g_te nwt (by decide)) hZ (tw hw 247 rfl) (tw hw 2 rfl) (by decide) (by decide)) qa26 qb26 qc26 (g := (mkF m 43 #[vi i0, vi i1, vi i2, vi i3, vi (3 : Int32), vr w, .unset, .unset, .unset, .unset, .unset, .unset] [(.ref b1), (.ref w)])) rfl (by rw [hml]; rfl) (Steps.refl _) (argsL := [(.ref b1)]) (rest := []) (lenOf pd40 rfl) rfl (by show 2 * 0 + _ ≤ _; exact Nat.le_of_eq rfl) (hb hby at_43) (fun _ _ => ⟨rfl, e25, (by decide : 0 + 1 + 0 + 1 + 1 + 1 + 0 ≤ _), (by decide : 0 + 3 + 0 + 1 + 10 + 1 + 0 ≤ _)⟩))
    obtain ⟨rfl, N26, Kc26, I26, B26⟩ := hQ26
    have M26 := Fr.app M25 N26
    obtain ⟨h26, e26⟩ : ∃ z, T26.heap = z := ⟨_, rfl⟩
    rw [e26] at Kc26 I26 B26
    have Z26 : n0 ≤ h26.size := Nat.le_trans Z25 Kc26.1
    have K26 := K25.trans Kc26 (allS (Or.inr sz_w) (allS (Or.inr sz_te) all0))
    have Er0_26 := Eq0_25.keep Kc26
    have Fr0_26 := Fq0_25.keep Kc26 (ninS (exa_ne Eq0_25 I25.1 (by decide)) (ninS (els_ne Eq0_25 (tw hw 226 rfl) L25_) nin0))
    have Er1_26 := Eb25.keep Kc26
    have Fr1_26 := Fb25.keep Kc26 (ninS (exa_ne Eb25 I25.1 (by decide)) (ninS (els_ne Eb25 (tw hw 226 rfl) L25_) nin0))
    refine EndsK.tr st26 ?_
    refine EndsK.go (fun _ kz => XS.pop X26.here hx rfl (hb hby at_48) rfl rfl (XS.iload X26.here hx rfl (hb hby at_49) rfl (XS.iconst X26.here hx rfl (hb hby at_51) (XS.icmpNo X26.here hx rfl (hb hby at_52) rfl (tlt (by decide : (2 : Int32) < (3 : Int32))).2.2.2 (XS.aload X26.here hx rfl (hb hby at_55) rfl rfl (XS.iloadN X26.here hx rfl (hb hby at_57) rfl kz)))))) ?_
    obtain ⟨_, T27, Lc27, X27, hQ27, st27⟩ := doneG X26 (Jvm.LawKit.callS X26 hx (y := mn46) hown (mvT hZ (tw hw 219 rfl)) (mvT hZ (tw hw 220 rfl)) (mvT hZ (tw hw 221 rfl)) (mvT hZ (tw hw 222 rfl)) (by decide) (backOf (W := 1) (rm_vo l Z a0 hw [] i3 ca cl h26 n0 Z26 (C0.ext (ext_kept (ext_refl h0) K26 all0))) hZ (tw hw 222 rfl) (tw hw 221 rfl) (by decide) (by decide)) (g := (mkF m 58 #[vi i0, vi i1, vi i2, vi i3, vi (3 : Int32), vr w, .unset, .unset, .unset, .unset, .unset, .unset] [(.int i3), (.ref w)])) rfl (by rw [hml]; rfl) (argsL := [(.int i3)]) (rest := [(.ref w)]) (lenOf pd39 rfl) rfl (by show 2 * 0 + _ ≤ _; exact Nat.le_of_eq rfl) (hb hby at_58) (fun _ _ => ⟨rfl, e26, (by decide : 0 + 1 + 0 + 1 + 1 + 1 + 0 + 1 ≤ _), (by decide : 0 + 3 + 0 + 1 + 10 + 1 + 0 + 1 ≤ _)⟩))
    obtain ⟨b2, rfl, N27, E27, Eb27, Fb27⟩ := hQ27
    have M27 := Fr.app M26 N27
    obtain ⟨h27, e27⟩ : ∃ z, T27.heap = z := ⟨_, rfl⟩
    rw [e27] at E27 Eb27 Fb27
    have Z27 : n0 ≤ h27.size := Nat.le_trans Z26 E27.1
    have K27 := K26.ext E27
    have I27 := I26.ext E27
    have L27_ := B26.ext E27
    have Eq0_27 := (Er0_26.ext E27)
    have Fq0_27 := (Fr0_26.ext E27)
    have Eq1_27 := (Er1_26.ext E27)
    have Fq1_27 := (Fr1_26.ext E27)
    refine EndsK.go st27 ?_
    obtain ⟨cq28, kq28, qa28, qb28, qc28⟩ := isOf hZ e27 I27.1
    obtain ⟨_, T28, Lc28, X28, hQ28, st28⟩ := doneT X27 (X27.interfaceBack hx (C := "java/util/ArrayList") (xi := mn63) (y := mn53) hown (mvT hZ (tw hw 240 rfl)) (mvT hZ (tw hw 241 rfl)) (mvT hZ (tw hw 242 rfl)) (mvT hZ (tw hw 243 rfl)) (mvT hZ (tw hw 244 rfl)) (mvT hZ (tw hw 245 rfl)) (mvT hZ (tw hw 246 rfl)) (mvT hZ (tw hw 118 rfl)) (by decide) (backOf (W := 0) (rm_addn l Z a0 hw [] w te b2 2 (fun j => if j = 1 then b1 else (fun j => if j = 0 then b0 else (fun _ => 0) j) j) (((0 : Int32) + 1) + 1) h27 n0 Z27 I27 L27_ Eb27 g_w g_te nwt (by decide)) hZ (tw hw 247 rfl) (tw hw 2 rfl) (by decide) (by decide)) qa28 qb28 qc28 (g := (mkF m 61 #[vi i0, vi i1, vi i2, vi i3, vi (3 : Int32), vr w, .unset, .unset, .unset, .unset, .unset, .unset] [(.ref b2), (.ref w)])) rfl (by rw [hml]; rfl) (Steps.refl _) (argsL := [(.ref b2)]) (rest := []) (lenOf pd40 rfl) rfl (by show 2 * 0 + _ ≤ _; exact Nat.le_of_eq rfl) (hb hby at_61) (fun _ _ => ⟨rfl, e27, (by decide : 0 + 1 + 0 + 1 + 1 + 1 + 0 + 1 + 0 ≤ _), (by decide : 0 + 3 + 0 + 1 + 10 + 1 + 0 + 1 + 0 ≤ _)⟩))
    obtain ⟨rfl, N28, Kc28, I28, B28⟩ := hQ28
    have M28 := Fr.app M27 N28
    obtain ⟨h28, e28⟩ : ∃ z, T28.heap = z := ⟨_, rfl⟩
    rw [e28] at Kc28 I28 B28
    have Z28 : n0 ≤ h28.size := Nat.le_trans Z27 Kc28.1
    have K28 := K27.trans Kc28 (allS (Or.inr sz_w) (allS (Or.inr sz_te) all0))
    have Er0_28 := Eq0_27.keep Kc28
    have Fr0_28 := Fq0_27.keep Kc28 (ninS (exa_ne Eq0_27 I27.1 (by decide)) (ninS (els_ne Eq0_27 (tw hw 226 rfl) L27_) nin0))
    have Er1_28 := Eq1_27.keep Kc28
    have Fr1_28 := Fq1_27.keep Kc28 (ninS (exa_ne Eq1_27 I27.1 (by decide)) (ninS (els_ne Eq1_27 (tw hw 226 rfl) L27_) nin0))
    have Er2_28 := Eb27.keep Kc28
    have Fr2_28 := Fb27.keep Kc28 (ninS (exa_ne Eb27 I27.1 (by decide)) (ninS (els_ne Eb27 (tw hw 226 rfl) L27_) nin0))
    refine EndsK.tr st28 ?_
    refine EndsK.go (fun _ kz => XS.pop X28.here hx rfl (hb hby at_66) rfl rfl (XS.aload X28.here hx rfl (hb hby at_67) rfl rfl kz)) ?_
    have hCH := hCH.ext (ext_kept (ext_refl h0) K28 all0)
    obtain ⟨_, _, ⟨T29, L29, k29, n29⟩, -, X29, hS, gr29, ⟨Lc29, hQ29, l29, y29, z29⟩, st29⟩ := callSS X28 hx (y := mn59) hown (mvT hZ (tw hw 26 rfl)) (mvT hZ (tw hw 27 rfl)) (mvT hZ (tw hw 28 rfl)) (mvT hZ (tw hw 29 rfl)) (by decide) (backOfC (W := 0) (rm_line3 l Z a0 hw [] h0 zc o d u w te ((((0 : Int32) + 1) + 1) + 1) (fun j => if j = 2 then b2 else (fun j => if j = 1 then b1 else (fun j => if j = 0 then b0 else (fun _ => 0) j) j) j) b0 b1 b2 i1 i2 i3 h28 n0 Z28 J (ext_kept (ext_refl h0) K28 all0) (Nat.le_of_eq hn0.symm) I28 B28 rfl Er0_28 Fr0_28 rfl Er1_28 Fr1_28 rfl Er2_28 Fr2_28) hZ (tw hw 29 rfl) (tw hw 28 rfl) (by decide) (by decide) hEL hCH) (g := (mkF m 69 #[vi i0, vi i1, vi i2, vi i3, vi (3 : Int32), vr w, .unset, .unset, .unset, .unset, .unset, .unset] [(.ref w)])) rfl (by rw [hml]; rfl) (argsL := [(.ref w)]) (rest := []) (lenOf pd38 rfl) rfl (by show 2 * 0 + _ ≤ _; exact Nat.le_of_eq rfl) (hb hby at_69) (fun _ _ => ⟨rfl, e28, (by decide : 0 + 1 + 0 + 1 + 1 + 1 + 0 + 1 + 0 + 14 ≤ _), (by decide : 0 + 3 + 0 + 1 + 10 + 1 + 0 + 1 + 0 + 600 ≤ _)⟩)
    dsimp only [Pt.U, Pt.locs, Pt.cells, Pt.slots] at X29 hS gr29 l29 y29 z29 st29 hQ29
    subst l29 y29 z29
    refine EndsK.tr st29 ?_
    obtain ⟨sa, sb, FF, rfl, N29, E29, Ea, Fc, Fv, BF, W6, Sg0, Sg1, Sg2⟩ := hQ29
    have M29 := Fr.app M28 N29
    have hZ : Z.Warmed39 (s.setVm T29.vm).vm := State.Warmed39.trans hZ hS.1
    have hown : (s.setVm T29.vm).vm.findClass "com/example/guildtable/guildtable/table/WinnersLinePinLaw" = some m.cls := (hS.1.alike.findClass _ _).trans hown
    obtain ⟨h29, e29⟩ : ∃ z, T29.heap = z := ⟨_, rfl⟩
    rw [e29] at E29 Ea Fc Fv BF
    have hk : T29.heap.size ≤ h29.size := Nat.le_of_eq (congrArg Array.size e29)
    have Z29 : n0 ≤ h29.size := Nat.le_trans Z28 E29.1
    have K29 := K28.ext E29
    obtain ⟨cS, AS, zS, lS, HS⟩ := id BF
    have JF := J.ext (ext_kept (ext_refl h0) K29 all0)
    refine EndsK.go (fun _ kz => XS.astore X29.here hx rfl (hb hby at_72) rfl rfl (l' := #[vi i0, vi i1, vi i2, vi i3, vi (3 : Int32), vr w, vr sa, .unset, .unset, .unset, .unset, .unset]) rfl (XS.iload X29.here hx rfl (hb hby at_74) rfl (XS.ifNo X29.here hx rfl (hb hby at_76) rfl ((if0 _ _).trans (tlt (by decide : (0 : Int32) < (3 : Int32))).2.2.2) (XS.iloadN X29.here hx rfl (hb hby at_79) rfl kz)))) ?_
    obtain ⟨_, T30, Lc30, X30, hQ30, st30⟩ := doneG X29 (Jvm.LawKit.callS X29 hx (y := mn3) hown (mvT hZ (tw hw 321 rfl)) (mvT hZ (tw hw 322 rfl)) (mvT hZ (tw hw 323 rfl)) (mvT hZ (tw hw 324 rfl)) (by decide) (backOf (W := 0) (rm_segl l Z a0 hw [] i1 h29 n0 Z29) hZ (tw hw 324 rfl) (tw hw 323 rfl) (by decide) (by decide)) (g := (mkF m 80 #[vi i0, vi i1, vi i2, vi i3, vi (3 : Int32), vr w, vr sa, .unset, .unset, .unset, .unset, .unset] [(.int i1)])) rfl (by rw [hml]; rfl) (argsL := [(.int i1)]) (rest := []) (lenOf pd5 rfl) rfl (by show 2 * 0 + _ ≤ _; exact Nat.le_of_eq rfl) (hb hby at_80) (fun _ _ => ⟨rfl, e29, (by decide : 0 + 1 + 0 + 1 + 1 + 1 + 0 + 1 + 0 + 14 + 0 ≤ _), (by decide : 0 + 3 + 0 + 1 + 10 + 1 + 0 + 1 + 0 + 600 + 0 ≤ _)⟩))
    obtain ⟨rfl, N30, e30⟩ := hQ30
    have M30 := Fr.app M29 N30
    refine EndsK.go st30 ?_
    refine EndsK.start (congrArg (fun z_ => (mkF m 83 #[vi i0, vi i1, vi i2, vi i3, vi (3 : Int32), vr w, vr sa, .unset, .unset, .unset, .unset, .unset] [(.int z_)])) (segLen_eq _ : (segLenF i1) = (Int32.ofNat (1 + sl i1)))) ?_
    refine EndsK.go (fun _ kz => XS.goto X30.here hx rfl (pc0 := 83) (pc' := 87) rfl (hb hby at_83) (by decide) (by decide) (XS.istore X30.here hx rfl (hb hby at_87) rfl (l' := #[vi i0, vi i1, vi i2, vi i3, vi (3 : Int32), vr w, vr sa, vi (Int32.ofNat (1 + sl i1)), .unset, .unset, .unset, .unset]) rfl (XS.iload X30.here hx rfl (hb hby at_89) rfl (XS.iconst X30.here hx rfl (hb hby at_91) (XS.icmpNo X30.here hx rfl (hb hby at_92) rfl (tlt (by decide : (1 : Int32) < (3 : Int32))).2.2.2 (XS.iloadN X30.here hx rfl (hb hby at_95) rfl kz)))))) ?_
    obtain ⟨_, T31, Lc31, X31, hQ31, st31⟩ := doneG X30 (Jvm.LawKit.callS X30 hx (y := mn3) hown (mvT hZ (tw hw 321 rfl)) (mvT hZ (tw hw 322 rfl)) (mvT hZ (tw hw 323 rfl)) (mvT hZ (tw hw 324 rfl)) (by decide) (backOf (W := 0) (rm_segl l Z a0 hw [] i2 h29 n0 Z29) hZ (tw hw 324 rfl) (tw hw 323 rfl) (by decide) (by decide)) (g := (mkF m 96 #[vi i0, vi i1, vi i2, vi i3, vi (3 : Int32), vr w, vr sa, vi (Int32.ofNat (1 + sl i1)), .unset, .unset, .unset, .unset] [(.int i2)])) rfl (by rw [hml]; rfl) (argsL := [(.int i2)]) (rest := []) (lenOf pd5 rfl) rfl (by show 2 * 0 + _ ≤ _; exact Nat.le_of_eq rfl) (hb hby at_96) (fun _ _ => ⟨rfl, e30, (by decide : 0 + 1 + 0 + 1 + 1 + 1 + 0 + 1 + 0 + 14 + 0 + 0 ≤ _), (by decide : 0 + 3 + 0 + 1 + 10 + 1 + 0 + 1 + 0 + 600 + 0 + 0 ≤ _)⟩))
    obtain ⟨rfl, N31, e31⟩ := hQ31
    have M31 := Fr.app M30 N31
    refine EndsK.go st31 ?_
    refine EndsK.start (congrArg (fun z_ => (mkF m 99 #[vi i0, vi i1, vi i2, vi i3, vi (3 : Int32), vr w, vr sa, vi (Int32.ofNat (1 + sl i1)), .unset, .unset, .unset, .unset] [(.int z_)])) (segLen_eq _ : (segLenF i2) = (Int32.ofNat (1 + sl i2)))) ?_
    refine EndsK.go (fun _ kz => XS.goto X31.here hx rfl (pc0 := 99) (pc' := 103) rfl (hb hby at_99) (by decide) (by decide) (XS.istore X31.here hx rfl (hb hby at_103) rfl (l' := #[vi i0, vi i1, vi i2, vi i3, vi (3 : Int32), vr w, vr sa, vi (Int32.ofNat (1 + sl i1)), vi (Int32.ofNat (1 + sl i2)), .unset, .unset, .unset]) rfl (XS.iload X31.here hx rfl (hb hby at_105) rfl (XS.iconst X31.here hx rfl (hb hby at_107) (XS.icmpNo X31.here hx rfl (hb hby at_108) rfl (tlt (by decide : (2 : Int32) < (3 : Int32))).2.2.2 (XS.iloadN X31.here hx rfl (hb hby at_111) rfl kz)))))) ?_
    obtain ⟨_, T32, Lc32, X32, hQ32, st32⟩ := doneG X31 (Jvm.LawKit.callS X31 hx (y := mn3) hown (mvT hZ (tw hw 321 rfl)) (mvT hZ (tw hw 322 rfl)) (mvT hZ (tw hw 323 rfl)) (mvT hZ (tw hw 324 rfl)) (by decide) (backOf (W := 0) (rm_segl l Z a0 hw [] i3 h29 n0 Z29) hZ (tw hw 324 rfl) (tw hw 323 rfl) (by decide) (by decide)) (g := (mkF m 112 #[vi i0, vi i1, vi i2, vi i3, vi (3 : Int32), vr w, vr sa, vi (Int32.ofNat (1 + sl i1)), vi (Int32.ofNat (1 + sl i2)), .unset, .unset, .unset] [(.int i3)])) rfl (by rw [hml]; rfl) (argsL := [(.int i3)]) (rest := []) (lenOf pd5 rfl) rfl (by show 2 * 0 + _ ≤ _; exact Nat.le_of_eq rfl) (hb hby at_112) (fun _ _ => ⟨rfl, e31, (by decide : 0 + 1 + 0 + 1 + 1 + 1 + 0 + 1 + 0 + 14 + 0 + 0 + 0 ≤ _), (by decide : 0 + 3 + 0 + 1 + 10 + 1 + 0 + 1 + 0 + 600 + 0 + 0 + 0 ≤ _)⟩))
    obtain ⟨rfl, N32, e32⟩ := hQ32
    have M32 := Fr.app M31 N32
    refine EndsK.go st32 ?_
    refine EndsK.start (congrArg (fun z_ => (mkF m 115 #[vi i0, vi i1, vi i2, vi i3, vi (3 : Int32), vr w, vr sa, vi (Int32.ofNat (1 + sl i1)), vi (Int32.ofNat (1 + sl i2)), .unset, .unset, .unset] [(.int z_)])) (segLen_eq _ : (segLenF i3) = (Int32.ofNat (1 + sl i3)))) ?_
    refine EndsK.go (fun _ kz => XS.goto X32.here hx rfl (pc0 := 115) (pc' := 119) rfl (hb hby at_115) (by decide) (by decide) (XS.istore X32.here hx rfl (hb hby at_119) rfl (l' := #[vi i0, vi i1, vi i2, vi i3, vi (3 : Int32), vr w, vr sa, vi (Int32.ofNat (1 + sl i1)), vi (Int32.ofNat (1 + sl i2)), vi (Int32.ofNat (1 + sl i3)), .unset, .unset]) rfl (XS.bipush X32.here hx rfl (hb hby at_121) (XS.iload X32.here hx rfl (hb hby at_123) rfl (XS.iadd X32.here hx rfl (hb hby at_125) rfl kz))))) ?_
    refine EndsK.start (congrArg (fun z_ => (mkF m 126 #[vi i0, vi i1, vi i2, vi i3, vi (3 : Int32), vr w, vr sa, vi (Int32.ofNat (1 + sl i1)), vi (Int32.ofNat (1 + sl i2)), vi (Int32.ofNat (1 + sl i3)), .unset, .unset] [(.int z_)])) (on_addN (a := 6) (by omega) : ((6 : Int32) + (Int32.ofNat (1 + sl i1))) = (Int32.ofNat (6 + 1 + sl i1)))) ?_
    refine EndsK.go (fun _ kz => XS.iload X32.here hx rfl (hb hby at_126) rfl (XS.iadd X32.here hx rfl (hb hby at_128) rfl kz)) ?_
    refine EndsK.start (congrArg (fun z_ => (mkF m 129 #[vi i0, vi i1, vi i2, vi i3, vi (3 : Int32), vr w, vr sa, vi (Int32.ofNat (1 + sl i1)), vi (Int32.ofNat (1 + sl i2)), vi (Int32.ofNat (1 + sl i3)), .unset, .unset] [(.int z_)])) (on_addN (by omega) : ((Int32.ofNat (6 + 1 + sl i1)) + (Int32.ofNat (1 + sl i2))) = (Int32.ofNat (6 + 1 + sl i1 + 1 + sl i2)))) ?_
    refine EndsK.go (fun _ kz => XS.iload X32.here hx rfl (hb hby at_129) rfl (XS.iadd X32.here hx rfl (hb hby at_131) rfl kz)) ?_
    refine EndsK.start (congrArg (fun z_ => (mkF m 132 #[vi i0, vi i1, vi i2, vi i3, vi (3 : Int32), vr w, vr sa, vi (Int32.ofNat (1 + sl i1)), vi (Int32.ofNat (1 + sl i2)), vi (Int32.ofNat (1 + sl i3)), .unset, .unset] [(.int z_)])) (on_addN (by omega) : ((Int32.ofNat (6 + 1 + sl i1 + 1 + sl i2)) + (Int32.ofNat (1 + sl i3))) = (Int32.ofNat (6 + 1 + sl i1 + 1 + sl i2 + 1 + sl i3)))) ?_
    refine EndsK.go (fun _ kz => XS.istore X32.here hx rfl (hb hby at_132) rfl (l' := #[vi i0, vi i1, vi i2, vi i3, vi (3 : Int32), vr w, vr sa, vi (Int32.ofNat (1 + sl i1)), vi (Int32.ofNat (1 + sl i2)), vi (Int32.ofNat (1 + sl i3)), vi (Int32.ofNat (6 + 1 + sl i1 + 1 + sl i2 + 1 + sl i3)), .unset]) rfl (XS.aload X32.here hx rfl (hb hby at_134) rfl rfl kz)) ?_
    obtain ⟨cq33, kq33, qa33, qb33, qc33⟩ := isOf hZ e32 Ea
    obtain ⟨_, T33, Lc33, X33, hQ33, st33⟩ := doneT X32 (X32.virtualBack hx (y := mn9) (z := mn9) hown (mvT hZ (tw hw 196 rfl)) (mvT hZ (tw hw 52 rfl)) (notFace_of_selects (args := #[]) (mvT hZ (tw hw 54 rfl))) (mvT hZ (tw hw 54 rfl)) (mvT hZ (tw hw 53 rfl)) (by decide) (backOf (W := 0) (rm_slen l Z a0 hw [] sa zc sb cS (Int32.ofNat (6 + 1 + sl i1 + 1 + sl i2 + 1 + sl i3)) h29 n0 Z29 JF.SC JF.hzc Ea Fc Fv AS (by rw [zS])) hZ (tw hw 55 rfl) (tw hw 34 rfl) (by decide) (by decide)) qa33 qc33 (g := (mkF m 136 #[vi i0, vi i1, vi i2, vi i3, vi (3 : Int32), vr w, vr sa, vi (Int32.ofNat (1 + sl i1)), vi (Int32.ofNat (1 + sl i2)), vi (Int32.ofNat (1 + sl i3)), vi (Int32.ofNat (6 + 1 + sl i1 + 1 + sl i2 + 1 + sl i3)), .unset] [(.ref sa)])) rfl (by rw [hml]; rfl) (Steps.refl _) (argsL := []) (rest := []) (lenOf pd9 rfl) rfl (by show 2 * 0 + _ ≤ _; exact Nat.le_of_eq rfl) (hb hby at_136) (fun _ _ => ⟨rfl, e32, (by decide : 0 + 1 + 0 + 1 + 1 + 1 + 0 + 1 + 0 + 14 + 0 + 0 + 0 + 0 ≤ _), (by decide : 0 + 3 + 0 + 1 + 10 + 1 + 0 + 1 + 0 + 600 + 0 + 0 + 0 + 0 ≤ _)⟩))
    obtain ⟨rfl, N33, e33⟩ := hQ33
    have M33 := Fr.app M32 N33
    refine EndsK.tr st33 ?_
    refine EndsK.go (fun _ kz => XS.iload X33.here hx rfl (hb hby at_139) rfl (XS.icmpYes X33.here hx rfl (pc0 := 141) (pc' := 146) rfl (hb hby at_141) rfl (teq (congrArg Int32.ofNat (by omega) : (Int32.ofNat (6 + 1 + sl i1 + 1 + sl i2 + 1 + sl i3)) = (Int32.ofNat (6 + 1 + sl i1 + 1 + sl i2 + 1 + sl i3)))).1 (by decide) (by decide) (XS.aload X33.here hx rfl (hb hby at_146) rfl rfl (XS.iconst X33.here hx rfl (hb hby at_148) kz)))) ?_
    refine EndsK.start (congrArg (fun z_ => (mkF m 149 #[vi i0, vi i1, vi i2, vi i3, vi (3 : Int32), vr w, vr sa, vi (Int32.ofNat (1 + sl i1)), vi (Int32.ofNat (1 + sl i2)), vi (Int32.ofNat (1 + sl i3)), vi (Int32.ofNat (6 + 1 + sl i1 + 1 + sl i2 + 1 + sl i3)), .unset] [(.int z_), (.ref sa)])) (rfl : (0 : Int32) = (Int32.ofNat 0))) ?_
    obtain ⟨cq34, kq34, qa34, qb34, qc34⟩ := isOf hZ e33 Ea
    obtain ⟨_, T34, Lc34, X34, hQ34, st34⟩ := doneT X33 (X33.virtualBack hx (y := mn41) (z := mn41) hown (mvT hZ (tw hw 197 rfl)) (mvT hZ (tw hw 198 rfl)) (notFace_of_selects (args := #[]) (mvT hZ (tw hw 200 rfl))) (mvT hZ (tw hw 200 rfl)) (mvT hZ (tw hw 199 rfl)) (by decide) (backOf (W := 0) (rm_chA l Z a0 hw [] zc o d u sa sb FF 0 (6 + 1 + sl i1 + 1 + sl i2 + 1 + sl i3) h29 n0 Z29 JF Ea Fc Fv BF (by omega) (by omega)) hZ (tw hw 201 rfl) (tw hw 34 rfl) (by decide) (by decide)) qa34 qc34 (g := (mkF m 149 #[vi i0, vi i1, vi i2, vi i3, vi (3 : Int32), vr w, vr sa, vi (Int32.ofNat (1 + sl i1)), vi (Int32.ofNat (1 + sl i2)), vi (Int32.ofNat (1 + sl i3)), vi (Int32.ofNat (6 + 1 + sl i1 + 1 + sl i2 + 1 + sl i3)), .unset] [(.int (Int32.ofNat 0)), (.ref sa)])) rfl (by rw [hml]; rfl) (Steps.refl _) (argsL := [(.int (Int32.ofNat 0))]) (rest := []) (lenOf pd26 rfl) rfl (by show 2 * 0 + _ ≤ _; exact Nat.le_of_eq rfl) (hb hby at_149) (fun _ _ => ⟨rfl, e33, (by decide : 0 + 1 + 0 + 1 + 1 + 1 + 0 + 1 + 0 + 14 + 0 + 0 + 0 + 0 + 0 ≤ _), (by decide : 0 + 3 + 0 + 1 + 10 + 1 + 0 + 1 + 0 + 600 + 0 + 0 + 0 + 0 + 0 ≤ _)⟩))
    obtain ⟨rfl, N34, e34⟩ := hQ34
    have M34 := Fr.app M33 N34
    refine EndsK.tr st34 ?_
    refine EndsK.go (fun _ kz => XS.bipush X34.here hx rfl (hb hby at_152) (XS.icmpNo X34.here hx rfl (hb hby at_154) rfl (teq (chF_of (k := 119) ((W6 0 (by decide)).trans rfl) (by decide))).2 (XS.aload X34.here hx rfl (hb hby at_157) rfl rfl (XS.iconst X34.here hx rfl (hb hby at_159) kz)))) ?_
    refine EndsK.start (congrArg (fun z_ => (mkF m 160 #[vi i0, vi i1, vi i2, vi i3, vi (3 : Int32), vr w, vr sa, vi (Int32.ofNat (1 + sl i1)), vi (Int32.ofNat (1 + sl i2)), vi (Int32.ofNat (1 + sl i3)), vi (Int32.ofNat (6 + 1 + sl i1 + 1 + sl i2 + 1 + sl i3)), .unset] [(.int z_), (.ref sa)])) (rfl : (1 : Int32) = (Int32.ofNat 1))) ?_
    obtain ⟨cq35, kq35, qa35, qb35, qc35⟩ := isOf hZ e34 Ea
    obtain ⟨_, T35, Lc35, X35, hQ35, st35⟩ := doneT X34 (X34.virtualBack hx (y := mn41) (z := mn41) hown (mvT hZ (tw hw 197 rfl)) (mvT hZ (tw hw 198 rfl)) (notFace_of_selects (args := #[]) (mvT hZ (tw hw 200 rfl))) (mvT hZ (tw hw 200 rfl)) (mvT hZ (tw hw 199 rfl)) (by decide) (backOf (W := 0) (rm_chA l Z a0 hw [] zc o d u sa sb FF 1 (6 + 1 + sl i1 + 1 + sl i2 + 1 + sl i3) h29 n0 Z29 JF Ea Fc Fv BF (by omega) (by omega)) hZ (tw hw 201 rfl) (tw hw 34 rfl) (by decide) (by decide)) qa35 qc35 (g := (mkF m 160 #[vi i0, vi i1, vi i2, vi i3, vi (3 : Int32), vr w, vr sa, vi (Int32.ofNat (1 + sl i1)), vi (Int32.ofNat (1 + sl i2)), vi (Int32.ofNat (1 + sl i3)), vi (Int32.ofNat (6 + 1 + sl i1 + 1 + sl i2 + 1 + sl i3)), .unset] [(.int (Int32.ofNat 1)), (.ref sa)])) rfl (by rw [hml]; rfl) (Steps.refl _) (argsL := [(.int (Int32.ofNat 1))]) (rest := []) (lenOf pd26 rfl) rfl (by show 2 * 0 + _ ≤ _; exact Nat.le_of_eq rfl) (hb hby at_160) (fun _ _ => ⟨rfl, e34, (by decide : 0 + 1 + 0 + 1 + 1 + 1 + 0 + 1 + 0 + 14 + 0 + 0 + 0 + 0 + 0 + 0 ≤ _), (by decide : 0 + 3 + 0 + 1 + 10 + 1 + 0 + 1 + 0 + 600 + 0 + 0 + 0 + 0 + 0 + 0 ≤ _)⟩))
    obtain ⟨rfl, N35, e35⟩ := hQ35
    have M35 := Fr.app M34 N35
    refine EndsK.tr st35 ?_
    refine EndsK.go (fun _ kz => XS.bipush X35.here hx rfl (hb hby at_163) (XS.icmpNo X35.here hx rfl (hb hby at_165) rfl (teq (chF_of (k := 105) ((W6 1 (by decide)).trans rfl) (by decide))).2 (XS.aload X35.here hx rfl (hb hby at_168) rfl rfl (XS.iconst X35.here hx rfl (hb hby at_170) kz)))) ?_
    refine EndsK.start (congrArg (fun z_ => (mkF m 171 #[vi i0, vi i1, vi i2, vi i3, vi (3 : Int32), vr w, vr sa, vi (Int32.ofNat (1 + sl i1)), vi (Int32.ofNat (1 + sl i2)), vi (Int32.ofNat (1 + sl i3)), vi (Int32.ofNat (6 + 1 + sl i1 + 1 + sl i2 + 1 + sl i3)), .unset] [(.int z_), (.ref sa)])) (rfl : (2 : Int32) = (Int32.ofNat 2))) ?_
    obtain ⟨cq36, kq36, qa36, qb36, qc36⟩ := isOf hZ e35 Ea
    obtain ⟨_, T36, Lc36, X36, hQ36, st36⟩ := doneT X35 (X35.virtualBack hx (y := mn41) (z := mn41) hown (mvT hZ (tw hw 197 rfl)) (mvT hZ (tw hw 198 rfl)) (notFace_of_selects (args := #[]) (mvT hZ (tw hw 200 rfl))) (mvT hZ (tw hw 200 rfl)) (mvT hZ (tw hw 199 rfl)) (by decide) (backOf (W := 0) (rm_chA l Z a0 hw [] zc o d u sa sb FF 2 (6 + 1 + sl i1 + 1 + sl i2 + 1 + sl i3) h29 n0 Z29 JF Ea Fc Fv BF (by omega) (by omega)) hZ (tw hw 201 rfl) (tw hw 34 rfl) (by decide) (by decide)) qa36 qc36 (g := (mkF m 171 #[vi i0, vi i1, vi i2, vi i3, vi (3 : Int32), vr w, vr sa, vi (Int32.ofNat (1 + sl i1)), vi (Int32.ofNat (1 + sl i2)), vi (Int32.ofNat (1 + sl i3)), vi (Int32.ofNat (6 + 1 + sl i1 + 1 + sl i2 + 1 + sl i3)), .unset] [(.int (Int32.ofNat 2)), (.ref sa)])) rfl (by rw [hml]; rfl) (Steps.refl _) (argsL := [(.int (Int32.ofNat 2))]) (rest := []) (lenOf pd26 rfl) rfl (by show 2 * 0 + _ ≤ _; exact Nat.le_of_eq rfl) (hb hby at_171) (fun _ _ => ⟨rfl, e35, (by decide : 0 + 1 + 0 + 1 + 1 + 1 + 0 + 1 + 0 + 14 + 0 + 0 + 0 + 0 + 0 + 0 + 0 ≤ _), (by decide : 0 + 3 + 0 + 1 + 10 + 1 + 0 + 1 + 0 + 600 + 0 + 0 + 0 + 0 + 0 + 0 + 0 ≤ _)⟩))
    obtain ⟨rfl, N36, e36⟩ := hQ36
    have M36 := Fr.app M35 N36
    refine EndsK.tr st36 ?_
    refine EndsK.go (fun _ kz => XS.bipush X36.here hx rfl (hb hby at_174) (XS.icmpNo X36.here hx rfl (hb hby at_176) rfl (teq (chF_of (k := 110) ((W6 2 (by decide)).trans rfl) (by decide))).2 (XS.aload X36.here hx rfl (hb hby at_179) rfl rfl (XS.iconst X36.here hx rfl (hb hby at_181) kz)))) ?_
    refine EndsK.start (congrArg (fun z_ => (mkF m 182 #[vi i0, vi i1, vi i2, vi i3, vi (3 : Int32), vr w, vr sa, vi (Int32.ofNat (1 + sl i1)), vi (Int32.ofNat (1 + sl i2)), vi (Int32.ofNat (1 + sl i3)), vi (Int32.ofNat (6 + 1 + sl i1 + 1 + sl i2 + 1 + sl i3)), .unset] [(.int z_), (.ref sa)])) (rfl : (3 : Int32) = (Int32.ofNat 3))) ?_
    obtain ⟨cq37, kq37, qa37, qb37, qc37⟩ := isOf hZ e36 Ea
    obtain ⟨_, T37, Lc37, X37, hQ37, st37⟩ := doneT X36 (X36.virtualBack hx (y := mn41) (z := mn41) hown (mvT hZ (tw hw 197 rfl)) (mvT hZ (tw hw 198 rfl)) (notFace_of_selects (args := #[]) (mvT hZ (tw hw 200 rfl))) (mvT hZ (tw hw 200 rfl)) (mvT hZ (tw hw 199 rfl)) (by decide) (backOf (W := 0) (rm_chA l Z a0 hw [] zc o d u sa sb FF 3 (6 + 1 + sl i1 + 1 + sl i2 + 1 + sl i3) h29 n0 Z29 JF Ea Fc Fv BF (by omega) (by omega)) hZ (tw hw 201 rfl) (tw hw 34 rfl) (by decide) (by decide)) qa37 qc37 (g := (mkF m 182 #[vi i0, vi i1, vi i2, vi i3, vi (3 : Int32), vr w, vr sa, vi (Int32.ofNat (1 + sl i1)), vi (Int32.ofNat (1 + sl i2)), vi (Int32.ofNat (1 + sl i3)), vi (Int32.ofNat (6 + 1 + sl i1 + 1 + sl i2 + 1 + sl i3)), .unset] [(.int (Int32.ofNat 3)), (.ref sa)])) rfl (by rw [hml]; rfl) (Steps.refl _) (argsL := [(.int (Int32.ofNat 3))]) (rest := []) (lenOf pd26 rfl) rfl (by show 2 * 0 + _ ≤ _; exact Nat.le_of_eq rfl) (hb hby at_182) (fun _ _ => ⟨rfl, e36, (by decide : 0 + 1 + 0 + 1 + 1 + 1 + 0 + 1 + 0 + 14 + 0 + 0 + 0 + 0 + 0 + 0 + 0 + 0 ≤ _), (by decide : 0 + 3 + 0 + 1 + 10 + 1 + 0 + 1 + 0 + 600 + 0 + 0 + 0 + 0 + 0 + 0 + 0 + 0 ≤ _)⟩))
    obtain ⟨rfl, N37, e37⟩ := hQ37
    have M37 := Fr.app M36 N37
    refine EndsK.tr st37 ?_
    refine EndsK.go (fun _ kz => XS.bipush X37.here hx rfl (hb hby at_185) (XS.icmpNo X37.here hx rfl (hb hby at_187) rfl (teq (chF_of (k := 110) ((W6 3 (by decide)).trans rfl) (by decide))).2 (XS.aload X37.here hx rfl (hb hby at_190) rfl rfl (XS.iconst X37.here hx rfl (hb hby at_192) kz)))) ?_
    refine EndsK.start (congrArg (fun z_ => (mkF m 193 #[vi i0, vi i1, vi i2, vi i3, vi (3 : Int32), vr w, vr sa, vi (Int32.ofNat (1 + sl i1)), vi (Int32.ofNat (1 + sl i2)), vi (Int32.ofNat (1 + sl i3)), vi (Int32.ofNat (6 + 1 + sl i1 + 1 + sl i2 + 1 + sl i3)), .unset] [(.int z_), (.ref sa)])) (rfl : (4 : Int32) = (Int32.ofNat 4))) ?_
    obtain ⟨cq38, kq38, qa38, qb38, qc38⟩ := isOf hZ e37 Ea
    obtain ⟨_, T38, Lc38, X38, hQ38, st38⟩ := doneT X37 (X37.virtualBack hx (y := mn41) (z := mn41) hown (mvT hZ (tw hw 197 rfl)) (mvT hZ (tw hw 198 rfl)) (notFace_of_selects (args := #[]) (mvT hZ (tw hw 200 rfl))) (mvT hZ (tw hw 200 rfl)) (mvT hZ (tw hw 199 rfl)) (by decide) (backOf (W := 0) (rm_chA l Z a0 hw [] zc o d u sa sb FF 4 (6 + 1 + sl i1 + 1 + sl i2 + 1 + sl i3) h29 n0 Z29 JF Ea Fc Fv BF (by omega) (by omega)) hZ (tw hw 201 rfl) (tw hw 34 rfl) (by decide) (by decide)) qa38 qc38 (g := (mkF m 193 #[vi i0, vi i1, vi i2, vi i3, vi (3 : Int32), vr w, vr sa, vi (Int32.ofNat (1 + sl i1)), vi (Int32.ofNat (1 + sl i2)), vi (Int32.ofNat (1 + sl i3)), vi (Int32.ofNat (6 + 1 + sl i1 + 1 + sl i2 + 1 + sl i3)), .unset] [(.int (Int32.ofNat 4)), (.ref sa)])) rfl (by rw [hml]; rfl) (Steps.refl _) (argsL := [(.int (Int32.ofNat 4))]) (rest := []) (lenOf pd26 rfl) rfl (by show 2 * 0 + _ ≤ _; exact Nat.le_of_eq rfl) (hb hby at_193) (fun _ _ => ⟨rfl, e37, (by decide : 0 + 1 + 0 + 1 + 1 + 1 + 0 + 1 + 0 + 14 + 0 + 0 + 0 + 0 + 0 + 0 + 0 + 0 + 0 ≤ _), (by decide : 0 + 3 + 0 + 1 + 10 + 1 + 0 + 1 + 0 + 600 + 0 + 0 + 0 + 0 + 0 + 0 + 0 + 0 + 0 ≤ _)⟩))
    obtain ⟨rfl, N38, e38⟩ := hQ38
    have M38 := Fr.app M37 N38
    refine EndsK.tr st38 ?_
    refine EndsK.go (fun _ kz => XS.bipush X38.here hx rfl (hb hby at_196) (XS.icmpNo X38.here hx rfl (hb hby at_198) rfl (teq (chF_of (k := 101) ((W6 4 (by decide)).trans rfl) (by decide))).2 (XS.aload X38.here hx rfl (hb hby at_201) rfl rfl (XS.iconst X38.here hx rfl (hb hby at_203) kz)))) ?_
    refine EndsK.start (congrArg (fun z_ => (mkF m 204 #[vi i0, vi i1, vi i2, vi i3, vi (3 : Int32), vr w, vr sa, vi (Int32.ofNat (1 + sl i1)), vi (Int32.ofNat (1 + sl i2)), vi (Int32.ofNat (1 + sl i3)), vi (Int32.ofNat (6 + 1 + sl i1 + 1 + sl i2 + 1 + sl i3)), .unset] [(.int z_), (.ref sa)])) (rfl : (5 : Int32) = (Int32.ofNat 5))) ?_
    obtain ⟨cq39, kq39, qa39, qb39, qc39⟩ := isOf hZ e38 Ea
    obtain ⟨_, T39, Lc39, X39, hQ39, st39⟩ := doneT X38 (X38.virtualBack hx (y := mn41) (z := mn41) hown (mvT hZ (tw hw 197 rfl)) (mvT hZ (tw hw 198 rfl)) (notFace_of_selects (args := #[]) (mvT hZ (tw hw 200 rfl))) (mvT hZ (tw hw 200 rfl)) (mvT hZ (tw hw 199 rfl)) (by decide) (backOf (W := 0) (rm_chA l Z a0 hw [] zc o d u sa sb FF 5 (6 + 1 + sl i1 + 1 + sl i2 + 1 + sl i3) h29 n0 Z29 JF Ea Fc Fv BF (by omega) (by omega)) hZ (tw hw 201 rfl) (tw hw 34 rfl) (by decide) (by decide)) qa39 qc39 (g := (mkF m 204 #[vi i0, vi i1, vi i2, vi i3, vi (3 : Int32), vr w, vr sa, vi (Int32.ofNat (1 + sl i1)), vi (Int32.ofNat (1 + sl i2)), vi (Int32.ofNat (1 + sl i3)), vi (Int32.ofNat (6 + 1 + sl i1 + 1 + sl i2 + 1 + sl i3)), .unset] [(.int (Int32.ofNat 5)), (.ref sa)])) rfl (by rw [hml]; rfl) (Steps.refl _) (argsL := [(.int (Int32.ofNat 5))]) (rest := []) (lenOf pd26 rfl) rfl (by show 2 * 0 + _ ≤ _; exact Nat.le_of_eq rfl) (hb hby at_204) (fun _ _ => ⟨rfl, e38, (by decide : 0 + 1 + 0 + 1 + 1 + 1 + 0 + 1 + 0 + 14 + 0 + 0 + 0 + 0 + 0 + 0 + 0 + 0 + 0 + 0 ≤ _), (by decide : 0 + 3 + 0 + 1 + 10 + 1 + 0 + 1 + 0 + 600 + 0 + 0 + 0 + 0 + 0 + 0 + 0 + 0 + 0 + 0 ≤ _)⟩))
    obtain ⟨rfl, N39, e39⟩ := hQ39
    have M39 := Fr.app M38 N39
    refine EndsK.tr st39 ?_
    refine EndsK.go (fun _ kz => XS.bipush X39.here hx rfl (hb hby at_207) (XS.icmpYes X39.here hx rfl (pc0 := 209) (pc' := 214) rfl (hb hby at_209) rfl (teq (chF_of (k := 114) ((W6 5 (by decide)).trans rfl) (by decide))).1 (by decide) (by decide) (XS.bipush X39.here hx rfl (hb hby at_214) (XS.istore X39.here hx rfl (hb hby at_216) rfl (l' := #[vi i0, vi i1, vi i2, vi i3, vi (3 : Int32), vr w, vr sa, vi (Int32.ofNat (1 + sl i1)), vi (Int32.ofNat (1 + sl i2)), vi (Int32.ofNat (1 + sl i3)), vi (Int32.ofNat (6 + 1 + sl i1 + 1 + sl i2 + 1 + sl i3)), vi (6 : Int32)]) rfl (XS.iload X39.here hx rfl (hb hby at_218) rfl (XS.ifNo X39.here hx rfl (hb hby at_220) rfl ((if0 _ _).trans (tlt (by decide : (0 : Int32) < (3 : Int32))).2.2.2) (XS.aload X39.here hx rfl (hb hby at_223) rfl rfl kz))))))) ?_
    show EndsK p e below _ (T39.setTop (mkF m 225 #[vi i0, vi i1, vi i2, vi i3, vi (3 : Int32), vr w, vr sa, vi (Int32.ofNat (1 + sl i1)), vi (Int32.ofNat (1 + sl i2)), vi (Int32.ofNat (1 + sl i3)), vi (Int32.ofNat (6 + 1 + sl i1 + 1 + sl i2 + 1 + sl i3)), vi (6 : Int32)] [(.ref sa)]))
    refine EndsK.go (fun _ kz => XS.iload X39.here hx rfl (hb hby at_225) rfl (XS.iloadN X39.here hx rfl (hb hby at_227) rfl kz)) ?_
    refine EndsK.start (congrArg (fun z_ => (mkF m 228 #[vi i0, vi i1, vi i2, vi i3, vi (3 : Int32), vr w, vr sa, vi (Int32.ofNat (1 + sl i1)), vi (Int32.ofNat (1 + sl i2)), vi (Int32.ofNat (1 + sl i3)), vi (Int32.ofNat (6 + 1 + sl i1 + 1 + sl i2 + 1 + sl i3)), vi (6 : Int32)] [(.int i1), (.int z_), (.ref sa)])) (rfl : (6 : Int32) = (Int32.ofNat (6)))) ?_
    obtain ⟨_, T40, Lc40, X40, hQ40, st40⟩ := doneG X39 (Jvm.LawKit.callS X39 hx (y := mn42) hown (mvT hZ (tw hw 334 rfl)) (mvT hZ (tw hw 335 rfl)) (mvT hZ (tw hw 323 rfl)) (mvT hZ (tw hw 336 rfl)) (by decide) (backOf (W := 0) (rm_seg l Z a0 hw [] zc o d u sa sb FF (6 + 1 + sl i1 + 1 + sl i2 + 1 + sl i3) (6) i1 h29 n0 Z29 JF Ea Fc Fv BF (by omega) (by omega) Sg0) hZ (tw hw 336 rfl) (tw hw 323 rfl) (by decide) (by decide)) (g := (mkF m 228 #[vi i0, vi i1, vi i2, vi i3, vi (3 : Int32), vr w, vr sa, vi (Int32.ofNat (1 + sl i1)), vi (Int32.ofNat (1 + sl i2)), vi (Int32.ofNat (1 + sl i3)), vi (Int32.ofNat (6 + 1 + sl i1 + 1 + sl i2 + 1 + sl i3)), vi (6 : Int32)] [(.int i1), (.int (Int32.ofNat (6))), (.ref sa)])) rfl (by rw [hml]; rfl) (argsL := [(.ref sa), (.int (Int32.ofNat (6))), (.int i1)]) (rest := []) (lenOf pd41 rfl) rfl (by show 2 * 0 + _ ≤ _; exact Nat.le_of_eq rfl) (hb hby at_228) (fun _ _ => ⟨rfl, e39, (by decide : 0 + 1 + 0 + 1 + 1 + 1 + 0 + 1 + 0 + 14 + 0 + 0 + 0 + 0 + 0 + 0 + 0 + 0 + 0 + 0 + 0 ≤ _), (by decide : 0 + 3 + 0 + 1 + 10 + 1 + 0 + 1 + 0 + 600 + 0 + 0 + 0 + 0 + 0 + 0 + 0 + 0 + 0 + 0 + 0 ≤ _)⟩))
    obtain ⟨rfl, N40, e40⟩ := hQ40
    have M40 := Fr.app M39 N40
    refine EndsK.go st40 ?_
    refine EndsK.go (fun _ kz => XS.ifYes X40.here hx rfl (pc0 := 231) (pc' := 236) rfl (hb hby at_231) rfl ((if0 _ _).trans (feq (by decide : ¬ ((1 : Int32) = (0 : Int32)))).2) (by decide) (by decide) (XS.iload X40.here hx rfl (hb hby at_236) rfl (XS.iload X40.here hx rfl (hb hby at_238) rfl (XS.iadd X40.here hx rfl (hb hby at_240) rfl kz)))) ?_
    refine EndsK.start (congrArg (fun z_ => (mkF m 241 #[vi i0, vi i1, vi i2, vi i3, vi (3 : Int32), vr w, vr sa, vi (Int32.ofNat (1 + sl i1)), vi (Int32.ofNat (1 + sl i2)), vi (Int32.ofNat (1 + sl i3)), vi (Int32.ofNat (6 + 1 + sl i1 + 1 + sl i2 + 1 + sl i3)), vi (6 : Int32)] [(.int z_)])) (on_addN (a := 6) (by omega) : ((6 : Int32) + (Int32.ofNat (1 + sl i1))) = (Int32.ofNat (6 + 1 + sl i1)))) ?_
    refine EndsK.go (fun _ kz => XS.istore X40.here hx rfl (hb hby at_241) rfl (l' := #[vi i0, vi i1, vi i2, vi i3, vi (3 : Int32), vr w, vr sa, vi (Int32.ofNat (1 + sl i1)), vi (Int32.ofNat (1 + sl i2)), vi (Int32.ofNat (1 + sl i3)), vi (Int32.ofNat (6 + 1 + sl i1 + 1 + sl i2 + 1 + sl i3)), vi (Int32.ofNat (6 + 1 + sl i1))]) rfl (XS.iload X40.here hx rfl (hb hby at_243) rfl (XS.iconst X40.here hx rfl (hb hby at_245) (XS.icmpNo X40.here hx rfl (hb hby at_246) rfl (tlt (by decide : (1 : Int32) < (3 : Int32))).2.2.2 (XS.aload X40.here hx rfl (hb hby at_249) rfl rfl (XS.iload X40.here hx rfl (hb hby at_251) rfl (XS.iloadN X40.here hx rfl (hb hby at_253) rfl kz))))))) ?_
    show EndsK p e below _ (T40.setTop (mkF m 254 #[vi i0, vi i1, vi i2, vi i3, vi (3 : Int32), vr w, vr sa, vi (Int32.ofNat (1 + sl i1)), vi (Int32.ofNat (1 + sl i2)), vi (Int32.ofNat (1 + sl i3)), vi (Int32.ofNat (6 + 1 + sl i1 + 1 + sl i2 + 1 + sl i3)), vi (Int32.ofNat (6 + 1 + sl i1))] [(.int i2), (.int (Int32.ofNat (6 + 1 + sl i1))), (.ref sa)]))
    obtain ⟨_, T41, Lc41, X41, hQ41, st41⟩ := doneG X40 (Jvm.LawKit.callS X40 hx (y := mn42) hown (mvT hZ (tw hw 334 rfl)) (mvT hZ (tw hw 335 rfl)) (mvT hZ (tw hw 323 rfl)) (mvT hZ (tw hw 336 rfl)) (by decide) (backOf (W := 0) (rm_seg l Z a0 hw [] zc o d u sa sb FF (6 + 1 + sl i1 + 1 + sl i2 + 1 + sl i3) (6 + 1 + sl i1) i2 h29 n0 Z29 JF Ea Fc Fv BF (by omega) (by omega) Sg1) hZ (tw hw 336 rfl) (tw hw 323 rfl) (by decide) (by decide)) (g := (mkF m 254 #[vi i0, vi i1, vi i2, vi i3, vi (3 : Int32), vr w, vr sa, vi (Int32.ofNat (1 + sl i1)), vi (Int32.ofNat (1 + sl i2)), vi (Int32.ofNat (1 + sl i3)), vi (Int32.ofNat (6 + 1 + sl i1 + 1 + sl i2 + 1 + sl i3)), vi (Int32.ofNat (6 + 1 + sl i1))] [(.int i2), (.int (Int32.ofNat (6 + 1 + sl i1))), (.ref sa)])) rfl (by rw [hml]; rfl) (argsL := [(.ref sa), (.int (Int32.ofNat (6 + 1 + sl i1))), (.int i2)]) (rest := []) (lenOf pd41 rfl) rfl (by show 2 * 0 + _ ≤ _; exact Nat.le_of_eq rfl) (hb hby at_254) (fun _ _ => ⟨rfl, e40, (by decide : 0 + 1 + 0 + 1 + 1 + 1 + 0 + 1 + 0 + 14 + 0 + 0 + 0 + 0 + 0 + 0 + 0 + 0 + 0 + 0 + 0 + 0 ≤ _), (by decide : 0 + 3 + 0 + 1 + 10 + 1 + 0 + 1 + 0 + 600 + 0 + 0 + 0 + 0 + 0 + 0 + 0 + 0 + 0 + 0 + 0 + 0 ≤ _)⟩))
    obtain ⟨rfl, N41, e41⟩ := hQ41
    have M41 := Fr.app M40 N41
    refine EndsK.go st41 ?_
    refine EndsK.go (fun _ kz => XS.ifYes X41.here hx rfl (pc0 := 257) (pc' := 262) rfl (hb hby at_257) rfl ((if0 _ _).trans (feq (by decide : ¬ ((1 : Int32) = (0 : Int32)))).2) (by decide) (by decide) (XS.iload X41.here hx rfl (hb hby at_262) rfl (XS.iload X41.here hx rfl (hb hby at_264) rfl (XS.iadd X41.here hx rfl (hb hby at_266) rfl kz)))) ?_
    refine EndsK.start (congrArg (fun z_ => (mkF m 267 #[vi i0, vi i1, vi i2, vi i3, vi (3 : Int32), vr w, vr sa, vi (Int32.ofNat (1 + sl i1)), vi (Int32.ofNat (1 + sl i2)), vi (Int32.ofNat (1 + sl i3)), vi (Int32.ofNat (6 + 1 + sl i1 + 1 + sl i2 + 1 + sl i3)), vi (Int32.ofNat (6 + 1 + sl i1))] [(.int z_)])) (on_addN (by omega) : ((Int32.ofNat (6 + 1 + sl i1)) + (Int32.ofNat (1 + sl i2))) = (Int32.ofNat (6 + 1 + sl i1 + 1 + sl i2)))) ?_
    refine EndsK.go (fun _ kz => XS.istore X41.here hx rfl (hb hby at_267) rfl (l' := #[vi i0, vi i1, vi i2, vi i3, vi (3 : Int32), vr w, vr sa, vi (Int32.ofNat (1 + sl i1)), vi (Int32.ofNat (1 + sl i2)), vi (Int32.ofNat (1 + sl i3)), vi (Int32.ofNat (6 + 1 + sl i1 + 1 + sl i2 + 1 + sl i3)), vi (Int32.ofNat (6 + 1 + sl i1 + 1 + sl i2))]) rfl (XS.iload X41.here hx rfl (hb hby at_269) rfl (XS.iconst X41.here hx rfl (hb hby at_271) (XS.icmpNo X41.here hx rfl (hb hby at_272) rfl (tlt (by decide : (2 : Int32) < (3 : Int32))).2.2.2 (XS.aload X41.here hx rfl (hb hby at_275) rfl rfl (XS.iload X41.here hx rfl (hb hby at_277) rfl (XS.iloadN X41.here hx rfl (hb hby at_279) rfl kz))))))) ?_
    show EndsK p e below _ (T41.setTop (mkF m 280 #[vi i0, vi i1, vi i2, vi i3, vi (3 : Int32), vr w, vr sa, vi (Int32.ofNat (1 + sl i1)), vi (Int32.ofNat (1 + sl i2)), vi (Int32.ofNat (1 + sl i3)), vi (Int32.ofNat (6 + 1 + sl i1 + 1 + sl i2 + 1 + sl i3)), vi (Int32.ofNat (6 + 1 + sl i1 + 1 + sl i2))] [(.int i3), (.int (Int32.ofNat (6 + 1 + sl i1 + 1 + sl i2))), (.ref sa)]))
    obtain ⟨_, T42, Lc42, X42, hQ42, st42⟩ := doneG X41 (Jvm.LawKit.callS X41 hx (y := mn42) hown (mvT hZ (tw hw 334 rfl)) (mvT hZ (tw hw 335 rfl)) (mvT hZ (tw hw 323 rfl)) (mvT hZ (tw hw 336 rfl)) (by decide) (backOf (W := 0) (rm_seg l Z a0 hw [] zc o d u sa sb FF (6 + 1 + sl i1 + 1 + sl i2 + 1 + sl i3) (6 + 1 + sl i1 + 1 + sl i2) i3 h29 n0 Z29 JF Ea Fc Fv BF (by omega) (by omega) Sg2) hZ (tw hw 336 rfl) (tw hw 323 rfl) (by decide) (by decide)) (g := (mkF m 280 #[vi i0, vi i1, vi i2, vi i3, vi (3 : Int32), vr w, vr sa, vi (Int32.ofNat (1 + sl i1)), vi (Int32.ofNat (1 + sl i2)), vi (Int32.ofNat (1 + sl i3)), vi (Int32.ofNat (6 + 1 + sl i1 + 1 + sl i2 + 1 + sl i3)), vi (Int32.ofNat (6 + 1 + sl i1 + 1 + sl i2))] [(.int i3), (.int (Int32.ofNat (6 + 1 + sl i1 + 1 + sl i2))), (.ref sa)])) rfl (by rw [hml]; rfl) (argsL := [(.ref sa), (.int (Int32.ofNat (6 + 1 + sl i1 + 1 + sl i2))), (.int i3)]) (rest := []) (lenOf pd41 rfl) rfl (by show 2 * 0 + _ ≤ _; exact Nat.le_of_eq rfl) (hb hby at_280) (fun _ _ => ⟨rfl, e41, (by decide : 0 + 1 + 0 + 1 + 1 + 1 + 0 + 1 + 0 + 14 + 0 + 0 + 0 + 0 + 0 + 0 + 0 + 0 + 0 + 0 + 0 + 0 + 0 ≤ _), (by decide : 0 + 3 + 0 + 1 + 10 + 1 + 0 + 1 + 0 + 600 + 0 + 0 + 0 + 0 + 0 + 0 + 0 + 0 + 0 + 0 + 0 + 0 + 0 ≤ _)⟩))
    obtain ⟨rfl, N42, e42⟩ := hQ42
    have M42 := Fr.app M41 N42
    refine EndsK.go st42 ?_
    refine EndsK.go (fun _ kz => XS.ifYes X42.here hx rfl (pc0 := 283) (pc' := 288) rfl (hb hby at_283) rfl ((if0 _ _).trans (feq (by decide : ¬ ((1 : Int32) = (0 : Int32)))).2) (by decide) (by decide) (XS.iconst X42.here hx rfl (hb hby at_288) kz)) ?_
    show EndsK p e below _ (T42.setTop (mkF m 289 #[vi i0, vi i1, vi i2, vi i3, vi (3 : Int32), vr w, vr sa, vi (Int32.ofNat (1 + sl i1)), vi (Int32.ofNat (1 + sl i2)), vi (Int32.ofNat (1 + sl i3)), vi (Int32.ofNat (6 + 1 + sl i1 + 1 + sl i2 + 1 + sl i3)), vi (Int32.ofNat (6 + 1 + sl i1 + 1 + sl i2))] [(.int (1 : Int32))]))
    exact endNW X42 hS (by rw [e42]; exact hk) hx (t := .boolean) Bd.returns (by simp) (hb hby at_289) hlk ⟨rfl, M42⟩ (by decide) (by decide)
theorem ones_at : ∀ j : Nat, j < 100 → (48 : Int32) + Int32.ofNat j % 10 = Int32.ofNat (48 + j % 10) := by decide +kernel
theorem tens_at : ∀ j : Nat, j < 100 → (48 : Int32) + Int32.ofNat j / 10 = Int32.ofNat (48 + j / 10) := by decide +kernel
theorem ones_fit : ∀ j : Nat, j < 100 → fits .byte (.int (Int32.ofNat (48 + j % 10))) = true := by decide +kernel
theorem tens_fit : ∀ j : Nat, j < 100 → fits .byte (.int (Int32.ofNat (48 + j / 10))) = true := by decide +kernel
theorem idxN {Z : State} {args : Array Value} (j : Nat) : (Term.index 0).eval args Z none [j] Z = some (.int (Int32.ofNat j)) := rfl
theorem bytStart {Z : State} {args a0 : Array Value} {t F : Term} {a : Addr} {N : Nat} {f : Nat → Int32} (et : ∀ idx, t.eval args Z none idx Z = some (.ref a)) (hE : Exa Z Z.heap a "[B") (wA : (Jvm.Cond.arrayClass .byte).before a0 Z = true)
    (hL : (Jvm.Cond.eq (.length t) (.int (Int32.ofNat N))).value args Z none Z [] = some true) (hN : N < 2 ^ 31) (hA : (Jvm.Cond.all t (.eq (.elem t (.index 0)) F)).value args Z none Z [] = some true)
    (hF : ∀ j, j < N → F.eval args Z none [j] Z = some (.int (f j))) (hfit : ∀ j, j < N → fits .byte (.int (f j)) = true) : Byt Z Z.heap a N f := by
  obtain ⟨cell, k, h1, h2, h3, h4, -⟩ := hE
  obtain ⟨cA, kA, comp, g1, g2, g3⟩ := Jvm.Cond.arrayClass_spec wA
  cases h2.symm.trans (show Z.vm.findClass "[B" = some cA from g1)
  obtain ⟨x, y, e1, e2, -, k2⟩ := cmp_v (Or.inl hL)
  have hun : cell.vm ≠ .unknown := by
    cases hq : Z.arrayAt? a with
    | none => simp [Term.eval, et, hq] at e1
    | some c =>
      have q := State.arrayAt?_spec hq
      cases h1.symm.trans q.1
      exact q.2.1
  have A : Arr Z Z.heap a cell .byte := ⟨h1, ⟨fun q z => (by rw [z] at h4; cases h4), kA, g2, comp, g3⟩, hun⟩
  have qL := arrLen (et []) A hL
  have hsz : cell.slots.size = N := by
    have q := len_toInt qL.1
    rw [qL.2, on_toInt hN] at q
    omega
  refine ⟨cell, A, hsz, hN, fun j hj => ⟨?_, hfit j hj⟩⟩
  have q := Jvm.Cond.all_elim (et []) (A.fin (Vm.Alike.refl _)) hA j (by omega)
  have e := eqv_i (hF j hj) q
  rw [elem_f (et [j]) (idxN j) (A.fin (Vm.Alike.refl _)) (not_neg (by omega)), on_clamp (a := j) (by omega)] at e
  exact e
set_option maxRecDepth 65536 in
set_option maxHeartbeats 40000000 in
theorem comes_1 {Post : Tables → Env → Array Value → State → Outcome → State → Prop} (hpost : ∀ tb e args s v u, (limb_1_1.after args s (.returned v) u = true ∧ limb_1_2.after args s (.returned v) u = true ∧ True) → ReturnedEndW s (.returned v) u (Jvm.fieldLocs frame_1_writes args s ++ Jvm.arrayLocs frame_1_arrays args s ++ Jvm.staticLocs frame_1_statics s) 32 1408 → Post tb e args s (.returned v) u) :
    ArmFor flags0 classFile x code maxLocals ret World_1 tables_1 room_1 Calls_1 rest_1 Pre_1 Post := by
  intro l hfl _ _ p e ha hc hk s m args below hf hA hF happ hP
  obtain ⟨hcalls, hrest, hpre⟩ := hP
  obtain ⟨-, -, -, hnamed, -, -, -, hat⟩ := (Spec.applies_iff hf).mp happ
  obtain ⟨hg, hn⟩ := and_e (Cond.before_iff.mp (show (Jvm.Cond.and given_1 narrow_1).before args s = true from hpre))
  obtain ⟨hcount, hg⟩ := and_e hg
  obtain ⟨hi0, hg⟩ := and_e hg
  obtain ⟨hi1, hg⟩ := and_e hg
  obtain ⟨hi2, hg⟩ := and_e hg
  obtain ⟨w0, w1, w2, w3, rfl⟩ : ∃ w0 w1 w2 w3 : Value, args = #[w0, w1, w2, w3] := by
    have hs : args.size = 4 := by simpa [Cond.value, given_1] using hcount
    obtain ⟨L⟩ := args
    match L, hs with
    | [w0, w1, w2, w3], _ => exact ⟨w0, w1, w2, w3, rfl⟩
  have hw := fun d (hd : d ∈ tables_1) => atoms_spec (ws := Jvm.Cond.code x code maxLocals ret :: tables_1) hat d (List.mem_cons_of_mem _ hd)
  have hfit : Fit s := fun {y c} hc i hi => by
    obtain ⟨ha, rfl⟩ := Array.getElem?_eq_some_iff.mp hc
    have q := List.all_eq_true.mp ((Array.all_eq_true_iff_forall_mem.mp hF) _ (Array.getElem_mem ha)) i (List.mem_range.mpr hi)
    simpa [Array.getElem?_eq_getElem hi] using q
  obtain ⟨i0, ei0⟩ := is_v hi0
  obtain rfl : w0 = (.int i0) := Option.some.inj ei0
  obtain ⟨i1, ei1⟩ := is_v hi1
  obtain rfl : w1 = (.int i1) := Option.some.inj ei1
  obtain ⟨i2, ei2⟩ := is_v hi2
  obtain rfl : w2 = (.int i2) := Option.some.inj ei2
  obtain ⟨i3, ei3⟩ := is_v hg
  obtain rfl : w3 = (.int i3) := Option.some.inj ei3
  obtain ⟨hsets, hown0⟩ := atoms_of _ (rest_1_c_eq ▸ (show rest_1_c.before _ s = true from hrest))
  have qD := (Cond.before_iff.mp (hsets _ (List.mem_of_getElem? (i := 6) rfl)))
  obtain ⟨dce, vD⟩ := arr_v qD
  obtain ⟨cd, AD⟩ := Arr.start vD qD
  have SD := Sta.start vD (Or.inr ⟨(tw hw 2 rfl), (hsets _ (List.mem_of_getElem? (i := 2) rfl))⟩)
  have qLD := arrLen vD AD (Cond.before_iff.mp (hsets _ (List.mem_of_getElem? (i := 8) rfl)))
  have zd : cd.slots.size = 0 := by have q := len_toInt qLD.1; rw [qLD.2] at q; have q2 : (0 : Int32).toInt = 0 := rfl; omega
  have L0 : LS s s.heap dce cd := ⟨SD, AD, zd⟩
  have n5 := not_v (Cond.before_iff.mp (hsets _ (List.mem_of_getElem? (i := 11) rfl)))
  obtain ⟨zc, ez⟩ := is_v (Cond.before_iff.mp (hsets _ (List.mem_of_getElem? (i := 10) rfl)))
  have SC := Sta.start ez (Or.inl (hsets _ (List.mem_of_getElem? (i := 9) rfl)))
  have hzc : ¬ (zc = (0 : Int32)) := gotF (Cond.eq_ints ez (Term.int_eval (0))) n5
  obtain ⟨u, eu, hu⟩ := isR_v (Cond.before_iff.mp (hsets _ (List.mem_of_getElem? (i := 17) rfl)))
  have SF := Sta.start eu (Or.inl (hsets _ (List.mem_of_getElem? (i := 16) rfl)))
  have SH := Sta.start (eqv_i (F := .int 127) rfl (Cond.before_iff.mp (hsets _ (List.mem_of_getElem? (i := 21) rfl)))) (Or.inl (hsets _ (List.mem_of_getElem? (i := 19) rfl)))
  have qA := (Cond.before_iff.mp (hsets _ (List.mem_of_getElem? (i := 22) rfl)))
  obtain ⟨ca, vC⟩ := arr_v qA
  obtain ⟨cl, AC⟩ := Arr.start vC qA
  have SA := Sta.start vC (Or.inr ⟨(tw hw 224 rfl), (hsets _ (List.mem_of_getElem? (i := 20) rfl))⟩)
  have qLC := arrLen vC AC (Cond.before_iff.mp (hsets _ (List.mem_of_getElem? (i := 24) rfl)))
  have hsz : cl.slots.size = 256 := by have q := len_toInt qLC.1; rw [qLC.2] at q; have q2 : (256 : Int32).toInt = 256 := rfl; omega
  have qE := Cond.all_elim vC (AC.fin (Vm.Alike.refl _)) (Cond.before_iff.mp (hsets _ (List.mem_of_getElem? (i := 25) rfl)))
  have C0 : IC s s.heap ca cl := ⟨SH, SA, AC, hsz, fun j hj => by
      obtain ⟨u1, u2⟩ := and_e (qE j (by omega))
      obtain ⟨b, eb⟩ := exa_v u1
      have e3 := (elem_f (by simpa [Term.eval] using vC) (idxN j) (AC.fin (Vm.Alike.refl _)) (not_neg (by omega))).symm.trans eb
      rw [on_clamp (a := j) (by omega)] at e3
      refine ⟨b, e3, exa_at eb u1, Int32.ofNat j - Int32.ofNat 128, ?_, Fld.start ((fld_at eb).symm.trans (eqv_i (y := Int32.ofNat j - Int32.ofNat 128) rfl u2))⟩
      rw [on_sub (by omega) (by omega)]
      rfl⟩
  obtain ⟨o, vo⟩ := exa_v (Cond.before_iff.mp (hsets _ (List.mem_of_getElem? (i := 29) rfl)))
  have Eo := Exa.start vo (Cond.before_iff.mp (hsets _ (List.mem_of_getElem? (i := 29) rfl)))
  have So_ := Sta.start vo (Or.inl (hsets _ (List.mem_of_getElem? (i := 28) rfl)))
  have BO := bytStart (N := 100) (fun idx => by simpa [Term.eval] using vo) Eo (tw hw 36 rfl) (Cond.before_iff.mp (hsets _ (List.mem_of_getElem? (i := 30) rfl))) (by decide) (Cond.before_iff.mp (hsets _ (List.mem_of_getElem? (i := 31) rfl))) (fun j hj => congrArg (fun z => some (Value.int z)) (ones_at j hj)) ones_fit
  obtain ⟨d, vd⟩ := exa_v (Cond.before_iff.mp (hsets _ (List.mem_of_getElem? (i := 34) rfl)))
  have Ed := Exa.start vd (Cond.before_iff.mp (hsets _ (List.mem_of_getElem? (i := 34) rfl)))
  have Sd_ := Sta.start vd (Or.inl (hsets _ (List.mem_of_getElem? (i := 33) rfl)))
  have BT := bytStart (N := 100) (fun idx => by simpa [Term.eval] using vd) Ed (tw hw 36 rfl) (Cond.before_iff.mp (hsets _ (List.mem_of_getElem? (i := 35) rfl))) (by decide) (Cond.before_iff.mp (hsets _ (List.mem_of_getElem? (i := 36) rfl))) (fun j hj => congrArg (fun z => some (Value.int z)) (tens_at j hj)) tens_fit
  have J : JS s s.heap zc o d u := ⟨SC, hzc, So_, BO, Sd_, BT, SF, hu⟩
  have hEL : EW s _ EL1 := EW.cons (text := "winner") (tw hw 33 rfl) (by decide) EW.nil
  have hCH : CHv s EL1 s.vm s.heap := CHv.start hEL (fun p hp => hcalls.1 p hp) (hsets _ (List.mem_of_getElem? (i := 11) rfl)) (tw hw 36 rfl) (tw hw 35 rfl)
  obtain ⟨n, o, h1, h2, h3, _, L, rfl, ⟨rfl, N⟩, hq⟩ := rm_law l s _ hw tables_1 i0 i1 i2 i3 zc o d u dce cd ca cl s.heap s.heap.size (Nat.le_refl _) rfl J L0 C0 p e ha hc hk s m _ below hf ((Spec.applies_iff_loose hf).mp happ).1 ⟨rfl, State.Warmed39.refl s, rfl, hCH⟩ trivial
  refine ⟨n, _, h1, h2, h3, hpost _ _ _ _ _ _ ⟨Cond.after_iff.mpr rfl, Cond.after_iff.mpr (eq_i res_at (Term.int_eval (1)) rfl), trivial⟩ ⟨hq.1, hq.2.1, hq.2.2.1, (hq.2.2.2.sift fun y hy => Or.inr (N y hy)).mono (by decide) (by decide)⟩⟩
theorem main_1_1 : Claimed_1_1 := comes_1 fun _ _ _ _ _ _ h hF => ⟨h.1, hF⟩
theorem main_1_2 : Claimed_1_2 := comes_1 fun _ _ _ _ _ _ h hF => ⟨h.2.1, hF⟩
end Jvm.Pilot.@@N@@
namespace Jvm.Pilot.@@N@@
open Jvm Jvm.ClassFile Sem Op Lib Jvm.Free Jvm.Stand Jvm.Pilot.@@N@@.Jvm.D
/-! MADE BY PROGRAM (witnessworld.py) out of the Statement's table words and the real class files: 38 classes; the members and pool entries that the words name. The judged class is class 1, her method 6. -/
namespace start1
open Jvm.ClassFile
def u (s : String) : CpInfo := .utf8 (stringToUtf16 s)
/-- a pool by its gaps: so many unusable entries, then the entry; so many at the end -/
def gap : Nat → List CpInfo → List CpInfo
  | 0, r => r
  | n + 1, r => .unusable :: gap n r
def poolList (es : List (Nat × CpInfo)) (last : Nat) : List CpInfo := es.foldr (fun e r => gap e.1 (e.2 :: r)) (gap last [])
def pool (es : List (Nat × CpInfo)) (last : Nat) : Array CpInfo := ⟨poolList es last⟩
def fileOf (pool : Array CpInfo) (this : Nat) (attrs : Array Attribute := #[]) (ms : Array MethodInfo := #[]) (fl : Nat := 33) (sup : Nat := 0) (ifs : Array Nat := #[]) (fds : Array FieldInfo := #[]) : ClassFile where
  minorVersion := 0
  majorVersion := 65
  constantPool := pool
  accessFlags := fl
  thisClass := this
  superClass := sup
  interfaces := ifs
  fields := fds
  methods := ms
  attributes := attrs
def plain (name : String) (sup : Option ClassId) : Class where
  name := name
  kind := .ordinary
  loader := none
  accessFlags := 33
  super := sup
  interfaces := #[]
  cf := none
  fields := #[]
  methods := #[]
  instanceTypes := #[]
  staticTypes := #[]
  resolved := #[]
  callSites := []
  init := .initialized
  statics := none
  mirror := none

def pool0 : Array CpInfo := pool [(5, u "<init>"), (0, u "()V"), (1, .class_ 10), (1, u "java/lang/Object"), (85, u "clone"), (0, u "()Ljava/lang/Object;")] 26

def k0c0 : Code := { maxStack := 0, maxLocals := 1, code := object_method_1_code, exceptionTable := #[], attributes := #[] }
def k0m0 : Method := { name := "<init>", desc := "()V", sig := { parameters := [], returnType := none }, accessFlags := 1, code := some k0c0 }
def k0m1 : Method := { name := "clone", desc := "()Ljava/lang/Object;", sig := { parameters := [], returnType := some (.object "java/lang/Object") }, accessFlags := 260, code := none }
/-- java/lang/Object -/
def k0 : Class := { plain "java/lang/Object" none with
  accessFlags := 33
  interfaces := #[]
  cf := some (fileOf pool0 8 #[] #[{ accessFlags := 1, nameIndex := 5, descriptorIndex := 6, attributes := #[] }, { accessFlags := 260, nameIndex := 96, descriptorIndex := 97, attributes := #[] }] 33 0 #[] #[])
  fields := #[]
  methods := #[k0m0, k0m1]
  instanceTypes := #[]
  staticTypes := #[]
  resolved := Array.replicate 124 none
  statics := none }

def pool1 : Array CpInfo := pool [(2, .class_ 4), (0, .nameAndType 5 6), (0, u "java/lang/Object"), (0, u "<init>"), (0, u "()V"), (0, .long 10), (1, .long 100), (1, .long 1000), (1, .long 10000), (1, .long 100000), (1, .long 1000000), (1, .long 10000000), (1, .long 100000000), (1, .long 1000000000), (1, .methodref 26 27), (0, .class_ 28), (0, .nameAndType 29 30), (0, u "com/example/guildtable/guildtable/table/WinnersLinePinLaw"), (0, u "mag"), (0, u "(I)J"), (0, .methodref 26 32), (0, .nameAndType 33 34), (0, u "ndig"), (0, u "(J)I"), (0, .methodref 36 37), (0, .class_ 38), (0, .nameAndType 39 40), (0, u "java/lang/String"), (0, u "charAt"), (0, u "(I)C"), (0, .methodref 26 42), (0, .nameAndType 43 44), (0, u "dig"), (0, u "(J)C"), (0, .class_ 46), (0, u "java/util/ArrayList"), (0, .methodref 45 3), (0, .methodref 49 50), (0, .class_ 51), (0, .nameAndType 52 53), (0, u "java/lang/Integer"), (0, u "valueOf"), (0, u "(I)Ljava/lang/Integer;"), (0, .interfaceMethodref 55 56), (0, .class_ 57), (0, .nameAndType 58 59), (0, u "java/util/List"), (0, u "add"), (0, u "(Ljava/lang/Object;)Z"), (0, .methodref 61 62), (0, .class_ 63), (0, .nameAndType 64 65), (0, u "com/example/guildtable/guildtable/table/Winners"), (0, u "line"), (0, u "(Ljava/util/List;)Ljava/lang/String;"), (0, .methodref 26 67), (0, .nameAndType 68 69), (0, u "segLen"), (0, u "(I)I"), (0, .methodref 36 71), (0, .nameAndType 72 73), (0, u "length"), (0, u "()I"), (0, .methodref 26 75), (0, .nameAndType 76 77), (0, u "seg"), (0, u "(Ljava/lang/String;II)Z"), (3, u "law"), (0, u "(IIII)Z")] 2

def k1m0 : Method := { name := "<init>", desc := "()V", sig := { parameters := [], returnType := none }, accessFlags := 2, code := none }
def k1c1 : Code := { maxStack := 2, maxLocals := 1, code := method_2_code, exceptionTable := #[], attributes := #[] }
def k1m1 : Method := { name := "mag", desc := "(I)J", sig := { parameters := [.int], returnType := some .long }, accessFlags := 10, code := some k1c1 }
def k1c2 : Code := { maxStack := 4, maxLocals := 2, code := method_3_code, exceptionTable := #[], attributes := #[] }
def k1m2 : Method := { name := "ndig", desc := "(J)I", sig := { parameters := [.long], returnType := some .int }, accessFlags := 10, code := some k1c2 }
def k1c3 : Code := { maxStack := 3, maxLocals := 1, code := method_4_code, exceptionTable := #[], attributes := #[] }
def k1m3 : Method := { name := "segLen", desc := "(I)I", sig := { parameters := [.int], returnType := some .int }, accessFlags := 10, code := some k1c3 }
def k1c4 : Code := { maxStack := 5, maxLocals := 2, code := method_5_code, exceptionTable := #[], attributes := #[] }
def k1m4 : Method := { name := "dig", desc := "(J)C", sig := { parameters := [.long], returnType := some .char }, accessFlags := 10, code := some k1c4 }
def k1c5 : Code := { maxStack := 4, maxLocals := 8, code := method_6_code, exceptionTable := #[], attributes := #[] }
def k1m5 : Method := { name := "seg", desc := "(Ljava/lang/String;II)Z", sig := { parameters := [(.object "java/lang/String"), .int, .int], returnType := some .boolean }, accessFlags := 10, code := some k1c5 }
def k1c6 : Code := { maxStack := 3, maxLocals := 12, code := code, exceptionTable := #[], attributes := #[] }
def k1m6 : Method := { name := "law", desc := "(IIII)Z", sig := { parameters := [.int, .int, .int, .int], returnType := some .boolean }, accessFlags := 9, code := some k1c6 }
/-- com/example/guildtable/guildtable/table/WinnersLinePinLaw -/
def k1 : Class := { plain "com/example/guildtable/guildtable/table/WinnersLinePinLaw" (some 0) with
  accessFlags := 49
  interfaces := #[]
  cf := some (fileOf pool1 26 #[] #[{ accessFlags := 2, nameIndex := 5, descriptorIndex := 6, attributes := #[] }, { accessFlags := 10, nameIndex := 29, descriptorIndex := 30, attributes := #[] }, { accessFlags := 10, nameIndex := 33, descriptorIndex := 34, attributes := #[] }, { accessFlags := 10, nameIndex := 68, descriptorIndex := 69, attributes := #[] }, { accessFlags := 10, nameIndex := 43, descriptorIndex := 44, attributes := #[] }, { accessFlags := 10, nameIndex := 76, descriptorIndex := 77, attributes := #[] }, { accessFlags := 9, nameIndex := 81, descriptorIndex := 82, attributes := #[] }] 49 2 #[] #[])
  fields := #[]
  methods := #[k1m0, k1m1, k1m2, k1m3, k1m4, k1m5, k1m6]
  instanceTypes := #[]
  staticTypes := #[]
  resolved := Array.replicate 85 none
  statics := none }

def pool2 : Array CpInfo := pool [(8, .class_ 10), (1, u "java/lang/Iterable"), (24, .class_ 36), (0, u "java/lang/Object")] 25

/-- java/lang/Iterable -/
def k2 : Class := { plain "java/lang/Iterable" (some 0) with
  accessFlags := 1537
  interfaces := #[]
  cf := some (fileOf pool2 8 #[] #[] 1537 35 #[] #[])
  fields := #[]
  methods := #[]
  instanceTypes := #[]
  staticTypes := #[]
  resolved := Array.replicate 62 none
  statics := none }

def pool3 : Array CpInfo := pool [(10, .class_ 12), (1, u "java/util/Collection"), (47, .class_ 61), (0, u "java/lang/Object"), (0, .class_ 63), (0, u "java/lang/Iterable")] 51

/-- java/util/Collection -/
def k3 : Class := { plain "java/util/Collection" (some 0) with
  accessFlags := 1537
  interfaces := #[2]
  cf := some (fileOf pool3 10 #[] #[] 1537 60 #[62] #[])
  fields := #[]
  methods := #[]
  instanceTypes := #[]
  staticTypes := #[]
  resolved := Array.replicate 115 none
  statics := none }

def pool4 : Array CpInfo := pool [(1, .methodref 2 3), (0, .class_ 4), (0, .nameAndType 5 6), (0, u "java/lang/Object"), (0, u "<init>"), (0, u "()V"), (1, .class_ 10), (1, u "java/util/AbstractCollection"), (66, .class_ 78), (0, u "java/util/Collection")] 81

def k4c0 : Code := { maxStack := 1, maxLocals := 1, code := jdk_22_method_1_code, exceptionTable := #[], attributes := #[] }
def k4m0 : Method := { name := "<init>", desc := "()V", sig := { parameters := [], returnType := none }, accessFlags := 4, code := some k4c0 }
/-- java/util/AbstractCollection -/
def k4 : Class := { plain "java/util/AbstractCollection" (some 0) with
  accessFlags := 1057
  interfaces := #[3]
  cf := some (fileOf pool4 8 #[] #[{ accessFlags := 4, nameIndex := 5, descriptorIndex := 6, attributes := #[] }] 1057 2 #[77] #[])
  fields := #[]
  methods := #[k4m0]
  instanceTypes := #[]
  staticTypes := #[]
  resolved := Array.replicate 160 none
  statics := none }

def pool5 : Array CpInfo := pool [(8, .class_ 10), (1, u "java/util/SequencedCollection"), (15, .class_ 27), (0, u "java/lang/Object"), (0, .class_ 29), (0, u "java/util/Collection")] 27

/-- java/util/SequencedCollection -/
def k5 : Class := { plain "java/util/SequencedCollection" (some 0) with
  accessFlags := 1537
  interfaces := #[3]
  cf := some (fileOf pool5 8 #[] #[] 1537 26 #[28] #[])
  fields := #[]
  methods := #[]
  instanceTypes := #[]
  staticTypes := #[]
  resolved := Array.replicate 57 none
  statics := none }

def pool6 : Array CpInfo := pool [(8, .class_ 10), (1, u "java/util/List"), (49, u "add"), (3, u "(Ljava/lang/Object;)Z"), (38, .class_ 104), (0, u "java/lang/Object"), (15, .class_ 121), (0, u "java/util/SequencedCollection"), (1, u "iterator"), (0, u "()Ljava/util/Iterator;")] 126

def k6m0 : Method := { name := "iterator", desc := "()Ljava/util/Iterator;", sig := { parameters := [], returnType := some (.object "java/util/Iterator") }, accessFlags := 1025, code := none }
def k6m1 : Method := { name := "add", desc := "(Ljava/lang/Object;)Z", sig := { parameters := [(.object "java/lang/Object")], returnType := some .boolean }, accessFlags := 1025, code := none }
/-- java/util/List -/
def k6 : Class := { plain "java/util/List" (some 0) with
  accessFlags := 1537
  interfaces := #[5]
  cf := some (fileOf pool6 8 #[] #[{ accessFlags := 1025, nameIndex := 123, descriptorIndex := 124, attributes := #[] }, { accessFlags := 1025, nameIndex := 60, descriptorIndex := 64, attributes := #[] }] 1537 103 #[120] #[])
  fields := #[]
  methods := #[k6m0, k6m1]
  instanceTypes := #[]
  staticTypes := #[]
  resolved := Array.replicate 251 none
  statics := none }

def pool7 : Array CpInfo := pool [(1, .methodref 2 3), (0, .class_ 4), (0, .nameAndType 5 6), (0, u "java/util/AbstractCollection"), (0, u "<init>"), (0, u "()V"), (0, .fieldref 8 9), (0, .class_ 10), (0, .nameAndType 11 12), (0, u "java/util/AbstractList"), (0, u "modCount"), (0, u "I"), (64, .class_ 78), (0, u "java/util/AbstractList$Itr"), (3, .class_ 83), (0, u "java/util/AbstractList$ListItr"), (9, .class_ 94), (0, u "java/util/AbstractList$RandomAccessSubList"), (3, .class_ 99), (0, u "java/util/AbstractList$SubList"), (33, .class_ 134), (0, u "java/util/List"), (73, .class_ 209), (0, u "java/util/AbstractList$SubList$1"), (0, .class_ 211), (0, u "java/util/AbstractList$RandomAccessSpliterator")] 6

def k7c0 : Code := { maxStack := 2, maxLocals := 1, code := jdk_39_method_1_code, exceptionTable := #[], attributes := #[] }
def k7m0 : Method := { name := "<init>", desc := "()V", sig := { parameters := [], returnType := none }, accessFlags := 4, code := some k7c0 }
/-- java/util/AbstractList -/
def k7 : Class := { plain "java/util/AbstractList" (some 4) with
  accessFlags := 1057
  interfaces := #[6]
  cf := some (fileOf pool7 8 #[.nestMembers #[93, 98, 208, 210, 82, 77]] #[{ accessFlags := 4, nameIndex := 5, descriptorIndex := 6, attributes := #[] }] 1057 2 #[133] #[{ accessFlags := 132, nameIndex := 11, descriptorIndex := 12, attributes := #[] }])
  fields := #[{ name := "modCount", type := .int, accessFlags := 132, slot := 0, constantValue := 0 }]
  methods := #[k7m0]
  instanceTypes := #[.int]
  staticTypes := #[]
  resolved := Array.replicate 218 none
  statics := none }

def pool8 : Array CpInfo := pool [(1, .class_ 2), (0, u "java/util/RandomAccess"), (0, .class_ 4), (0, u "java/lang/Object")] 2

/-- java/util/RandomAccess -/
def k8 : Class := { plain "java/util/RandomAccess" (some 0) with
  accessFlags := 1537
  interfaces := #[]
  cf := some (fileOf pool8 1 #[] #[] 1537 3 #[] #[])
  fields := #[]
  methods := #[]
  instanceTypes := #[]
  staticTypes := #[]
  resolved := Array.replicate 7 none
  statics := none }

def pool9 : Array CpInfo := pool [(1, .class_ 2), (0, u "java/lang/Cloneable"), (0, .class_ 4), (0, u "java/lang/Object")] 2

/-- java/lang/Cloneable -/
def k9 : Class := { plain "java/lang/Cloneable" (some 0) with
  accessFlags := 1537
  interfaces := #[]
  cf := some (fileOf pool9 1 #[] #[] 1537 3 #[] #[])
  fields := #[]
  methods := #[]
  instanceTypes := #[]
  staticTypes := #[]
  resolved := Array.replicate 7 none
  statics := none }

def pool10 : Array CpInfo := pool [(1, .class_ 2), (0, u "java/io/Serializable"), (0, .class_ 4), (0, u "java/lang/Object")] 2

/-- java/io/Serializable -/
def k10 : Class := { plain "java/io/Serializable" (some 0) with
  accessFlags := 1537
  interfaces := #[]
  cf := some (fileOf pool10 1 #[] #[] 1537 3 #[] #[])
  fields := #[]
  methods := #[]
  instanceTypes := #[]
  staticTypes := #[]
  resolved := Array.replicate 7 none
  statics := none }

def pool11 : Array CpInfo := pool [(1, .methodref 2 3), (0, .class_ 4), (0, .nameAndType 5 6), (0, u "java/util/AbstractList"), (0, u "<init>"), (0, u "()V"), (0, .class_ 8), (0, u "java/lang/Object"), (0, .fieldref 10 11), (0, .class_ 12), (0, .nameAndType 13 14), (0, u "java/util/ArrayList"), (0, u "elementData"), (0, u "[Ljava/lang/Object;"), (2, u "EMPTY_ELEMENTDATA"), (21, .fieldref 10 40), (0, .nameAndType 41 14), (0, u "DEFAULTCAPACITY_EMPTY_ELEMENTDATA"), (5, u "()[Ljava/lang/Object;"), (0, .fieldref 10 49), (0, .nameAndType 50 51), (0, u "size"), (0, u "I"), (11, .fieldref 10 64), (0, .nameAndType 65 51), (0, u "modCount"), (3, .methodref 10 70), (0, .nameAndType 71 72), (0, u "grow"), (0, u "(I)[Ljava/lang/Object;"), (6, .methodref 80 81), (0, .class_ 82), (0, .nameAndType 83 84), (0, u "java/lang/Math"), (0, u "max"), (0, u "(II)I"), (11, u "(Ljava/lang/Object;)Z"), (32, .methodref 10 130), (0, .nameAndType 71 47), (0, .methodref 10 132), (0, .nameAndType 133 134), (0, u "add"), (0, u "(Ljava/lang/Object;[Ljava/lang/Object;I)V"), (13, .class_ 149), (0, u "java/util/List"), (16, u "iterator"), (0, u "()Ljava/util/Iterator;"), (94, .class_ 263), (0, u "java/util/ArrayList$ListItr"), (3, .class_ 268), (0, u "java/util/ArrayList$Itr"), (0, .methodref 267 270), (0, .nameAndType 5 271), (0, u "(Ljava/util/ArrayList;)V"), (4, .class_ 277), (0, u "java/util/ArrayList$SubList"), (12, .class_ 291), (0, u "java/util/ArrayList$ArrayListSpliterator"), (37, .class_ 330), (0, u "java/util/RandomAccess"), (0, .class_ 332), (0, u "java/lang/Cloneable"), (0, .class_ 334), (0, u "java/io/Serializable"), (0, u "serialVersionUID"), (0, u "J"), (3, u "DEFAULT_CAPACITY"), (159, .class_ 501), (0, u "java/util/ArrayList$SubList$2"), (0, .class_ 503), (0, u "java/util/ArrayList$SubList$1")] 5

def k11c0 : Code := { maxStack := 2, maxLocals := 1, code := jdk_38_method_2_code, exceptionTable := #[], attributes := #[] }
def k11m0 : Method := { name := "<init>", desc := "()V", sig := { parameters := [], returnType := none }, accessFlags := 1, code := some k11c0 }
def k11c1 : Code := { maxStack := 4, maxLocals := 4, code := jdk_38_method_6_code, exceptionTable := #[], attributes := #[] }
def k11m1 : Method := { name := "grow", desc := "(I)[Ljava/lang/Object;", sig := { parameters := [.int], returnType := some (.array (.object "java/lang/Object")) }, accessFlags := 2, code := some k11c1 }
def k11c2 : Code := { maxStack := 3, maxLocals := 1, code := jdk_38_method_7_code, exceptionTable := #[], attributes := #[] }
def k11m2 : Method := { name := "grow", desc := "()[Ljava/lang/Object;", sig := { parameters := [], returnType := some (.array (.object "java/lang/Object")) }, accessFlags := 2, code := some k11c2 }
def k11c3 : Code := { maxStack := 3, maxLocals := 4, code := jdk_38_method_24_code, exceptionTable := #[], attributes := #[] }
def k11m3 : Method := { name := "add", desc := "(Ljava/lang/Object;[Ljava/lang/Object;I)V", sig := { parameters := [(.object "java/lang/Object"), (.array (.object "java/lang/Object")), .int], returnType := none }, accessFlags := 2, code := some k11c3 }
def k11c4 : Code := { maxStack := 4, maxLocals := 2, code := jdk_38_method_25_code, exceptionTable := #[], attributes := #[] }
def k11m4 : Method := { name := "add", desc := "(Ljava/lang/Object;)Z", sig := { parameters := [(.object "java/lang/Object")], returnType := some .boolean }, accessFlags := 1, code := some k11c4 }
def k11c5 : Code := { maxStack := 3, maxLocals := 1, code := jdk_38_method_55_code, exceptionTable := #[], attributes := #[] }
def k11m5 : Method := { name := "iterator", desc := "()Ljava/util/Iterator;", sig := { parameters := [], returnType := some (.object "java/util/Iterator") }, accessFlags := 1, code := some k11c5 }
/-- java/util/ArrayList -/
def k11 : Class := { plain "java/util/ArrayList" (some 7) with
  accessFlags := 33
  interfaces := #[6, 8, 9, 10]
  cf := some (fileOf pool11 10 #[.nestMembers #[290, 276, 500, 502, 262, 267]] #[{ accessFlags := 1, nameIndex := 5, descriptorIndex := 6, attributes := #[] }, { accessFlags := 2, nameIndex := 71, descriptorIndex := 72, attributes := #[] }, { accessFlags := 2, nameIndex := 71, descriptorIndex := 47, attributes := #[] }, { accessFlags := 2, nameIndex := 133, descriptorIndex := 134, attributes := #[] }, { accessFlags := 1, nameIndex := 133, descriptorIndex := 96, attributes := #[] }, { accessFlags := 1, nameIndex := 166, descriptorIndex := 167, attributes := #[] }] 33 2 #[148, 329, 331, 333] #[{ accessFlags := 26, nameIndex := 335, descriptorIndex := 336, attributes := #[] }, { accessFlags := 26, nameIndex := 340, descriptorIndex := 51, attributes := #[] }, { accessFlags := 26, nameIndex := 17, descriptorIndex := 14, attributes := #[] }, { accessFlags := 26, nameIndex := 41, descriptorIndex := 14, attributes := #[] }, { accessFlags := 128, nameIndex := 13, descriptorIndex := 14, attributes := #[] }, { accessFlags := 2, nameIndex := 50, descriptorIndex := 51, attributes := #[] }])
  fields := #[{ name := "serialVersionUID", type := .long, accessFlags := 26, slot := 0, constantValue := 0 }, { name := "DEFAULT_CAPACITY", type := .int, accessFlags := 26, slot := 1, constantValue := 0 }, { name := "EMPTY_ELEMENTDATA", type := (.array (.object "java/lang/Object")), accessFlags := 26, slot := 2, constantValue := 0 }, { name := "DEFAULTCAPACITY_EMPTY_ELEMENTDATA", type := (.array (.object "java/lang/Object")), accessFlags := 26, slot := 3, constantValue := 0 }, { name := "elementData", type := (.array (.object "java/lang/Object")), accessFlags := 128, slot := 1, constantValue := 0 }, { name := "size", type := .int, accessFlags := 2, slot := 2, constantValue := 0 }]
  methods := #[k11m0, k11m1, k11m2, k11m3, k11m4, k11m5]
  instanceTypes := #[.int, (.array (.object "java/lang/Object")), .int]
  staticTypes := #[.long, .int, (.array (.object "java/lang/Object")), (.array (.object "java/lang/Object"))]
  resolved := Array.replicate 509 none
  statics := some 0 }

def pool12 : Array CpInfo := pool [(2, .class_ 4), (1, u "java/lang/Object"), (0, u "<init>"), (0, u "()V"), (4, .class_ 13), (1, u "java/util/List"), (1, u "()Z"), (1, .class_ 19), (1, u "java/lang/Integer"), (23, .class_ 44), (0, u "java/lang/StringBuilder"), (0, .string 46), (0, u "winner"), (0, .methodref 43 48), (0, .nameAndType 5 49), (0, u "(Ljava/lang/String;)V"), (0, .interfaceMethodref 11 51), (0, .nameAndType 52 53), (0, u "iterator"), (0, u "()Ljava/util/Iterator;"), (0, .interfaceMethodref 55 56), (0, .class_ 57), (0, .nameAndType 58 15), (0, u "java/util/Iterator"), (0, u "hasNext"), (0, .interfaceMethodref 55 60), (0, .nameAndType 61 62), (0, u "next"), (0, u "()Ljava/lang/Object;"), (0, .methodref 17 64), (0, .nameAndType 65 66), (0, u "intValue"), (0, u "()I"), (0, .methodref 43 68), (0, .nameAndType 69 70), (0, u "append"), (0, u "(C)Ljava/lang/StringBuilder;"), (0, .methodref 43 72), (0, .nameAndType 69 73), (0, u "(I)Ljava/lang/StringBuilder;"), (0, .methodref 43 75), (0, .nameAndType 76 77), (0, u "toString"), (0, u "()Ljava/lang/String;"), (0, .class_ 79), (0, u "com/example/guildtable/guildtable/table/Winners"), (7, u "line"), (0, u "(Ljava/util/List;)Ljava/lang/String;")] 3

def k12m0 : Method := { name := "<init>", desc := "()V", sig := { parameters := [], returnType := none }, accessFlags := 2, code := none }
def k12c1 : Code := { maxStack := 3, maxLocals := 4, code := prog_12_method_3_code, exceptionTable := #[], attributes := #[] }
def k12m1 : Method := { name := "line", desc := "(Ljava/util/List;)Ljava/lang/String;", sig := { parameters := [(.object "java/util/List")], returnType := some (.object "java/lang/String") }, accessFlags := 9, code := some k12c1 }
/-- com/example/guildtable/guildtable/table/Winners -/
def k12 : Class := { plain "com/example/guildtable/guildtable/table/Winners" (some 0) with
  accessFlags := 33
  interfaces := #[]
  cf := some (fileOf pool12 78 #[] #[{ accessFlags := 2, nameIndex := 5, descriptorIndex := 6, attributes := #[] }, { accessFlags := 9, nameIndex := 87, descriptorIndex := 88, attributes := #[] }] 33 2 #[] #[])
  fields := #[]
  methods := #[k12m0, k12m1]
  instanceTypes := #[]
  staticTypes := #[]
  resolved := Array.replicate 92 none
  statics := none }

def pool13 : Array CpInfo := pool [(1, .class_ 2), (0, u "java/lang/Appendable"), (0, .class_ 4), (0, u "java/lang/Object")] 9

/-- java/lang/Appendable -/
def k13 : Class := { plain "java/lang/Appendable" (some 0) with
  accessFlags := 1537
  interfaces := #[]
  cf := some (fileOf pool13 1 #[] #[] 1537 3 #[] #[])
  fields := #[]
  methods := #[]
  instanceTypes := #[]
  staticTypes := #[]
  resolved := Array.replicate 14 none
  statics := none }

def pool14 : Array CpInfo := pool [(2, .class_ 4), (1, u "java/lang/CharSequence"), (42, .class_ 48), (0, u "java/lang/CharSequence$1CodePointIterator"), (10, .class_ 60), (0, u "java/lang/CharSequence$1CharIterator"), (5, .class_ 67), (0, u "java/lang/Object")] 63

/-- java/lang/CharSequence -/
def k14 : Class := { plain "java/lang/CharSequence" (some 0) with
  accessFlags := 1537
  interfaces := #[]
  cf := some (fileOf pool14 2 #[.nestMembers #[47, 59]] #[] 1537 66 #[] #[])
  fields := #[]
  methods := #[]
  instanceTypes := #[]
  staticTypes := #[]
  resolved := Array.replicate 131 none
  statics := none }

def pool15 : Array CpInfo := pool [(1, .class_ 2), (0, u "java/lang/String"), (0, .methodref 4 5), (0, .class_ 6), (0, .nameAndType 7 8), (0, u "java/lang/Object"), (0, u "<init>"), (0, u "()V"), (1, .class_ 12), (1, u "java/lang/AbstractStringBuilder"), (0, u "EMPTYVALUE"), (0, u "[B"), (0, .fieldref 10 16), (0, .nameAndType 17 14), (0, u "value"), (0, .fieldref 1 19), (0, .nameAndType 20 21), (0, u "COMPACT_STRINGS"), (0, u "Z"), (0, .fieldref 10 23), (0, .nameAndType 24 25), (0, u "coder"), (0, u "B"), (6, .methodref 1 33), (0, .nameAndType 34 35), (0, u "length"), (0, u "()I"), (0, .class_ 37), (0, u "java/lang/Integer"), (0, .integer 2147483631), (0, .integer 2147483647), (0, .methodref 1 41), (0, .nameAndType 24 42), (0, u "()B"), (0, .methodref 10 44), (0, .nameAndType 45 46), (0, u "append"), (0, u "(Ljava/lang/String;)Ljava/lang/AbstractStringBuilder;"), (1, .class_ 49), (0, u "java/lang/CharSequence"), (19, u "(Ljava/lang/String;)V"), (5, u "maybeLatin1"), (3, .fieldref 10 80), (0, .nameAndType 81 82), (0, u "count"), (0, u "I"), (0, .methodref 10 84), (0, .nameAndType 85 86), (0, u "isLatin1"), (0, u "()Z"), (1, .class_ 90), (1, u "java/lang/StringLatin1"), (9, .methodref 10 101), (0, .nameAndType 102 103), (0, u "ensureCapacityInternal"), (0, u "(I)V"), (0, .methodref 10 105), (0, .nameAndType 106 107), (0, u "newCapacity"), (0, u "(I)I"), (0, .methodref 109 110), (0, .class_ 111), (0, .nameAndType 112 113), (0, u "java/util/Arrays"), (0, u "copyOf"), (0, u "([BI)[B"), (0, .methodref 115 116), (0, .class_ 117), (0, .nameAndType 118 119), (0, u "jdk/internal/util/ArraysSupport"), (0, u "newLength"), (0, u "(III)I"), (68, u "getChars"), (2, .methodref 88 192), (0, .nameAndType 193 194), (0, u "canEncode"), (0, u "(C)Z"), (13, .methodref 10 209), (0, .nameAndType 210 211), (0, u "putStringAt"), (0, u "(ILjava/lang/String;)V"), (5, u "inflateIfNeededFor"), (2, .nameAndType 221 222), (0, u "getBytes"), (0, u "([BIB)V"), (22, .methodref 36 246), (0, .nameAndType 247 107), (0, u "stringSize"), (0, .methodref 36 249), (0, .nameAndType 188 250), (0, u "(II[B)I"), (41, u "(C)Ljava/lang/AbstractStringBuilder;"), (104, .methodref 10 398), (0, .nameAndType 217 69), (0, .methodref 1 220), (3, u "()[B"), (40, .class_ 445), (0, u "java/lang/Appendable"), (65, u "(I)Ljava/lang/AbstractStringBuilder;"), (40, u "getValue")] 56

def k15m0 : Method := { name := "<init>", desc := "()V", sig := { parameters := [], returnType := none }, accessFlags := 0, code := none }
def k15c1 : Code := { maxStack := 2, maxLocals := 5, code := jdk_68_method_3_code, exceptionTable := #[], attributes := #[] }
def k15m1 : Method := { name := "<init>", desc := "(Ljava/lang/String;)V", sig := { parameters := [(.object "java/lang/String")], returnType := none }, accessFlags := 0, code := some k15c1 }
def k15c2 : Code := { maxStack := 1, maxLocals := 1, code := jdk_68_method_6_code, exceptionTable := #[], attributes := #[] }
def k15m2 : Method := { name := "length", desc := "()I", sig := { parameters := [], returnType := some .int }, accessFlags := 1, code := some k15c2 }
def k15c3 : Code := { maxStack := 4, maxLocals := 3, code := jdk_68_method_9_code, exceptionTable := #[], attributes := #[] }
def k15m3 : Method := { name := "ensureCapacityInternal", desc := "(I)V", sig := { parameters := [.int], returnType := none }, accessFlags := 2, code := some k15c3 }
def k15c4 : Code := { maxStack := 5, maxLocals := 6, code := jdk_68_method_10_code, exceptionTable := #[], attributes := #[] }
def k15m4 : Method := { name := "newCapacity", desc := "(I)I", sig := { parameters := [.int], returnType := some .int }, accessFlags := 2, code := some k15c4 }
def k15c5 : Code := { maxStack := 3, maxLocals := 3, code := jdk_68_method_22_code, exceptionTable := #[], attributes := #[] }
def k15m5 : Method := { name := "append", desc := "(Ljava/lang/String;)Ljava/lang/AbstractStringBuilder;", sig := { parameters := [(.object "java/lang/String")], returnType := some (.object "java/lang/AbstractStringBuilder") }, accessFlags := 1, code := some k15c5 }
def k15c6 : Code := { maxStack := 5, maxLocals := 2, code := jdk_68_method_31_code, exceptionTable := #[], attributes := #[] }
def k15m6 : Method := { name := "append", desc := "(C)Ljava/lang/AbstractStringBuilder;", sig := { parameters := [.char], returnType := some (.object "java/lang/AbstractStringBuilder") }, accessFlags := 1, code := some k15c6 }
def k15c7 : Code := { maxStack := 4, maxLocals := 4, code := jdk_68_method_32_code, exceptionTable := #[], attributes := #[] }
def k15m7 : Method := { name := "append", desc := "(I)Ljava/lang/AbstractStringBuilder;", sig := { parameters := [.int], returnType := some (.object "java/lang/AbstractStringBuilder") }, accessFlags := 1, code := some k15c7 }
def k15c8 : Code := { maxStack := 1, maxLocals := 1, code := jdk_68_method_64_code, exceptionTable := #[], attributes := #[] }
def k15m8 : Method := { name := "getValue", desc := "()[B", sig := { parameters := [], returnType := some (.array .byte) }, accessFlags := 16, code := some k15c8 }
def k15c9 : Code := { maxStack := 1, maxLocals := 1, code := jdk_68_method_68_code, exceptionTable := #[], attributes := #[] }
def k15m9 : Method := { name := "isLatin1", desc := "()Z", sig := { parameters := [], returnType := some .boolean }, accessFlags := 16, code := some k15c9 }
def k15c10 : Code := { maxStack := 2, maxLocals := 2, code := jdk_68_method_71_code, exceptionTable := #[], attributes := #[] }
def k15m10 : Method := { name := "inflateIfNeededFor", desc := "(Ljava/lang/String;)V", sig := { parameters := [(.object "java/lang/String")], returnType := none }, accessFlags := 2, code := some k15c10 }
def k15c11 : Code := { maxStack := 4, maxLocals := 3, code := jdk_68_method_73_code, exceptionTable := #[], attributes := #[] }
def k15m11 : Method := { name := "putStringAt", desc := "(ILjava/lang/String;)V", sig := { parameters := [.int, (.object "java/lang/String")], returnType := none }, accessFlags := 2, code := some k15c11 }
/-- java/lang/AbstractStringBuilder -/
def k15 : Class := { plain "java/lang/AbstractStringBuilder" (some 0) with
  accessFlags := 1056
  interfaces := #[13, 14]
  cf := some (fileOf pool15 10 #[] #[{ accessFlags := 0, nameIndex := 7, descriptorIndex := 8, attributes := #[] }, { accessFlags := 0, nameIndex := 7, descriptorIndex := 69, attributes := #[] }, { accessFlags := 1, nameIndex := 34, descriptorIndex := 35, attributes := #[] }, { accessFlags := 2, nameIndex := 102, descriptorIndex := 103, attributes := #[] }, { accessFlags := 2, nameIndex := 106, descriptorIndex := 107, attributes := #[] }, { accessFlags := 1, nameIndex := 45, descriptorIndex := 46, attributes := #[] }, { accessFlags := 1, nameIndex := 45, descriptorIndex := 292, attributes := #[] }, { accessFlags := 1, nameIndex := 45, descriptorIndex := 511, attributes := #[] }, { accessFlags := 16, nameIndex := 552, descriptorIndex := 403, attributes := #[] }, { accessFlags := 16, nameIndex := 85, descriptorIndex := 86, attributes := #[] }, { accessFlags := 2, nameIndex := 217, descriptorIndex := 69, attributes := #[] }, { accessFlags := 2, nameIndex := 210, descriptorIndex := 211, attributes := #[] }] 1056 4 #[444, 48] #[{ accessFlags := 0, nameIndex := 17, descriptorIndex := 14, attributes := #[] }, { accessFlags := 0, nameIndex := 24, descriptorIndex := 25, attributes := #[] }, { accessFlags := 0, nameIndex := 75, descriptorIndex := 21, attributes := #[] }, { accessFlags := 0, nameIndex := 81, descriptorIndex := 82, attributes := #[] }, { accessFlags := 26, nameIndex := 13, descriptorIndex := 14, attributes := #[] }])
  fields := #[{ name := "value", type := (.array .byte), accessFlags := 0, slot := 0, constantValue := 0 }, { name := "coder", type := .byte, accessFlags := 0, slot := 1, constantValue := 0 }, { name := "maybeLatin1", type := .boolean, accessFlags := 0, slot := 2, constantValue := 0 }, { name := "count", type := .int, accessFlags := 0, slot := 3, constantValue := 0 }, { name := "EMPTYVALUE", type := (.array .byte), accessFlags := 26, slot := 0, constantValue := 0 }]
  methods := #[k15m0, k15m1, k15m2, k15m3, k15m4, k15m5, k15m6, k15m7, k15m8, k15m9, k15m10, k15m11]
  instanceTypes := #[(.array .byte), .byte, .boolean, .int]
  staticTypes := #[(.array .byte)]
  resolved := Array.replicate 609 none
  statics := none }

def pool16 : Array CpInfo := pool [(1, .class_ 2), (0, u "java/lang/Comparable"), (0, .class_ 4), (0, u "java/lang/Object")] 7

/-- java/lang/Comparable -/
def k16 : Class := { plain "java/lang/Comparable" (some 0) with
  accessFlags := 1537
  interfaces := #[]
  cf := some (fileOf pool16 1 #[] #[] 1537 3 #[] #[])
  fields := #[]
  methods := #[]
  instanceTypes := #[]
  staticTypes := #[]
  resolved := Array.replicate 12 none
  statics := none }

def pool17 : Array CpInfo := pool [(2, .class_ 4), (1, u "java/lang/AbstractStringBuilder"), (0, u "<init>"), (1, .methodref 2 8), (0, .nameAndType 5 9), (0, u "(Ljava/lang/String;)V"), (8, .class_ 20), (1, u "java/lang/String"), (2, .methodref 24 25), (0, .class_ 26), (0, .nameAndType 27 28), (0, u "java/lang/StringBuilder"), (0, u "append"), (0, u "(Ljava/lang/String;)Ljava/lang/StringBuilder;"), (0, .methodref 2 30), (0, .nameAndType 27 31), (0, u "(Ljava/lang/String;)Ljava/lang/AbstractStringBuilder;"), (18, .methodref 2 51), (0, .nameAndType 27 52), (0, u "(C)Ljava/lang/AbstractStringBuilder;"), (0, .methodref 2 54), (0, .nameAndType 27 55), (0, u "(I)Ljava/lang/AbstractStringBuilder;"), (81, .methodref 18 138), (0, .nameAndType 5 139), (0, u "(Ljava/lang/StringBuilder;)V"), (5, u "()V"), (10, u "()I"), (111, u "(I)Ljava/lang/StringBuilder;"), (17, u "(C)Ljava/lang/StringBuilder;"), (56, .methodref 2 344), (0, .nameAndType 345 156), (0, u "length"), (3, .class_ 350), (0, u "java/lang/Appendable"), (0, .class_ 352), (0, u "java/io/Serializable"), (0, .class_ 354), (0, u "java/lang/Comparable"), (0, .class_ 356), (0, u "java/lang/CharSequence"), (0, u "serialVersionUID"), (0, u "J"), (40, u "toString"), (0, u "()Ljava/lang/String;")] 21

def k17m0 : Method := { name := "<init>", desc := "()V", sig := { parameters := [], returnType := none }, accessFlags := 1, code := none }
def k17c1 : Code := { maxStack := 2, maxLocals := 2, code := jdk_67_method_3_code, exceptionTable := #[], attributes := #[] }
def k17m1 : Method := { name := "<init>", desc := "(Ljava/lang/String;)V", sig := { parameters := [(.object "java/lang/String")], returnType := none }, accessFlags := 1, code := some k17c1 }
def k17c2 : Code := { maxStack := 2, maxLocals := 2, code := jdk_67_method_7_code, exceptionTable := #[], attributes := #[] }
def k17m2 : Method := { name := "append", desc := "(Ljava/lang/String;)Ljava/lang/StringBuilder;", sig := { parameters := [(.object "java/lang/String")], returnType := some (.object "java/lang/StringBuilder") }, accessFlags := 1, code := some k17c2 }
def k17c3 : Code := { maxStack := 2, maxLocals := 2, code := jdk_67_method_14_code, exceptionTable := #[], attributes := #[] }
def k17m3 : Method := { name := "append", desc := "(C)Ljava/lang/StringBuilder;", sig := { parameters := [.char], returnType := some (.object "java/lang/StringBuilder") }, accessFlags := 1, code := some k17c3 }
def k17c4 : Code := { maxStack := 2, maxLocals := 2, code := jdk_67_method_15_code, exceptionTable := #[], attributes := #[] }
def k17m4 : Method := { name := "append", desc := "(I)Ljava/lang/StringBuilder;", sig := { parameters := [.int], returnType := some (.object "java/lang/StringBuilder") }, accessFlags := 1, code := some k17c4 }
def k17c5 : Code := { maxStack := 3, maxLocals := 1, code := jdk_67_method_42_code, exceptionTable := #[], attributes := #[] }
def k17m5 : Method := { name := "toString", desc := "()Ljava/lang/String;", sig := { parameters := [], returnType := some (.object "java/lang/String") }, accessFlags := 1, code := some k17c5 }
def k17c6 : Code := { maxStack := 2, maxLocals := 2, code := jdk_67_method_80_code, exceptionTable := #[], attributes := #[] }
def k17m6 : Method := { name := "append", desc := "(Ljava/lang/String;)Ljava/lang/AbstractStringBuilder;", sig := { parameters := [(.object "java/lang/String")], returnType := some (.object "java/lang/AbstractStringBuilder") }, accessFlags := 4161, code := some k17c6 }
def k17c7 : Code := { maxStack := 1, maxLocals := 1, code := jdk_67_method_93_code, exceptionTable := #[], attributes := #[] }
def k17m7 : Method := { name := "length", desc := "()I", sig := { parameters := [], returnType := some .int }, accessFlags := 4161, code := some k17c7 }
/-- java/lang/StringBuilder -/
def k17 : Class := { plain "java/lang/StringBuilder" (some 15) with
  accessFlags := 49
  interfaces := #[13, 10, 16, 14]
  cf := some (fileOf pool17 24 #[] #[{ accessFlags := 1, nameIndex := 5, descriptorIndex := 145, attributes := #[] }, { accessFlags := 1, nameIndex := 5, descriptorIndex := 9, attributes := #[] }, { accessFlags := 1, nameIndex := 27, descriptorIndex := 28, attributes := #[] }, { accessFlags := 1, nameIndex := 27, descriptorIndex := 286, attributes := #[] }, { accessFlags := 1, nameIndex := 27, descriptorIndex := 268, attributes := #[] }, { accessFlags := 1, nameIndex := 399, descriptorIndex := 400, attributes := #[] }, { accessFlags := 4161, nameIndex := 27, descriptorIndex := 31, attributes := #[] }, { accessFlags := 4161, nameIndex := 345, descriptorIndex := 156, attributes := #[] }] 49 2 #[349, 351, 353, 355] #[{ accessFlags := 24, nameIndex := 357, descriptorIndex := 358, attributes := #[] }])
  fields := #[{ name := "serialVersionUID", type := .long, accessFlags := 24, slot := 0, constantValue := 0 }]
  methods := #[k17m0, k17m1, k17m2, k17m3, k17m4, k17m5, k17m6, k17m7]
  instanceTypes := #[(.array .byte), .byte, .boolean, .int]
  staticTypes := #[.long]
  resolved := Array.replicate 422 none
  statics := none }

def pool18 : Array CpInfo := pool [(1, .class_ 2), (0, u "java/lang/constant/Constable"), (0, .class_ 4), (0, u "java/lang/Object")] 6

/-- java/lang/constant/Constable -/
def k18 : Class := { plain "java/lang/constant/Constable" (some 0) with
  accessFlags := 1537
  interfaces := #[]
  cf := some (fileOf pool18 1 #[] #[] 1537 3 #[] #[])
  fields := #[]
  methods := #[]
  instanceTypes := #[]
  staticTypes := #[]
  resolved := Array.replicate 11 none
  statics := none }

def pool19 : Array CpInfo := pool [(1, .class_ 2), (0, u "java/lang/constant/ConstantDesc"), (0, .class_ 4), (0, u "java/lang/Object")] 32

/-- java/lang/constant/ConstantDesc -/
def k19 : Class := { plain "java/lang/constant/ConstantDesc" (some 0) with
  accessFlags := 1537
  interfaces := #[]
  cf := some (fileOf pool19 1 #[] #[] 1537 3 #[] #[])
  fields := #[]
  methods := #[]
  instanceTypes := #[]
  staticTypes := #[]
  resolved := Array.replicate 37 none
  statics := none }

def pool20 : Array CpInfo := pool [(1, .methodref 2 3), (0, .class_ 4), (0, .nameAndType 5 6), (0, u "java/lang/Object"), (0, u "<init>"), (0, u "()V"), (2, .fieldref 10 11), (0, .class_ 12), (0, .nameAndType 13 14), (0, u "java/lang/String"), (0, u "value"), (0, u "[B"), (0, .fieldref 10 16), (0, .nameAndType 17 18), (0, u "coder"), (0, u "B"), (2, u "hash"), (0, u "I"), (2, u "hashIsZero"), (0, u "Z"), (11, .fieldref 10 39), (0, .nameAndType 40 26), (0, u "COMPACT_STRINGS"), (13, .methodref 55 56), (0, .class_ 57), (0, .nameAndType 58 59), (0, u "java/util/Arrays"), (0, u "copyOfRange"), (0, u "([BII)[B"), (47, .class_ 109), (1, u "java/lang/StringLatin1"), (32, u "()Z"), (50, .class_ 195), (1, u "java/lang/System"), (16, .methodref 193 213), (0, .nameAndType 214 215), (0, u "arraycopy"), (0, u "(Ljava/lang/Object;ILjava/lang/Object;II)V"), (118, u "()I"), (0, .methodref 10 336), (0, .nameAndType 17 337), (0, u "()B"), (2, u "()[B"), (22, u "([BI)C"), (27, u "(II)V"), (35, u "(I)C"), (61, .methodref 10 490), (0, .nameAndType 5 491), (0, u "(Ljava/lang/AbstractStringBuilder;Ljava/lang/Void;)V"), (0, .methodref 10 493), (0, .nameAndType 494 142), (0, u "isLatin1"), (0, .methodref 107 496), (0, .nameAndType 497 363), (0, u "charAt"), (3, u "checkIndex"), (4, .nameAndType 507 334), (0, u "length"), (24, u "getBytes"), (16, .methodref 550 506), (0, .class_ 551), (0, u "java/lang/AbstractStringBuilder"), (0, .methodref 550 553), (0, .nameAndType 554 340), (0, u "getValue"), (20, .class_ 576), (0, u "java/lang/CharSequence"), (22, u "CASE_INSENSITIVE_ORDER"), (0, u "Ljava/util/Comparator;"), (220, u "([BIB)V"), (225, .methodref 550 493), (5, .fieldref 1054 1055), (0, .class_ 1056), (0, .nameAndType 1057 1058), (0, u "jdk/internal/util/Preconditions"), (0, u "SIOOBE_FORMATTER"), (0, u "Ljava/util/function/BiFunction;"), (0, .methodref 1054 1060), (0, .nameAndType 501 1061), (0, u "(IILjava/util/function/BiFunction;)I"), (39, u "serialPersistentFields"), (0, u "[Ljava/io/ObjectStreamField;"), (0, .class_ 1104), (0, u "java/lang/String$CaseInsensitiveComparator"), (1, .class_ 1107), (0, u "java/io/Serializable"), (0, .class_ 1109), (0, u "java/lang/Comparable"), (0, .class_ 1111), (0, u "java/lang/constant/Constable"), (0, .class_ 1113), (0, u "java/lang/constant/ConstantDesc"), (2, u "serialVersionUID"), (0, u "J"), (3, u "REPL"), (0, u "C"), (2, u "LATIN1"), (1, u "UTF16"), (105, u "(Ljava/lang/StringBuilder;)V")] 217

def k20m0 : Method := { name := "<init>", desc := "()V", sig := { parameters := [], returnType := none }, accessFlags := 1, code := none }
def k20c1 : Code := { maxStack := 3, maxLocals := 2, code := jdk_42_method_53_code, exceptionTable := #[], attributes := #[] }
def k20m1 : Method := { name := "<init>", desc := "(Ljava/lang/StringBuilder;)V", sig := { parameters := [(.object "java/lang/StringBuilder")], returnType := none }, accessFlags := 1, code := some k20c1 }
def k20c2 : Code := { maxStack := 2, maxLocals := 1, code := jdk_42_method_54_code, exceptionTable := #[], attributes := #[] }
def k20m2 : Method := { name := "length", desc := "()I", sig := { parameters := [], returnType := some .int }, accessFlags := 1, code := some k20c2 }
def k20c3 : Code := { maxStack := 2, maxLocals := 2, code := jdk_42_method_56_code, exceptionTable := #[], attributes := #[] }
def k20m3 : Method := { name := "charAt", desc := "(I)C", sig := { parameters := [.int], returnType := some .char }, accessFlags := 1, code := some k20c3 }
def k20c4 : Code := { maxStack := 5, maxLocals := 4, code := jdk_42_method_147_code, exceptionTable := #[], attributes := #[] }
def k20m4 : Method := { name := "getBytes", desc := "([BIB)V", sig := { parameters := [(.array .byte), .int, .byte], returnType := none }, accessFlags := 0, code := some k20c4 }
def k20c5 : Code := { maxStack := 5, maxLocals := 5, code := jdk_42_method_150_code, exceptionTable := #[], attributes := #[] }
def k20m5 : Method := { name := "<init>", desc := "(Ljava/lang/AbstractStringBuilder;Ljava/lang/Void;)V", sig := { parameters := [(.object "java/lang/AbstractStringBuilder"), (.object "java/lang/Void")], returnType := none }, accessFlags := 0, code := some k20c5 }
def k20c6 : Code := { maxStack := 1, maxLocals := 1, code := jdk_42_method_152_code, exceptionTable := #[], attributes := #[] }
def k20m6 : Method := { name := "coder", desc := "()B", sig := { parameters := [], returnType := some .byte }, accessFlags := 0, code := some k20c6 }
def k20c7 : Code := { maxStack := 1, maxLocals := 1, code := jdk_42_method_154_code, exceptionTable := #[], attributes := #[] }
def k20m7 : Method := { name := "isLatin1", desc := "()Z", sig := { parameters := [], returnType := some .boolean }, accessFlags := 0, code := some k20c7 }
def k20c8 : Code := { maxStack := 3, maxLocals := 2, code := jdk_42_method_155_code, exceptionTable := #[], attributes := #[] }
def k20m8 : Method := { name := "checkIndex", desc := "(II)V", sig := { parameters := [.int, .int], returnType := none }, accessFlags := 8, code := some k20c8 }
/-- java/lang/String -/
def k20 : Class := { plain "java/lang/String" (some 0) with
  accessFlags := 49
  interfaces := #[10, 16, 14, 18, 19]
  cf := some (fileOf pool20 10 #[.nestMembers #[1103]] #[{ accessFlags := 1, nameIndex := 5, descriptorIndex := 6, attributes := #[] }, { accessFlags := 1, nameIndex := 5, descriptorIndex := 1233, attributes := #[] }, { accessFlags := 1, nameIndex := 507, descriptorIndex := 334, attributes := #[] }, { accessFlags := 1, nameIndex := 497, descriptorIndex := 427, attributes := #[] }, { accessFlags := 0, nameIndex := 532, descriptorIndex := 821, attributes := #[] }, { accessFlags := 0, nameIndex := 5, descriptorIndex := 491, attributes := #[] }, { accessFlags := 0, nameIndex := 17, descriptorIndex := 337, attributes := #[] }, { accessFlags := 0, nameIndex := 494, descriptorIndex := 142, attributes := #[] }, { accessFlags := 8, nameIndex := 501, descriptorIndex := 391, attributes := #[] }] 49 2 #[1106, 1108, 575, 1110, 1112] #[{ accessFlags := 18, nameIndex := 13, descriptorIndex := 14, attributes := #[] }, { accessFlags := 18, nameIndex := 17, descriptorIndex := 18, attributes := #[] }, { accessFlags := 2, nameIndex := 21, descriptorIndex := 22, attributes := #[] }, { accessFlags := 2, nameIndex := 25, descriptorIndex := 26, attributes := #[] }, { accessFlags := 26, nameIndex := 1116, descriptorIndex := 1117, attributes := #[] }, { accessFlags := 24, nameIndex := 40, descriptorIndex := 26, attributes := #[] }, { accessFlags := 26, nameIndex := 1101, descriptorIndex := 1102, attributes := #[] }, { accessFlags := 26, nameIndex := 1121, descriptorIndex := 1122, attributes := #[] }, { accessFlags := 25, nameIndex := 599, descriptorIndex := 600, attributes := #[] }, { accessFlags := 24, nameIndex := 1125, descriptorIndex := 18, attributes := #[] }, { accessFlags := 24, nameIndex := 1127, descriptorIndex := 18, attributes := #[] }])
  fields := #[{ name := "value", type := (.array .byte), accessFlags := 18, slot := 0, constantValue := 0 }, { name := "coder", type := .byte, accessFlags := 18, slot := 1, constantValue := 0 }, { name := "hash", type := .int, accessFlags := 2, slot := 2, constantValue := 0 }, { name := "hashIsZero", type := .boolean, accessFlags := 2, slot := 3, constantValue := 0 }, { name := "serialVersionUID", type := .long, accessFlags := 26, slot := 0, constantValue := 0 }, { name := "COMPACT_STRINGS", type := .boolean, accessFlags := 24, slot := 1, constantValue := 0 }, { name := "serialPersistentFields", type := (.array (.object "java/io/ObjectStreamField")), accessFlags := 26, slot := 2, constantValue := 0 }, { name := "REPL", type := .char, accessFlags := 26, slot := 3, constantValue := 0 }, { name := "CASE_INSENSITIVE_ORDER", type := (.object "java/util/Comparator"), accessFlags := 25, slot := 4, constantValue := 0 }, { name := "LATIN1", type := .byte, accessFlags := 24, slot := 5, constantValue := 0 }, { name := "UTF16", type := .byte, accessFlags := 24, slot := 6, constantValue := 0 }]
  methods := #[k20m0, k20m1, k20m2, k20m3, k20m4, k20m5, k20m6, k20m7, k20m8]
  instanceTypes := #[(.array .byte), .byte, .int, .boolean]
  staticTypes := #[.long, .boolean, (.array (.object "java/io/ObjectStreamField")), .char, (.object "java/util/Comparator"), .byte, .byte]
  resolved := Array.replicate 1451 none
  statics := some 1 }

def pool21 : Array CpInfo := pool [(2, .class_ 4), (1, u "java/lang/Object"), (0, u "<init>"), (0, u "()V"), (1, .class_ 10), (1, u "java/lang/System"), (0, u "allowSecurityManager"), (0, u "I"), (16, u "cons"), (0, u "Ljava/io/Console;"), (77, .class_ 110), (1, u "java/lang/System$CallersHolder"), (43, u "initialErrStream"), (0, u "Ljava/io/PrintStream;"), (19, u "security"), (0, u "Ljava/lang/SecurityManager;"), (31, .class_ 209), (0, u "java/lang/System$1"), (7, u "props"), (0, u "Ljava/util/Properties;"), (2, u "lineSeparator"), (0, u "Ljava/lang/String;"), (96, .class_ 321), (1, u "java/lang/System$LoggerFinder"), (5, .class_ 328), (0, u "java/lang/System$Logger"), (67, u "err"), (2, u "out"), (91, u "notSupportedJnuEncoding"), (15, u "in"), (17, u "initialIn"), (0, u "Ljava/io/InputStream;"), (35, u "bootLayer"), (0, u "Ljava/lang/ModuleLayer;"), (99, .class_ 664), (0, u "java/lang/System$2"), (9, u "NEVER"), (2, u "MAYBE"), (49, u "arraycopy"), (0, u "(Ljava/lang/Object;ILjava/lang/Object;II)V"), (72, .class_ 802), (0, u "java/lang/System$Logger$Level")] 31

def k21m0 : Method := { name := "<init>", desc := "()V", sig := { parameters := [], returnType := none }, accessFlags := 2, code := none }
def k21m1 : Method := { name := "arraycopy", desc := "(Ljava/lang/Object;ILjava/lang/Object;II)V", sig := { parameters := [(.object "java/lang/Object"), .int, (.object "java/lang/Object"), .int, .int], returnType := none }, accessFlags := 265, code := none }
/-- java/lang/System -/
def k21 : Class := { plain "java/lang/System" (some 0) with
  accessFlags := 49
  interfaces := #[]
  cf := some (fileOf pool21 8 #[.nestMembers #[319, 327, 801, 108, 663, 208]] #[{ accessFlags := 2, nameIndex := 5, descriptorIndex := 6, attributes := #[] }, { accessFlags := 265, nameIndex := 727, descriptorIndex := 728, attributes := #[] }] 49 2 #[] #[{ accessFlags := 25, nameIndex := 507, descriptorIndex := 526, attributes := #[] }, { accessFlags := 25, nameIndex := 399, descriptorIndex := 155, attributes := #[] }, { accessFlags := 25, nameIndex := 396, descriptorIndex := 155, attributes := #[] }, { accessFlags := 10, nameIndex := 525, descriptorIndex := 526, attributes := #[] }, { accessFlags := 26, nameIndex := 674, descriptorIndex := 12, attributes := #[] }, { accessFlags := 26, nameIndex := 677, descriptorIndex := 12, attributes := #[] }, { accessFlags := 10, nameIndex := 11, descriptorIndex := 12, attributes := #[] }, { accessFlags := 74, nameIndex := 175, descriptorIndex := 176, attributes := #[] }, { accessFlags := 10, nameIndex := 491, descriptorIndex := 222, attributes := #[] }, { accessFlags := 74, nameIndex := 29, descriptorIndex := 30, attributes := #[] }, { accessFlags := 74, nameIndex := 154, descriptorIndex := 155, attributes := #[] }, { accessFlags := 10, nameIndex := 217, descriptorIndex := 218, attributes := #[] }, { accessFlags := 10, nameIndex := 221, descriptorIndex := 222, attributes := #[] }, { accessFlags := 8, nameIndex := 562, descriptorIndex := 563, attributes := #[] }])
  fields := #[{ name := "in", type := (.object "java/io/InputStream"), accessFlags := 25, slot := 0, constantValue := 0 }, { name := "out", type := (.object "java/io/PrintStream"), accessFlags := 25, slot := 1, constantValue := 0 }, { name := "err", type := (.object "java/io/PrintStream"), accessFlags := 25, slot := 2, constantValue := 0 }, { name := "initialIn", type := (.object "java/io/InputStream"), accessFlags := 10, slot := 3, constantValue := 0 }, { name := "NEVER", type := .int, accessFlags := 26, slot := 4, constantValue := 0 }, { name := "MAYBE", type := .int, accessFlags := 26, slot := 5, constantValue := 0 }, { name := "allowSecurityManager", type := .int, accessFlags := 10, slot := 6, constantValue := 0 }, { name := "security", type := (.object "java/lang/SecurityManager"), accessFlags := 74, slot := 7, constantValue := 0 }, { name := "notSupportedJnuEncoding", type := (.object "java/lang/String"), accessFlags := 10, slot := 8, constantValue := 0 }, { name := "cons", type := (.object "java/io/Console"), accessFlags := 74, slot := 9, constantValue := 0 }, { name := "initialErrStream", type := (.object "java/io/PrintStream"), accessFlags := 74, slot := 10, constantValue := 0 }, { name := "props", type := (.object "java/util/Properties"), accessFlags := 10, slot := 11, constantValue := 0 }, { name := "lineSeparator", type := (.object "java/lang/String"), accessFlags := 10, slot := 12, constantValue := 0 }, { name := "bootLayer", type := (.object "java/lang/ModuleLayer"), accessFlags := 8, slot := 13, constantValue := 0 }]
  methods := #[k21m0, k21m1]
  instanceTypes := #[]
  staticTypes := #[(.object "java/io/InputStream"), (.object "java/io/PrintStream"), (.object "java/io/PrintStream"), (.object "java/io/InputStream"), .int, .int, .int, (.object "java/lang/SecurityManager"), (.object "java/lang/String"), (.object "java/io/Console"), (.object "java/io/PrintStream"), (.object "java/util/Properties"), (.object "java/lang/String"), (.object "java/lang/ModuleLayer")]
  resolved := Array.replicate 834 none
  statics := none }

def pool22 : Array CpInfo := pool [(16, .class_ 18), (1, u "java/util/Iterator"), (0, u "hasNext"), (0, u "()Z"), (2, u "next"), (0, u "()Ljava/lang/Object;"), (6, .class_ 32), (0, u "java/lang/Object")] 20

def k22m0 : Method := { name := "hasNext", desc := "()Z", sig := { parameters := [], returnType := some .boolean }, accessFlags := 1025, code := none }
def k22m1 : Method := { name := "next", desc := "()Ljava/lang/Object;", sig := { parameters := [], returnType := some (.object "java/lang/Object") }, accessFlags := 1025, code := none }
/-- java/util/Iterator -/
def k22 : Class := { plain "java/util/Iterator" (some 0) with
  accessFlags := 1537
  interfaces := #[]
  cf := some (fileOf pool22 16 #[] #[{ accessFlags := 1025, nameIndex := 19, descriptorIndex := 20, attributes := #[] }, { accessFlags := 1025, nameIndex := 23, descriptorIndex := 24, attributes := #[] }] 1537 31 #[] #[])
  fields := #[]
  methods := #[k22m0, k22m1]
  instanceTypes := #[]
  staticTypes := #[]
  resolved := Array.replicate 53 none
  statics := none }

def pool23 : Array CpInfo := pool [(1, .fieldref 2 3), (0, .class_ 4), (0, .nameAndType 5 6), (0, u "java/util/ArrayList$Itr"), (0, u "this$0"), (0, u "Ljava/util/ArrayList;"), (0, .methodref 8 9), (0, .class_ 10), (0, .nameAndType 11 12), (0, u "java/lang/Object"), (0, u "<init>"), (0, u "()V"), (0, .fieldref 2 14), (0, .nameAndType 15 16), (0, u "lastRet"), (0, u "I"), (0, .fieldref 18 19), (0, .class_ 20), (0, .nameAndType 21 16), (0, u "java/util/ArrayList"), (0, u "modCount"), (0, .fieldref 2 23), (0, .nameAndType 24 16), (0, u "expectedModCount"), (0, .fieldref 2 26), (0, .nameAndType 27 16), (0, u "cursor"), (0, .fieldref 18 29), (0, .nameAndType 30 16), (0, u "size"), (0, .methodref 2 32), (0, .nameAndType 33 12), (0, u "checkForComodification"), (3, .fieldref 18 38), (0, .nameAndType 39 40), (0, u "elementData"), (0, u "[Ljava/lang/Object;"), (28, .class_ 70), (0, u "java/util/Iterator"), (0, u "(Ljava/util/ArrayList;)V"), (8, u "hasNext"), (0, u "()Z"), (1, u "next"), (0, u "()Ljava/lang/Object;")] 19

def k23c0 : Code := { maxStack := 2, maxLocals := 2, code := jdk_49_method_1_code, exceptionTable := #[], attributes := #[] }
def k23m0 : Method := { name := "<init>", desc := "(Ljava/util/ArrayList;)V", sig := { parameters := [(.object "java/util/ArrayList")], returnType := none }, accessFlags := 0, code := some k23c0 }
def k23c1 : Code := { maxStack := 2, maxLocals := 1, code := jdk_49_method_2_code, exceptionTable := #[], attributes := #[] }
def k23m1 : Method := { name := "hasNext", desc := "()Z", sig := { parameters := [], returnType := some .boolean }, accessFlags := 1, code := some k23c1 }
def k23c2 : Code := { maxStack := 4, maxLocals := 3, code := jdk_49_method_3_code, exceptionTable := #[], attributes := #[] }
def k23m2 : Method := { name := "next", desc := "()Ljava/lang/Object;", sig := { parameters := [], returnType := some (.object "java/lang/Object") }, accessFlags := 1, code := some k23c2 }
def k23c3 : Code := { maxStack := 2, maxLocals := 1, code := jdk_49_method_6_code, exceptionTable := #[], attributes := #[] }
def k23m3 : Method := { name := "checkForComodification", desc := "()V", sig := { parameters := [], returnType := none }, accessFlags := 16, code := some k23c3 }
/-- java/util/ArrayList$Itr -/
def k23 : Class := { plain "java/util/ArrayList$Itr" (some 0) with
  accessFlags := 32
  interfaces := #[22]
  cf := some (fileOf pool23 2 #[.nestHost 18] #[{ accessFlags := 0, nameIndex := 11, descriptorIndex := 71, attributes := #[] }, { accessFlags := 1, nameIndex := 80, descriptorIndex := 81, attributes := #[] }, { accessFlags := 1, nameIndex := 83, descriptorIndex := 84, attributes := #[] }, { accessFlags := 16, nameIndex := 33, descriptorIndex := 12, attributes := #[] }] 32 8 #[69] #[{ accessFlags := 0, nameIndex := 27, descriptorIndex := 16, attributes := #[] }, { accessFlags := 0, nameIndex := 15, descriptorIndex := 16, attributes := #[] }, { accessFlags := 0, nameIndex := 24, descriptorIndex := 16, attributes := #[] }, { accessFlags := 4112, nameIndex := 5, descriptorIndex := 6, attributes := #[] }])
  fields := #[{ name := "cursor", type := .int, accessFlags := 0, slot := 0, constantValue := 0 }, { name := "lastRet", type := .int, accessFlags := 0, slot := 1, constantValue := 0 }, { name := "expectedModCount", type := .int, accessFlags := 0, slot := 2, constantValue := 0 }, { name := "this$0", type := (.object "java/util/ArrayList"), accessFlags := 4112, slot := 3, constantValue := 0 }]
  methods := #[k23m0, k23m1, k23m2, k23m3]
  instanceTypes := #[.int, .int, .int, (.object "java/util/ArrayList")]
  staticTypes := #[]
  resolved := Array.replicate 104 none
  statics := none }

def pool24 : Array CpInfo := pool [(2, .class_ 4), (1, u "java/lang/Object"), (0, u "<init>"), (0, u "()V"), (7, .class_ 16), (1, u "java/util/Arrays"), (57, .class_ 76), (1, u "java/util/Arrays$NaturalOrder"), (32, u "()Ljava/lang/Object;"), (3, .class_ 115), (1, u "java/util/Arrays$LegacyMergeSort"), (1, u "Z"), (10, .nameAndType 129 109), (0, u "clone"), (9, u "copyOfRange"), (10, .methodref 151 152), (0, .class_ 153), (0, .nameAndType 154 155), (0, u "java/lang/System"), (0, u "arraycopy"), (0, u "(Ljava/lang/Object;ILjava/lang/Object;II)V"), (146, u "copyOf"), (1, .methodref 305 306), (0, .class_ 307), (0, .nameAndType 308 309), (0, u "java/lang/Math"), (0, u "min"), (0, u "(II)I"), (0, .methodref 311 128), (0, .class_ 312), (0, u "[B"), (26, .methodref 14 340), (0, .nameAndType 341 342), (0, u "copyOfRangeByte"), (0, u "([BII)[B"), (0, .methodref 14 344), (0, .nameAndType 345 346), (0, u "checkLength"), (0, u "(II)V"), (28, .class_ 376), (0, u "java/util/Arrays$ArrayList"), (68, u "$assertionsDisabled"), (269, u "MIN_ARRAY_SORT_GRAN"), (0, u "I"), (2, u "INSERTIONSORT_THRESHOLD"), (149, u "([BI)[B"), (105, .class_ 976), (0, u "java/util/Arrays$ArrayItr")] 52

def k24m0 : Method := { name := "<init>", desc := "()V", sig := { parameters := [], returnType := none }, accessFlags := 2, code := none }
def k24c1 : Code := { maxStack := 6, maxLocals := 3, code := jdk_65_method_121_code, exceptionTable := #[], attributes := #[] }
def k24m1 : Method := { name := "copyOf", desc := "([BI)[B", sig := { parameters := [(.array .byte), .int], returnType := some (.array .byte) }, accessFlags := 9, code := some k24c1 }
def k24c2 : Code := { maxStack := 4, maxLocals := 2, code := jdk_65_method_131_code, exceptionTable := #[], attributes := #[] }
def k24m2 : Method := { name := "checkLength", desc := "(II)V", sig := { parameters := [.int, .int], returnType := none }, accessFlags := 10, code := some k24c2 }
def k24c3 : Code := { maxStack := 3, maxLocals := 3, code := jdk_65_method_132_code, exceptionTable := #[], attributes := #[] }
def k24m3 : Method := { name := "copyOfRange", desc := "([BII)[B", sig := { parameters := [(.array .byte), .int, .int], returnType := some (.array .byte) }, accessFlags := 9, code := some k24c3 }
def k24c4 : Code := { maxStack := 6, maxLocals := 5, code := jdk_65_method_133_code, exceptionTable := #[], attributes := #[] }
def k24m4 : Method := { name := "copyOfRangeByte", desc := "([BII)[B", sig := { parameters := [(.array .byte), .int, .int], returnType := some (.array .byte) }, accessFlags := 10, code := some k24c4 }
/-- java/util/Arrays -/
def k24 : Class := { plain "java/util/Arrays" (some 0) with
  accessFlags := 49
  interfaces := #[]
  cf := some (fileOf pool24 14 #[.nestMembers #[975, 375, 113, 74]] #[{ accessFlags := 2, nameIndex := 5, descriptorIndex := 6, attributes := #[] }, { accessFlags := 9, nameIndex := 302, descriptorIndex := 869, attributes := #[] }, { accessFlags := 10, nameIndex := 345, descriptorIndex := 346, attributes := #[] }, { accessFlags := 9, nameIndex := 139, descriptorIndex := 342, attributes := #[] }, { accessFlags := 10, nameIndex := 341, descriptorIndex := 342, attributes := #[] }] 49 2 #[] #[{ accessFlags := 26, nameIndex := 715, descriptorIndex := 716, attributes := #[] }, { accessFlags := 26, nameIndex := 719, descriptorIndex := 716, attributes := #[] }, { accessFlags := 4120, nameIndex := 445, descriptorIndex := 117, attributes := #[] }])
  fields := #[{ name := "MIN_ARRAY_SORT_GRAN", type := .int, accessFlags := 26, slot := 0, constantValue := 0 }, { name := "INSERTIONSORT_THRESHOLD", type := .int, accessFlags := 26, slot := 1, constantValue := 0 }, { name := "$assertionsDisabled", type := .boolean, accessFlags := 4120, slot := 2, constantValue := 0 }]
  methods := #[k24m0, k24m1, k24m2, k24m3, k24m4]
  instanceTypes := #[]
  staticTypes := #[.int, .int, .boolean]
  resolved := Array.replicate 1029 none
  statics := none }

def pool25 : Array CpInfo := pool [(1, .class_ 2), (0, u "java/lang/Math"), (1, .class_ 6), (1, u "java/lang/Object"), (0, u "<init>"), (0, u "()V"), (89, .class_ 100), (1, u "java/lang/Math$RandomNumberGeneratorHolder"), (71, u "negativeZeroFloatBits"), (0, u "J"), (2, u "negativeZeroDoubleBits"), (21, u "max"), (2, u "min"), (43, u "$assertionsDisabled"), (0, u "Z"), (88, u "(II)I"), (2, u "twoToTheDoubleScaleDown"), (0, u "D"), (4, u "twoToTheDoubleScaleUp"), (9, u "E"), (3, u "PI"), (2, u "TAU"), (2, u "DEGREES_TO_RADIANS"), (0, u "RADIANS_TO_DEGREES")] 94

def k25m0 : Method := { name := "<init>", desc := "()V", sig := { parameters := [], returnType := none }, accessFlags := 2, code := none }
def k25c1 : Code := { maxStack := 2, maxLocals := 2, code := jdk_29_method_65_code, exceptionTable := #[], attributes := #[] }
def k25m1 : Method := { name := "max", desc := "(II)I", sig := { parameters := [.int, .int], returnType := some .int }, accessFlags := 9, code := some k25c1 }
def k25c2 : Code := { maxStack := 2, maxLocals := 2, code := jdk_29_method_69_code, exceptionTable := #[], attributes := #[] }
def k25m2 : Method := { name := "min", desc := "(II)I", sig := { parameters := [.int, .int], returnType := some .int }, accessFlags := 9, code := some k25c2 }
/-- java/lang/Math -/
def k25 : Class := { plain "java/lang/Math" (some 0) with
  accessFlags := 49
  interfaces := #[]
  cf := some (fileOf pool25 1 #[.nestMembers #[98]] #[{ accessFlags := 2, nameIndex := 7, descriptorIndex := 8, attributes := #[] }, { accessFlags := 9, nameIndex := 198, descriptorIndex := 335, attributes := #[] }, { accessFlags := 9, nameIndex := 201, descriptorIndex := 335, attributes := #[] }] 49 4 #[] #[{ accessFlags := 25, nameIndex := 354, descriptorIndex := 339, attributes := #[] }, { accessFlags := 25, nameIndex := 358, descriptorIndex := 339, attributes := #[] }, { accessFlags := 25, nameIndex := 361, descriptorIndex := 339, attributes := #[] }, { accessFlags := 26, nameIndex := 364, descriptorIndex := 339, attributes := #[] }, { accessFlags := 26, nameIndex := 365, descriptorIndex := 339, attributes := #[] }, { accessFlags := 26, nameIndex := 172, descriptorIndex := 173, attributes := #[] }, { accessFlags := 26, nameIndex := 176, descriptorIndex := 173, attributes := #[] }, { accessFlags := 8, nameIndex := 344, descriptorIndex := 339, attributes := #[] }, { accessFlags := 8, nameIndex := 338, descriptorIndex := 339, attributes := #[] }, { accessFlags := 4120, nameIndex := 245, descriptorIndex := 246, attributes := #[] }])
  fields := #[{ name := "E", type := .double, accessFlags := 25, slot := 0, constantValue := 0 }, { name := "PI", type := .double, accessFlags := 25, slot := 1, constantValue := 0 }, { name := "TAU", type := .double, accessFlags := 25, slot := 2, constantValue := 0 }, { name := "DEGREES_TO_RADIANS", type := .double, accessFlags := 26, slot := 3, constantValue := 0 }, { name := "RADIANS_TO_DEGREES", type := .double, accessFlags := 26, slot := 4, constantValue := 0 }, { name := "negativeZeroFloatBits", type := .long, accessFlags := 26, slot := 5, constantValue := 0 }, { name := "negativeZeroDoubleBits", type := .long, accessFlags := 26, slot := 6, constantValue := 0 }, { name := "twoToTheDoubleScaleUp", type := .double, accessFlags := 8, slot := 7, constantValue := 0 }, { name := "twoToTheDoubleScaleDown", type := .double, accessFlags := 8, slot := 8, constantValue := 0 }, { name := "$assertionsDisabled", type := .boolean, accessFlags := 4120, slot := 9, constantValue := 0 }]
  methods := #[k25m0, k25m1, k25m2]
  instanceTypes := #[]
  staticTypes := #[.double, .double, .double, .double, .double, .long, .long, .double, .double, .boolean]
  resolved := Array.replicate 460 none
  statics := none }

def pool26 : Array CpInfo := pool [(1, .class_ 2), (0, u "java/lang/String"), (1, .class_ 6), (1, u "java/lang/Object"), (0, u "<init>"), (0, u "()V"), (0, .methodref 1 10), (0, .nameAndType 11 12), (0, u "checkIndex"), (0, u "(II)V"), (1, .class_ 16), (1, u "java/lang/StringLatin1"), (36, u "([BI)C"), (36, u "canEncode"), (14, u "(C)Z"), (15, u "$assertionsDisabled"), (0, u "Z"), (98, .class_ 223), (1, u "java/lang/StringLatin1$LinesSpliterator"), (28, u "charAt"), (137, .class_ 391), (0, u "java/lang/StringLatin1$CharsSpliterator")] 3

def k26m0 : Method := { name := "<init>", desc := "()V", sig := { parameters := [], returnType := none }, accessFlags := 0, code := none }
def k26c1 : Code := { maxStack := 2, maxLocals := 2, code := jdk_43_method_2_code, exceptionTable := #[], attributes := #[] }
def k26m1 : Method := { name := "charAt", desc := "([BI)C", sig := { parameters := [(.array .byte), .int], returnType := some .char }, accessFlags := 9, code := some k26c1 }
def k26c2 : Code := { maxStack := 2, maxLocals := 1, code := jdk_43_method_3_code, exceptionTable := #[], attributes := #[] }
def k26m2 : Method := { name := "canEncode", desc := "(C)Z", sig := { parameters := [.char], returnType := some .boolean }, accessFlags := 9, code := some k26c2 }
/-- java/lang/StringLatin1 -/
def k26 : Class := { plain "java/lang/StringLatin1" (some 0) with
  accessFlags := 48
  interfaces := #[]
  cf := some (fileOf pool26 14 #[.nestMembers #[390, 221]] #[{ accessFlags := 0, nameIndex := 7, descriptorIndex := 8, attributes := #[] }, { accessFlags := 9, nameIndex := 252, descriptorIndex := 53, attributes := #[] }, { accessFlags := 9, nameIndex := 90, descriptorIndex := 105, attributes := #[] }] 48 4 #[] #[{ accessFlags := 4120, nameIndex := 121, descriptorIndex := 122, attributes := #[] }])
  fields := #[{ name := "$assertionsDisabled", type := .boolean, accessFlags := 4120, slot := 0, constantValue := 0 }]
  methods := #[k26m0, k26m1, k26m2]
  instanceTypes := #[]
  staticTypes := #[.boolean]
  resolved := Array.replicate 395 none
  statics := none }

def pool27 : Array CpInfo := pool [(2, .class_ 4), (1, u "java/lang/Object"), (0, u "<init>"), (0, u "()V"), (17, .class_ 26), (1, u "jdk/internal/util/Preconditions"), (6, u "checkIndex"), (21, .class_ 56), (0, u "jdk/internal/util/Preconditions$4"), (57, .class_ 115), (0, u "jdk/internal/util/Preconditions$1"), (7, u "SIOOBE_FORMATTER"), (0, u "Ljava/util/function/BiFunction;"), (0, .class_ 126), (0, u "jdk/internal/util/Preconditions$2"), (3, u "AIOOBE_FORMATTER"), (0, .class_ 132), (0, u "jdk/internal/util/Preconditions$3"), (3, u "IOOBE_FORMATTER"), (41, u "(IILjava/util/function/BiFunction;)I")] 15

def k27m0 : Method := { name := "<init>", desc := "()V", sig := { parameters := [], returnType := none }, accessFlags := 1, code := none }
def k27c1 : Code := { maxStack := 3, maxLocals := 3, code := jdk_41_method_11_code, exceptionTable := #[], attributes := #[] }
def k27m1 : Method := { name := "checkIndex", desc := "(IILjava/util/function/BiFunction;)I", sig := { parameters := [.int, .int, (.object "java/util/function/BiFunction")], returnType := some .int }, accessFlags := 9, code := some k27c1 }
/-- jdk/internal/util/Preconditions -/
def k27 : Class := { plain "jdk/internal/util/Preconditions" (some 0) with
  accessFlags := 33
  interfaces := #[]
  cf := some (fileOf pool27 24 #[.nestMembers #[55, 131, 125, 114]] #[{ accessFlags := 1, nameIndex := 5, descriptorIndex := 6, attributes := #[] }, { accessFlags := 9, nameIndex := 33, descriptorIndex := 178, attributes := #[] }] 33 2 #[] #[{ accessFlags := 25, nameIndex := 123, descriptorIndex := 124, attributes := #[] }, { accessFlags := 25, nameIndex := 130, descriptorIndex := 124, attributes := #[] }, { accessFlags := 25, nameIndex := 136, descriptorIndex := 124, attributes := #[] }])
  fields := #[{ name := "SIOOBE_FORMATTER", type := (.object "java/util/function/BiFunction"), accessFlags := 25, slot := 0, constantValue := 0 }, { name := "AIOOBE_FORMATTER", type := (.object "java/util/function/BiFunction"), accessFlags := 25, slot := 1, constantValue := 0 }, { name := "IOOBE_FORMATTER", type := (.object "java/util/function/BiFunction"), accessFlags := 25, slot := 2, constantValue := 0 }]
  methods := #[k27m0, k27m1]
  instanceTypes := #[]
  staticTypes := #[(.object "java/util/function/BiFunction"), (.object "java/util/function/BiFunction"), (.object "java/util/function/BiFunction")]
  resolved := Array.replicate 194 none
  statics := some 2 }

def pool28 : Array CpInfo := pool [(1, .methodref 2 3), (0, .class_ 4), (0, .nameAndType 5 6), (0, u "java/lang/Object"), (0, u "<init>"), (0, u "()V"), (1, .class_ 10), (1, u "java/lang/Number"), (2, .class_ 14), (0, u "java/io/Serializable"), (0, u "serialVersionUID"), (0, u "J")] 20

def k28c0 : Code := { maxStack := 1, maxLocals := 1, code := jdk_18_method_1_code, exceptionTable := #[], attributes := #[] }
def k28m0 : Method := { name := "<init>", desc := "()V", sig := { parameters := [], returnType := none }, accessFlags := 1, code := some k28c0 }
/-- java/lang/Number -/
def k28 : Class := { plain "java/lang/Number" (some 0) with
  accessFlags := 1057
  interfaces := #[10]
  cf := some (fileOf pool28 8 #[] #[{ accessFlags := 1, nameIndex := 5, descriptorIndex := 6, attributes := #[] }] 1057 2 #[13] #[{ accessFlags := 26, nameIndex := 15, descriptorIndex := 16, attributes := #[] }])
  fields := #[{ name := "serialVersionUID", type := .long, accessFlags := 26, slot := 0, constantValue := 0 }]
  methods := #[k28m0]
  instanceTypes := #[]
  staticTypes := #[.long]
  resolved := Array.replicate 37 none
  statics := none }

def pool29 : Array CpInfo := pool [(1, .class_ 2), (0, u "java/lang/Integer"), (16, u "digits"), (0, u "[C"), (33, u "(I)I"), (12, u "<init>"), (6, u "stringSize"), (2, u "getChars"), (0, u "(II[B)I"), (4, .fieldref 1 84), (0, .nameAndType 85 86), (0, u "DigitOnes"), (0, u "[B"), (0, .fieldref 1 88), (0, .nameAndType 89 86), (0, u "DigitTens"), (10, .nameAndType 67 101), (0, u "()V"), (19, u "()I"), (65, u "valueOf"), (0, u "(I)Ljava/lang/Integer;"), (0, .class_ 190), (0, u "java/lang/Integer$IntegerCache"), (0, .fieldref 189 192), (0, .nameAndType 193 194), (0, u "high"), (0, u "I"), (0, .fieldref 189 196), (0, .nameAndType 197 198), (0, u "cache"), (0, u "[Ljava/lang/Integer;"), (0, .methodref 1 200), (0, .nameAndType 67 201), (0, u "(I)V"), (0, .methodref 203 100), (0, .class_ 204), (0, u "java/lang/Number"), (0, .fieldref 1 206), (0, .nameAndType 207 194), (0, u "value"), (5, u "intValue"), (88, u "TYPE"), (0, u "Ljava/lang/Class;"), (0, .class_ 305), (0, u "java/lang/Comparable"), (0, .class_ 307), (0, u "java/lang/constant/Constable"), (0, .class_ 309), (0, u "java/lang/constant/ConstantDesc"), (0, u "MIN_VALUE"), (1, u "MAX_VALUE"), (3, u "SIZE"), (1, u "BYTES"), (1, u "serialVersionUID"), (0, u "J")] 131

def k29c0 : Code := { maxStack := 4, maxLocals := 7, code := jdk_33_method_12_code, exceptionTable := #[], attributes := #[] }
def k29m0 : Method := { name := "getChars", desc := "(II[B)I", sig := { parameters := [.int, .int, (.array .byte)], returnType := some .int }, accessFlags := 8, code := some k29c0 }
def k29c1 : Code := { maxStack := 2, maxLocals := 4, code := jdk_33_method_13_code, exceptionTable := #[], attributes := #[] }
def k29m1 : Method := { name := "stringSize", desc := "(I)I", sig := { parameters := [.int], returnType := some .int }, accessFlags := 8, code := some k29c1 }
def k29c2 : Code := { maxStack := 3, maxLocals := 1, code := jdk_33_method_22_code, exceptionTable := #[], attributes := #[] }
def k29m2 : Method := { name := "valueOf", desc := "(I)Ljava/lang/Integer;", sig := { parameters := [.int], returnType := some (.object "java/lang/Integer") }, accessFlags := 9, code := some k29c2 }
def k29c3 : Code := { maxStack := 2, maxLocals := 2, code := jdk_33_method_23_code, exceptionTable := #[], attributes := #[] }
def k29m3 : Method := { name := "<init>", desc := "(I)V", sig := { parameters := [.int], returnType := none }, accessFlags := 1, code := some k29c3 }
def k29c4 : Code := { maxStack := 1, maxLocals := 1, code := jdk_33_method_27_code, exceptionTable := #[], attributes := #[] }
def k29m4 : Method := { name := "intValue", desc := "()I", sig := { parameters := [], returnType := some .int }, accessFlags := 1, code := some k29c4 }
/-- java/lang/Integer -/
def k29 : Class := { plain "java/lang/Integer" (some 28) with
  accessFlags := 49
  interfaces := #[16, 18, 19]
  cf := some (fileOf pool29 1 #[.nestMembers #[189]] #[{ accessFlags := 8, nameIndex := 77, descriptorIndex := 78, attributes := #[] }, { accessFlags := 8, nameIndex := 74, descriptorIndex := 54, attributes := #[] }, { accessFlags := 9, nameIndex := 187, descriptorIndex := 188, attributes := #[] }, { accessFlags := 1, nameIndex := 67, descriptorIndex := 201, attributes := #[] }, { accessFlags := 1, nameIndex := 213, descriptorIndex := 121, attributes := #[] }] 49 203 #[304, 306, 308] #[{ accessFlags := 25, nameIndex := 310, descriptorIndex := 194, attributes := #[] }, { accessFlags := 25, nameIndex := 312, descriptorIndex := 194, attributes := #[] }, { accessFlags := 25, nameIndex := 302, descriptorIndex := 303, attributes := #[] }, { accessFlags := 24, nameIndex := 19, descriptorIndex := 20, attributes := #[] }, { accessFlags := 24, nameIndex := 89, descriptorIndex := 86, attributes := #[] }, { accessFlags := 24, nameIndex := 85, descriptorIndex := 86, attributes := #[] }, { accessFlags := 18, nameIndex := 207, descriptorIndex := 194, attributes := #[] }, { accessFlags := 25, nameIndex := 316, descriptorIndex := 194, attributes := #[] }, { accessFlags := 25, nameIndex := 318, descriptorIndex := 194, attributes := #[] }, { accessFlags := 26, nameIndex := 320, descriptorIndex := 321, attributes := #[] }])
  fields := #[{ name := "MIN_VALUE", type := .int, accessFlags := 25, slot := 0, constantValue := 0 }, { name := "MAX_VALUE", type := .int, accessFlags := 25, slot := 1, constantValue := 0 }, { name := "TYPE", type := (.object "java/lang/Class"), accessFlags := 25, slot := 2, constantValue := 0 }, { name := "digits", type := (.array .char), accessFlags := 24, slot := 3, constantValue := 0 }, { name := "DigitTens", type := (.array .byte), accessFlags := 24, slot := 4, constantValue := 0 }, { name := "DigitOnes", type := (.array .byte), accessFlags := 24, slot := 5, constantValue := 0 }, { name := "value", type := .int, accessFlags := 18, slot := 0, constantValue := 0 }, { name := "SIZE", type := .int, accessFlags := 25, slot := 6, constantValue := 0 }, { name := "BYTES", type := .int, accessFlags := 25, slot := 7, constantValue := 0 }, { name := "serialVersionUID", type := .long, accessFlags := 26, slot := 8, constantValue := 0 }]
  methods := #[k29m0, k29m1, k29m2, k29m3, k29m4]
  instanceTypes := #[.int]
  staticTypes := #[.int, .int, (.object "java/lang/Class"), (.array .char), (.array .byte), (.array .byte), .int, .int, .long]
  resolved := Array.replicate 453 none
  statics := some 3 }

def pool30 : Array CpInfo := pool [(2, .class_ 4), (1, u "java/lang/Object"), (0, u "<init>"), (0, u "()V"), (0, .class_ 8), (0, u "java/lang/Integer"), (7, .class_ 18), (1, u "java/lang/Integer$IntegerCache"), (0, u "$assertionsDisabled"), (0, u "Z"), (26, u "high"), (0, u "I"), (8, u "archivedCache"), (0, u "[Ljava/lang/Integer;"), (12, u "cache"), (0, u "low")] 27

def k30m0 : Method := { name := "<init>", desc := "()V", sig := { parameters := [], returnType := none }, accessFlags := 2, code := none }
/-- java/lang/Integer$IntegerCache -/
def k30 : Class := { plain "java/lang/Integer$IntegerCache" (some 0) with
  accessFlags := 48
  interfaces := #[]
  cf := some (fileOf pool30 16 #[.nestHost 7] #[{ accessFlags := 2, nameIndex := 5, descriptorIndex := 6, attributes := #[] }] 48 2 #[] #[{ accessFlags := 24, nameIndex := 72, descriptorIndex := 48, attributes := #[] }, { accessFlags := 24, nameIndex := 47, descriptorIndex := 48, attributes := #[] }, { accessFlags := 24, nameIndex := 71, descriptorIndex := 58, attributes := #[] }, { accessFlags := 8, nameIndex := 57, descriptorIndex := 58, attributes := #[] }, { accessFlags := 4120, nameIndex := 19, descriptorIndex := 20, attributes := #[] }])
  fields := #[{ name := "low", type := .int, accessFlags := 24, slot := 0, constantValue := 0 }, { name := "high", type := .int, accessFlags := 24, slot := 1, constantValue := 0 }, { name := "cache", type := (.array (.object "java/lang/Integer")), accessFlags := 24, slot := 2, constantValue := 0 }, { name := "archivedCache", type := (.array (.object "java/lang/Integer")), accessFlags := 8, slot := 3, constantValue := 0 }, { name := "$assertionsDisabled", type := .boolean, accessFlags := 4120, slot := 4, constantValue := 0 }]
  methods := #[k30m0]
  instanceTypes := #[]
  staticTypes := #[.int, .int, (.array (.object "java/lang/Integer")), (.array (.object "java/lang/Integer")), .boolean]
  resolved := Array.replicate 100 none
  statics := some 4 }

def pool31 : Array CpInfo := pool [(9, u "<init>"), (6, .class_ 18), (1, u "java/lang/Object"), (0, u "()V"), (1, .class_ 23), (1, u "jdk/internal/util/ArraysSupport"), (0, u "LOG2_ARRAY_LONG_INDEX_SCALE"), (0, u "I"), (2, u "U"), (0, u "Ljdk/internal/misc/Unsafe;"), (8, u "BIG_ENDIAN"), (0, u "Z"), (8, u "LOG2_BYTE_BIT_SIZE"), (4, u "LOG2_ARRAY_INT_INDEX_SCALE"), (54, u "JLA"), (0, u "Ljdk/internal/access/JavaLangAccess;"), (11, u "LOG2_ARRAY_BOOLEAN_INDEX_SCALE"), (9, u "LOG2_ARRAY_BYTE_INDEX_SCALE"), (5, u "LOG2_ARRAY_CHAR_INDEX_SCALE"), (5, u "LOG2_ARRAY_SHORT_INDEX_SCALE"), (18, u "LOG2_ARRAY_FLOAT_INDEX_SCALE"), (24, u "LOG2_ARRAY_DOUBLE_INDEX_SCALE"), (6, .methodref 195 196), (0, .class_ 197), (0, .nameAndType 198 199), (0, u "java/lang/Math"), (0, u "max"), (0, u "(II)I"), (0, .integer 2147483639), (76, u "T_BOOLEAN"), (2, u "T_CHAR"), (1, u "T_FLOAT"), (1, u "T_DOUBLE"), (1, u "T_BYTE"), (1, u "T_SHORT"), (1, u "T_INT"), (1, u "T_LONG"), (1, u "SOFT_MAX_ARRAY_LENGTH"), (56, u "newLength"), (0, u "(III)I")] 25

def k31m0 : Method := { name := "<init>", desc := "()V", sig := { parameters := [], returnType := none }, accessFlags := 2, code := none }
def k31c1 : Code := { maxStack := 3, maxLocals := 4, code := jdk_48_method_27_code, exceptionTable := #[], attributes := #[] }
def k31m1 : Method := { name := "newLength", desc := "(III)I", sig := { parameters := [.int, .int, .int], returnType := some .int }, accessFlags := 9, code := some k31c1 }
/-- jdk/internal/util/ArraysSupport -/
def k31 : Class := { plain "jdk/internal/util/ArraysSupport" (some 0) with
  accessFlags := 33
  interfaces := #[]
  cf := some (fileOf pool31 21 #[] #[{ accessFlags := 2, nameIndex := 9, descriptorIndex := 19, attributes := #[] }, { accessFlags := 9, nameIndex := 351, descriptorIndex := 352, attributes := #[] }] 33 16 #[] #[{ accessFlags := 24, nameIndex := 28, descriptorIndex := 29, attributes := #[] }, { accessFlags := 26, nameIndex := 38, descriptorIndex := 39, attributes := #[] }, { accessFlags := 25, nameIndex := 121, descriptorIndex := 25, attributes := #[] }, { accessFlags := 25, nameIndex := 131, descriptorIndex := 25, attributes := #[] }, { accessFlags := 25, nameIndex := 137, descriptorIndex := 25, attributes := #[] }, { accessFlags := 25, nameIndex := 143, descriptorIndex := 25, attributes := #[] }, { accessFlags := 25, nameIndex := 53, descriptorIndex := 25, attributes := #[] }, { accessFlags := 25, nameIndex := 24, descriptorIndex := 25, attributes := #[] }, { accessFlags := 25, nameIndex := 162, descriptorIndex := 25, attributes := #[] }, { accessFlags := 25, nameIndex := 187, descriptorIndex := 25, attributes := #[] }, { accessFlags := 26, nameIndex := 48, descriptorIndex := 25, attributes := #[] }, { accessFlags := 25, nameIndex := 277, descriptorIndex := 25, attributes := #[] }, { accessFlags := 25, nameIndex := 280, descriptorIndex := 25, attributes := #[] }, { accessFlags := 25, nameIndex := 282, descriptorIndex := 25, attributes := #[] }, { accessFlags := 25, nameIndex := 284, descriptorIndex := 25, attributes := #[] }, { accessFlags := 25, nameIndex := 286, descriptorIndex := 25, attributes := #[] }, { accessFlags := 25, nameIndex := 288, descriptorIndex := 25, attributes := #[] }, { accessFlags := 25, nameIndex := 290, descriptorIndex := 25, attributes := #[] }, { accessFlags := 25, nameIndex := 292, descriptorIndex := 25, attributes := #[] }, { accessFlags := 26, nameIndex := 108, descriptorIndex := 109, attributes := #[] }, { accessFlags := 25, nameIndex := 294, descriptorIndex := 25, attributes := #[] }])
  fields := #[{ name := "U", type := (.object "jdk/internal/misc/Unsafe"), accessFlags := 24, slot := 0, constantValue := 0 }, { name := "BIG_ENDIAN", type := .boolean, accessFlags := 26, slot := 1, constantValue := 0 }, { name := "LOG2_ARRAY_BOOLEAN_INDEX_SCALE", type := .int, accessFlags := 25, slot := 2, constantValue := 0 }, { name := "LOG2_ARRAY_BYTE_INDEX_SCALE", type := .int, accessFlags := 25, slot := 3, constantValue := 0 }, { name := "LOG2_ARRAY_CHAR_INDEX_SCALE", type := .int, accessFlags := 25, slot := 4, constantValue := 0 }, { name := "LOG2_ARRAY_SHORT_INDEX_SCALE", type := .int, accessFlags := 25, slot := 5, constantValue := 0 }, { name := "LOG2_ARRAY_INT_INDEX_SCALE", type := .int, accessFlags := 25, slot := 6, constantValue := 0 }, { name := "LOG2_ARRAY_LONG_INDEX_SCALE", type := .int, accessFlags := 25, slot := 7, constantValue := 0 }, { name := "LOG2_ARRAY_FLOAT_INDEX_SCALE", type := .int, accessFlags := 25, slot := 8, constantValue := 0 }, { name := "LOG2_ARRAY_DOUBLE_INDEX_SCALE", type := .int, accessFlags := 25, slot := 9, constantValue := 0 }, { name := "LOG2_BYTE_BIT_SIZE", type := .int, accessFlags := 26, slot := 10, constantValue := 0 }, { name := "T_BOOLEAN", type := .int, accessFlags := 25, slot := 11, constantValue := 0 }, { name := "T_CHAR", type := .int, accessFlags := 25, slot := 12, constantValue := 0 }, { name := "T_FLOAT", type := .int, accessFlags := 25, slot := 13, constantValue := 0 }, { name := "T_DOUBLE", type := .int, accessFlags := 25, slot := 14, constantValue := 0 }, { name := "T_BYTE", type := .int, accessFlags := 25, slot := 15, constantValue := 0 }, { name := "T_SHORT", type := .int, accessFlags := 25, slot := 16, constantValue := 0 }, { name := "T_INT", type := .int, accessFlags := 25, slot := 17, constantValue := 0 }, { name := "T_LONG", type := .int, accessFlags := 25, slot := 18, constantValue := 0 }, { name := "JLA", type := (.object "jdk/internal/access/JavaLangAccess"), accessFlags := 26, slot := 19, constantValue := 0 }, { name := "SOFT_MAX_ARRAY_LENGTH", type := .int, accessFlags := 25, slot := 20, constantValue := 0 }]
  methods := #[k31m0, k31m1]
  instanceTypes := #[]
  staticTypes := #[(.object "jdk/internal/misc/Unsafe"), .boolean, .int, .int, .int, .int, .int, .int, .int, .int, .int, .int, .int, .int, .int, .int, .int, .int, .int, (.object "jdk/internal/access/JavaLangAccess"), .int]
  resolved := Array.replicate 378 none
  statics := none }

/-- the primitive byte -/
def k32 : Class := { plain "byte" none with kind := .primitive 'B', accessFlags := 0x411 }
/-- [B -/
def k33 : Class := { plain "[B" (some 0) with kind := .array 32 .byte, interfaces := #[9, 10], accessFlags := 1041 }

/-- the primitive int -/
def k34 : Class := { plain "int" none with kind := .primitive 'I', accessFlags := 0x411 }
/-- [I -/
def k35 : Class := { plain "[I" (some 0) with kind := .array 34 .int, interfaces := #[9, 10], accessFlags := 1041 }

/-- [Ljava/lang/Integer; -/
def k36 : Class := { plain "[Ljava/lang/Integer;" (some 0) with kind := .array 29 (.object "java/lang/Integer"), interfaces := #[9, 10], accessFlags := 1041 }

/-- [Ljava/lang/Object; -/
def k37 : Class := { plain "[Ljava/lang/Object;" (some 0) with kind := .array 0 (.object "java/lang/Object"), interfaces := #[9, 10], accessFlags := 1041 }

def heap : Heap := #[{ cls := 11, slots := #[.long 0, .int 0, .ref 6, .ref 7], vm := .statics 11 },
  { cls := 20, slots := #[.long 0, .int 1, .null, .int 0, .null, .int 0, .int 0], vm := .statics 20 },
  { cls := 27, slots := #[.null, .null, .null], vm := .statics 27 },
  { cls := 29, slots := #[.int 0, .int 0, .null, .null, .ref 265, .ref 264, .int 0, .int 0, .long 0], vm := .statics 29 },
  { cls := 30, slots := #[.int 0, .int 127, .ref 5, .null, .int 0], vm := .statics 30 },
  { cls := 36, slots := #[.ref 8, .ref 9, .ref 10, .ref 11, .ref 12, .ref 13, .ref 14, .ref 15, .ref 16, .ref 17, .ref 18, .ref 19, .ref 20, .ref 21, .ref 22, .ref 23, .ref 24, .ref 25, .ref 26, .ref 27, .ref 28, .ref 29, .ref 30, .ref 31, .ref 32, .ref 33, .ref 34, .ref 35, .ref 36, .ref 37, .ref 38, .ref 39, .ref 40, .ref 41, .ref 42, .ref 43, .ref 44, .ref 45, .ref 46, .ref 47, .ref 48, .ref 49, .ref 50, .ref 51, .ref 52, .ref 53, .ref 54, .ref 55, .ref 56, .ref 57, .ref 58, .ref 59, .ref 60, .ref 61, .ref 62, .ref 63, .ref 64, .ref 65, .ref 66, .ref 67, .ref 68, .ref 69, .ref 70, .ref 71, .ref 72, .ref 73, .ref 74, .ref 75, .ref 76, .ref 77, .ref 78, .ref 79, .ref 80, .ref 81, .ref 82, .ref 83, .ref 84, .ref 85, .ref 86, .ref 87, .ref 88, .ref 89, .ref 90, .ref 91, .ref 92, .ref 93, .ref 94, .ref 95, .ref 96, .ref 97, .ref 98, .ref 99, .ref 100, .ref 101, .ref 102, .ref 103, .ref 104, .ref 105, .ref 106, .ref 107, .ref 108, .ref 109, .ref 110, .ref 111, .ref 112, .ref 113, .ref 114, .ref 115, .ref 116, .ref 117, .ref 118, .ref 119, .ref 120, .ref 121, .ref 122, .ref 123, .ref 124, .ref 125, .ref 126, .ref 127, .ref 128, .ref 129, .ref 130, .ref 131, .ref 132, .ref 133, .ref 134, .ref 135, .ref 136, .ref 137, .ref 138, .ref 139, .ref 140, .ref 141, .ref 142, .ref 143, .ref 144, .ref 145, .ref 146, .ref 147, .ref 148, .ref 149, .ref 150, .ref 151, .ref 152, .ref 153, .ref 154, .ref 155, .ref 156, .ref 157, .ref 158, .ref 159, .ref 160, .ref 161, .ref 162, .ref 163, .ref 164, .ref 165, .ref 166, .ref 167, .ref 168, .ref 169, .ref 170, .ref 171, .ref 172, .ref 173, .ref 174, .ref 175, .ref 176, .ref 177, .ref 178, .ref 179, .ref 180, .ref 181, .ref 182, .ref 183, .ref 184, .ref 185, .ref 186, .ref 187, .ref 188, .ref 189, .ref 190, .ref 191, .ref 192, .ref 193, .ref 194, .ref 195, .ref 196, .ref 197, .ref 198, .ref 199, .ref 200, .ref 201, .ref 202, .ref 203, .ref 204, .ref 205, .ref 206, .ref 207, .ref 208, .ref 209, .ref 210, .ref 211, .ref 212, .ref 213, .ref 214, .ref 215, .ref 216, .ref 217, .ref 218, .ref 219, .ref 220, .ref 221, .ref 222, .ref 223, .ref 224, .ref 225, .ref 226, .ref 227, .ref 228, .ref 229, .ref 230, .ref 231, .ref 232, .ref 233, .ref 234, .ref 235, .ref 236, .ref 237, .ref 238, .ref 239, .ref 240, .ref 241, .ref 242, .ref 243, .ref 244, .ref 245, .ref 246, .ref 247, .ref 248, .ref 249, .ref 250, .ref 251, .ref 252, .ref 253, .ref 254, .ref 255, .ref 256, .ref 257, .ref 258, .ref 259, .ref 260, .ref 261, .ref 262, .ref 263], vm := .none },
  { cls := 37, slots := #[], vm := .none },
  { cls := 37, slots := #[], vm := .none },
  { cls := 29, slots := #[.int (-128)], vm := .none },
  { cls := 29, slots := #[.int (-127)], vm := .none },
  { cls := 29, slots := #[.int (-126)], vm := .none },
  { cls := 29, slots := #[.int (-125)], vm := .none },
  { cls := 29, slots := #[.int (-124)], vm := .none },
  { cls := 29, slots := #[.int (-123)], vm := .none },
  { cls := 29, slots := #[.int (-122)], vm := .none },
  { cls := 29, slots := #[.int (-121)], vm := .none },
  { cls := 29, slots := #[.int (-120)], vm := .none },
  { cls := 29, slots := #[.int (-119)], vm := .none },
  { cls := 29, slots := #[.int (-118)], vm := .none },
  { cls := 29, slots := #[.int (-117)], vm := .none },
  { cls := 29, slots := #[.int (-116)], vm := .none },
  { cls := 29, slots := #[.int (-115)], vm := .none },
  { cls := 29, slots := #[.int (-114)], vm := .none },
  { cls := 29, slots := #[.int (-113)], vm := .none },
  { cls := 29, slots := #[.int (-112)], vm := .none },
  { cls := 29, slots := #[.int (-111)], vm := .none },
  { cls := 29, slots := #[.int (-110)], vm := .none },
  { cls := 29, slots := #[.int (-109)], vm := .none },
  { cls := 29, slots := #[.int (-108)], vm := .none },
  { cls := 29, slots := #[.int (-107)], vm := .none },
  { cls := 29, slots := #[.int (-106)], vm := .none },
  { cls := 29, slots := #[.int (-105)], vm := .none },
  { cls := 29, slots := #[.int (-104)], vm := .none },
  { cls := 29, slots := #[.int (-103)], vm := .none },
  { cls := 29, slots := #[.int (-102)], vm := .none },
  { cls := 29, slots := #[.int (-101)], vm := .none },
  { cls := 29, slots := #[.int (-100)], vm := .none },
  { cls := 29, slots := #[.int (-99)], vm := .none },
  { cls := 29, slots := #[.int (-98)], vm := .none },
  { cls := 29, slots := #[.int (-97)], vm := .none },
  { cls := 29, slots := #[.int (-96)], vm := .none },
  { cls := 29, slots := #[.int (-95)], vm := .none },
  { cls := 29, slots := #[.int (-94)], vm := .none },
  { cls := 29, slots := #[.int (-93)], vm := .none },
  { cls := 29, slots := #[.int (-92)], vm := .none },
  { cls := 29, slots := #[.int (-91)], vm := .none },
  { cls := 29, slots := #[.int (-90)], vm := .none },
  { cls := 29, slots := #[.int (-89)], vm := .none },
  { cls := 29, slots := #[.int (-88)], vm := .none },
  { cls := 29, slots := #[.int (-87)], vm := .none },
  { cls := 29, slots := #[.int (-86)], vm := .none },
  { cls := 29, slots := #[.int (-85)], vm := .none },
  { cls := 29, slots := #[.int (-84)], vm := .none },
  { cls := 29, slots := #[.int (-83)], vm := .none },
  { cls := 29, slots := #[.int (-82)], vm := .none },
  { cls := 29, slots := #[.int (-81)], vm := .none },
  { cls := 29, slots := #[.int (-80)], vm := .none },
  { cls := 29, slots := #[.int (-79)], vm := .none },
  { cls := 29, slots := #[.int (-78)], vm := .none },
  { cls := 29, slots := #[.int (-77)], vm := .none },
  { cls := 29, slots := #[.int (-76)], vm := .none },
  { cls := 29, slots := #[.int (-75)], vm := .none },
  { cls := 29, slots := #[.int (-74)], vm := .none },
  { cls := 29, slots := #[.int (-73)], vm := .none },
  { cls := 29, slots := #[.int (-72)], vm := .none },
  { cls := 29, slots := #[.int (-71)], vm := .none },
  { cls := 29, slots := #[.int (-70)], vm := .none },
  { cls := 29, slots := #[.int (-69)], vm := .none },
  { cls := 29, slots := #[.int (-68)], vm := .none },
  { cls := 29, slots := #[.int (-67)], vm := .none },
  { cls := 29, slots := #[.int (-66)], vm := .none },
  { cls := 29, slots := #[.int (-65)], vm := .none },
  { cls := 29, slots := #[.int (-64)], vm := .none },
  { cls := 29, slots := #[.int (-63)], vm := .none },
  { cls := 29, slots := #[.int (-62)], vm := .none },
  { cls := 29, slots := #[.int (-61)], vm := .none },
  { cls := 29, slots := #[.int (-60)], vm := .none },
  { cls := 29, slots := #[.int (-59)], vm := .none },
  { cls := 29, slots := #[.int (-58)], vm := .none },
  { cls := 29, slots := #[.int (-57)], vm := .none },
  { cls := 29, slots := #[.int (-56)], vm := .none },
  { cls := 29, slots := #[.int (-55)], vm := .none },
  { cls := 29, slots := #[.int (-54)], vm := .none },
  { cls := 29, slots := #[.int (-53)], vm := .none },
  { cls := 29, slots := #[.int (-52)], vm := .none },
  { cls := 29, slots := #[.int (-51)], vm := .none },
  { cls := 29, slots := #[.int (-50)], vm := .none },
  { cls := 29, slots := #[.int (-49)], vm := .none },
  { cls := 29, slots := #[.int (-48)], vm := .none },
  { cls := 29, slots := #[.int (-47)], vm := .none },
  { cls := 29, slots := #[.int (-46)], vm := .none },
  { cls := 29, slots := #[.int (-45)], vm := .none },
  { cls := 29, slots := #[.int (-44)], vm := .none },
  { cls := 29, slots := #[.int (-43)], vm := .none },
  { cls := 29, slots := #[.int (-42)], vm := .none },
  { cls := 29, slots := #[.int (-41)], vm := .none },
  { cls := 29, slots := #[.int (-40)], vm := .none },
  { cls := 29, slots := #[.int (-39)], vm := .none },
  { cls := 29, slots := #[.int (-38)], vm := .none },
  { cls := 29, slots := #[.int (-37)], vm := .none },
  { cls := 29, slots := #[.int (-36)], vm := .none },
  { cls := 29, slots := #[.int (-35)], vm := .none },
  { cls := 29, slots := #[.int (-34)], vm := .none },
  { cls := 29, slots := #[.int (-33)], vm := .none },
  { cls := 29, slots := #[.int (-32)], vm := .none },
  { cls := 29, slots := #[.int (-31)], vm := .none },
  { cls := 29, slots := #[.int (-30)], vm := .none },
  { cls := 29, slots := #[.int (-29)], vm := .none },
  { cls := 29, slots := #[.int (-28)], vm := .none },
  { cls := 29, slots := #[.int (-27)], vm := .none },
  { cls := 29, slots := #[.int (-26)], vm := .none },
  { cls := 29, slots := #[.int (-25)], vm := .none },
  { cls := 29, slots := #[.int (-24)], vm := .none },
  { cls := 29, slots := #[.int (-23)], vm := .none },
  { cls := 29, slots := #[.int (-22)], vm := .none },
  { cls := 29, slots := #[.int (-21)], vm := .none },
  { cls := 29, slots := #[.int (-20)], vm := .none },
  { cls := 29, slots := #[.int (-19)], vm := .none },
  { cls := 29, slots := #[.int (-18)], vm := .none },
  { cls := 29, slots := #[.int (-17)], vm := .none },
  { cls := 29, slots := #[.int (-16)], vm := .none },
  { cls := 29, slots := #[.int (-15)], vm := .none },
  { cls := 29, slots := #[.int (-14)], vm := .none },
  { cls := 29, slots := #[.int (-13)], vm := .none },
  { cls := 29, slots := #[.int (-12)], vm := .none },
  { cls := 29, slots := #[.int (-11)], vm := .none },
  { cls := 29, slots := #[.int (-10)], vm := .none },
  { cls := 29, slots := #[.int (-9)], vm := .none },
  { cls := 29, slots := #[.int (-8)], vm := .none },
  { cls := 29, slots := #[.int (-7)], vm := .none },
  { cls := 29, slots := #[.int (-6)], vm := .none },
  { cls := 29, slots := #[.int (-5)], vm := .none },
  { cls := 29, slots := #[.int (-4)], vm := .none },
  { cls := 29, slots := #[.int (-3)], vm := .none },
  { cls := 29, slots := #[.int (-2)], vm := .none },
  { cls := 29, slots := #[.int (-1)], vm := .none },
  { cls := 29, slots := #[.int (0)], vm := .none },
  { cls := 29, slots := #[.int (1)], vm := .none },
  { cls := 29, slots := #[.int (2)], vm := .none },
  { cls := 29, slots := #[.int (3)], vm := .none },
  { cls := 29, slots := #[.int (4)], vm := .none },
  { cls := 29, slots := #[.int (5)], vm := .none },
  { cls := 29, slots := #[.int (6)], vm := .none },
  { cls := 29, slots := #[.int (7)], vm := .none },
  { cls := 29, slots := #[.int (8)], vm := .none },
  { cls := 29, slots := #[.int (9)], vm := .none },
  { cls := 29, slots := #[.int (10)], vm := .none },
  { cls := 29, slots := #[.int (11)], vm := .none },
  { cls := 29, slots := #[.int (12)], vm := .none },
  { cls := 29, slots := #[.int (13)], vm := .none },
  { cls := 29, slots := #[.int (14)], vm := .none },
  { cls := 29, slots := #[.int (15)], vm := .none },
  { cls := 29, slots := #[.int (16)], vm := .none },
  { cls := 29, slots := #[.int (17)], vm := .none },
  { cls := 29, slots := #[.int (18)], vm := .none },
  { cls := 29, slots := #[.int (19)], vm := .none },
  { cls := 29, slots := #[.int (20)], vm := .none },
  { cls := 29, slots := #[.int (21)], vm := .none },
  { cls := 29, slots := #[.int (22)], vm := .none },
  { cls := 29, slots := #[.int (23)], vm := .none },
  { cls := 29, slots := #[.int (24)], vm := .none },
  { cls := 29, slots := #[.int (25)], vm := .none },
  { cls := 29, slots := #[.int (26)], vm := .none },
  { cls := 29, slots := #[.int (27)], vm := .none },
  { cls := 29, slots := #[.int (28)], vm := .none },
  { cls := 29, slots := #[.int (29)], vm := .none },
  { cls := 29, slots := #[.int (30)], vm := .none },
  { cls := 29, slots := #[.int (31)], vm := .none },
  { cls := 29, slots := #[.int (32)], vm := .none },
  { cls := 29, slots := #[.int (33)], vm := .none },
  { cls := 29, slots := #[.int (34)], vm := .none },
  { cls := 29, slots := #[.int (35)], vm := .none },
  { cls := 29, slots := #[.int (36)], vm := .none },
  { cls := 29, slots := #[.int (37)], vm := .none },
  { cls := 29, slots := #[.int (38)], vm := .none },
  { cls := 29, slots := #[.int (39)], vm := .none },
  { cls := 29, slots := #[.int (40)], vm := .none },
  { cls := 29, slots := #[.int (41)], vm := .none },
  { cls := 29, slots := #[.int (42)], vm := .none },
  { cls := 29, slots := #[.int (43)], vm := .none },
  { cls := 29, slots := #[.int (44)], vm := .none },
  { cls := 29, slots := #[.int (45)], vm := .none },
  { cls := 29, slots := #[.int (46)], vm := .none },
  { cls := 29, slots := #[.int (47)], vm := .none },
  { cls := 29, slots := #[.int (48)], vm := .none },
  { cls := 29, slots := #[.int (49)], vm := .none },
  { cls := 29, slots := #[.int (50)], vm := .none },
  { cls := 29, slots := #[.int (51)], vm := .none },
  { cls := 29, slots := #[.int (52)], vm := .none },
  { cls := 29, slots := #[.int (53)], vm := .none },
  { cls := 29, slots := #[.int (54)], vm := .none },
  { cls := 29, slots := #[.int (55)], vm := .none },
  { cls := 29, slots := #[.int (56)], vm := .none },
  { cls := 29, slots := #[.int (57)], vm := .none },
  { cls := 29, slots := #[.int (58)], vm := .none },
  { cls := 29, slots := #[.int (59)], vm := .none },
  { cls := 29, slots := #[.int (60)], vm := .none },
  { cls := 29, slots := #[.int (61)], vm := .none },
  { cls := 29, slots := #[.int (62)], vm := .none },
  { cls := 29, slots := #[.int (63)], vm := .none },
  { cls := 29, slots := #[.int (64)], vm := .none },
  { cls := 29, slots := #[.int (65)], vm := .none },
  { cls := 29, slots := #[.int (66)], vm := .none },
  { cls := 29, slots := #[.int (67)], vm := .none },
  { cls := 29, slots := #[.int (68)], vm := .none },
  { cls := 29, slots := #[.int (69)], vm := .none },
  { cls := 29, slots := #[.int (70)], vm := .none },
  { cls := 29, slots := #[.int (71)], vm := .none },
  { cls := 29, slots := #[.int (72)], vm := .none },
  { cls := 29, slots := #[.int (73)], vm := .none },
  { cls := 29, slots := #[.int (74)], vm := .none },
  { cls := 29, slots := #[.int (75)], vm := .none },
  { cls := 29, slots := #[.int (76)], vm := .none },
  { cls := 29, slots := #[.int (77)], vm := .none },
  { cls := 29, slots := #[.int (78)], vm := .none },
  { cls := 29, slots := #[.int (79)], vm := .none },
  { cls := 29, slots := #[.int (80)], vm := .none },
  { cls := 29, slots := #[.int (81)], vm := .none },
  { cls := 29, slots := #[.int (82)], vm := .none },
  { cls := 29, slots := #[.int (83)], vm := .none },
  { cls := 29, slots := #[.int (84)], vm := .none },
  { cls := 29, slots := #[.int (85)], vm := .none },
  { cls := 29, slots := #[.int (86)], vm := .none },
  { cls := 29, slots := #[.int (87)], vm := .none },
  { cls := 29, slots := #[.int (88)], vm := .none },
  { cls := 29, slots := #[.int (89)], vm := .none },
  { cls := 29, slots := #[.int (90)], vm := .none },
  { cls := 29, slots := #[.int (91)], vm := .none },
  { cls := 29, slots := #[.int (92)], vm := .none },
  { cls := 29, slots := #[.int (93)], vm := .none },
  { cls := 29, slots := #[.int (94)], vm := .none },
  { cls := 29, slots := #[.int (95)], vm := .none },
  { cls := 29, slots := #[.int (96)], vm := .none },
  { cls := 29, slots := #[.int (97)], vm := .none },
  { cls := 29, slots := #[.int (98)], vm := .none },
  { cls := 29, slots := #[.int (99)], vm := .none },
  { cls := 29, slots := #[.int (100)], vm := .none },
  { cls := 29, slots := #[.int (101)], vm := .none },
  { cls := 29, slots := #[.int (102)], vm := .none },
  { cls := 29, slots := #[.int (103)], vm := .none },
  { cls := 29, slots := #[.int (104)], vm := .none },
  { cls := 29, slots := #[.int (105)], vm := .none },
  { cls := 29, slots := #[.int (106)], vm := .none },
  { cls := 29, slots := #[.int (107)], vm := .none },
  { cls := 29, slots := #[.int (108)], vm := .none },
  { cls := 29, slots := #[.int (109)], vm := .none },
  { cls := 29, slots := #[.int (110)], vm := .none },
  { cls := 29, slots := #[.int (111)], vm := .none },
  { cls := 29, slots := #[.int (112)], vm := .none },
  { cls := 29, slots := #[.int (113)], vm := .none },
  { cls := 29, slots := #[.int (114)], vm := .none },
  { cls := 29, slots := #[.int (115)], vm := .none },
  { cls := 29, slots := #[.int (116)], vm := .none },
  { cls := 29, slots := #[.int (117)], vm := .none },
  { cls := 29, slots := #[.int (118)], vm := .none },
  { cls := 29, slots := #[.int (119)], vm := .none },
  { cls := 29, slots := #[.int (120)], vm := .none },
  { cls := 29, slots := #[.int (121)], vm := .none },
  { cls := 29, slots := #[.int (122)], vm := .none },
  { cls := 29, slots := #[.int (123)], vm := .none },
  { cls := 29, slots := #[.int (124)], vm := .none },
  { cls := 29, slots := #[.int (125)], vm := .none },
  { cls := 29, slots := #[.int (126)], vm := .none },
  { cls := 29, slots := #[.int (127)], vm := .none },
  { cls := 33, slots := #[.int 48, .int 49, .int 50, .int 51, .int 52, .int 53, .int 54, .int 55, .int 56, .int 57, .int 48, .int 49, .int 50, .int 51, .int 52, .int 53, .int 54, .int 55, .int 56, .int 57, .int 48, .int 49, .int 50, .int 51, .int 52, .int 53, .int 54, .int 55, .int 56, .int 57, .int 48, .int 49, .int 50, .int 51, .int 52, .int 53, .int 54, .int 55, .int 56, .int 57, .int 48, .int 49, .int 50, .int 51, .int 52, .int 53, .int 54, .int 55, .int 56, .int 57, .int 48, .int 49, .int 50, .int 51, .int 52, .int 53, .int 54, .int 55, .int 56, .int 57, .int 48, .int 49, .int 50, .int 51, .int 52, .int 53, .int 54, .int 55, .int 56, .int 57, .int 48, .int 49, .int 50, .int 51, .int 52, .int 53, .int 54, .int 55, .int 56, .int 57, .int 48, .int 49, .int 50, .int 51, .int 52, .int 53, .int 54, .int 55, .int 56, .int 57, .int 48, .int 49, .int 50, .int 51, .int 52, .int 53, .int 54, .int 55, .int 56, .int 57], vm := .none },
  { cls := 33, slots := #[.int 48, .int 48, .int 48, .int 48, .int 48, .int 48, .int 48, .int 48, .int 48, .int 48, .int 49, .int 49, .int 49, .int 49, .int 49, .int 49, .int 49, .int 49, .int 49, .int 49, .int 50, .int 50, .int 50, .int 50, .int 50, .int 50, .int 50, .int 50, .int 50, .int 50, .int 51, .int 51, .int 51, .int 51, .int 51, .int 51, .int 51, .int 51, .int 51, .int 51, .int 52, .int 52, .int 52, .int 52, .int 52, .int 52, .int 52, .int 52, .int 52, .int 52, .int 53, .int 53, .int 53, .int 53, .int 53, .int 53, .int 53, .int 53, .int 53, .int 53, .int 54, .int 54, .int 54, .int 54, .int 54, .int 54, .int 54, .int 54, .int 54, .int 54, .int 55, .int 55, .int 55, .int 55, .int 55, .int 55, .int 55, .int 55, .int 55, .int 55, .int 56, .int 56, .int 56, .int 56, .int 56, .int 56, .int 56, .int 56, .int 56, .int 56, .int 57, .int 57, .int 57, .int 57, .int 57, .int 57, .int 57, .int 57, .int 57, .int 57], vm := .none }]
def classes : Array Class := #[k0, k1, k2, k3, k4, k5, k6, k7, k8, k9, k10, k11, k12, k13, k14, k15, k16, k17, k18, k19, k20, k21, k22, k23, k24, k25, k26, k27, k28, k29, k30, k31, k32, k33, k34, k35, k36, k37]
def interned : List (Array UInt16 × Addr) := []
def slotsUsed : Nat := 740
def theMethod : MethodId := ⟨1, 6⟩
def args0 : Array Value := #[.int 3, .int 5, .int 7, .int 9]
def aboutOver (below : List Frame) : State where
  vm := { classes := classes, interned := interned.toArray }
  heap := heap
  slotsUsed := slotsUsed
  threads := #[{ frames := .invoking theMethod args0 :: below }]
def below0 : List Frame := [.native { method := ⟨0, 0⟩, args := #[] }]
def about1 : State := aboutOver below0
def p0 : Program := .bare "" "" ""
def e0 : Env := launch0.env 0 0 0
theorem w_frames : about1.frames = Frame.invoking theMethod args0 :: below0 := rfl
set_option maxRecDepth 65536 in
theorem w_args : argsFit about1.vm theMethod args0 = true := by decide +kernel
set_option maxRecDepth 65536 in
theorem w_heap : heapFits about1 = true := by decide +kernel
set_option maxRecDepth 65536 in
theorem w_runnable : about1.curStatus? = some .runnable := by decide +kernel
set_option maxRecDepth 65536 in
theorem w_alone : about1.alone = true := by decide +kernel
set_option maxRecDepth 65536 in
theorem w_named : about1.methodNamed? x = some theMethod := by decide +kernel
set_option maxRecDepth 65536 in
theorem w_hears : about1.hears theMethod below0 = true := by decide +kernel
set_option maxRecDepth 65536 in
theorem w_ripe : about1.ripe theMethod args0 below0 = true := by decide +kernel
theorem w_running : about1.status = .running := rfl
set_option maxRecDepth 65536 in
theorem w_room : about1.hasRoom e0.platform room_1 = true :=
  launch0.hasRoom_least _ room_1 (by decide +kernel) (by decide +kernel) (by decide +kernel) (by decide +kernel) (by decide +kernel) (by decide +kernel)
theorem allAtoms_all (ts : List Jvm.Cond) (a : Array Jvm.Value) (st : Jvm.State) : (allAtoms ts).before a st = ts.all (fun c => c.before a st) := by
  induction ts with
  | nil => rfl
  | cons c t ih =>
    show (Jvm.Cond.and c (allAtoms t)).before a st = _
    rw [Jvm.Cond.before_and, ih, List.all_cons]
def words1 : List Jvm.Cond := Jvm.Cond.code x code maxLocals ret :: tables_1
/-- a 'code' word, met by the world's own term for the bytes: nothing is compared byte by byte -/
theorem code_word {y : MethodName} {bytes : ByteArray} {mx : Nat} {rt : Option FieldType} {a : Array Value} {s : State} {m : MethodId} {meth : Method} {c : Code} (h1 : s.methodNamed? y = some m) (h2 : s.vm.method? m = some meth) (h3 : meth.code = some c) (h4 : c.code = bytes)
    (h5 : (c.maxLocals == mx && c.exceptionTable.isEmpty && decide (c.maxStack ≤ mostOperands) && decide (meth.sig.returnType = rt) && !meth.locks && decide (parseMethodDescriptor y.desc = some meth.sig)) = true) : (Jvm.Cond.code y bytes mx rt).before a s = true := by
  simp only [Bool.and_eq_true, beq_iff_eq, Bool.not_eq_true', decide_eq_true_eq] at h5
  obtain ⟨⟨⟨⟨⟨g1, g2⟩, g3⟩, g4⟩, g5⟩, g6⟩ := h5
  simp [Cond.before, Cond.holds, Cond.value, h1, h2, h3, h4, g1, g2, g3, g4, g5, g6]
def isCode : Jvm.Cond → Bool
  | .code _ _ _ _ => true
  | _ => false
theorem all_split {L : List Jvm.Cond} {P : Jvm.Cond → Bool} (h1 : L.all (fun c => isCode c || P c) = true) (h2 : ∀ c ∈ L.filter isCode, P c = true) : L.all P = true := by
  refine List.all_eq_true.mpr fun c hc => ?_
  have h := List.all_eq_true.mp h1 c hc
  rcases Bool.eq_false_or_eq_true (isCode c) with hi | hi
  · exact h2 c (List.mem_filter.mpr ⟨hc, hi⟩)
  · simpa [hi] using h
set_option maxRecDepth 65536 in
theorem w_c0 : (Jvm.Cond.code x code maxLocals ret).before args0 about1 = true := code_word (m := ⟨1, 6⟩) (meth := k1m6) (c := k1c6) (by decide +kernel) rfl rfl rfl (by decide +kernel)
set_option maxRecDepth 65536 in
theorem w_c1 : (Jvm.Cond.code ({ cls := "java/util/ArrayList", name := "<init>", desc := "()V" } : Jvm.MethodName) jdk_38_method_2_code (1 : Nat) (Option.none : Option Jvm.ClassFile.FieldType)).before args0 about1 = true := code_word (m := ⟨11, 0⟩) (meth := k11m0) (c := k11c0) (by decide +kernel) rfl rfl rfl (by decide +kernel)
set_option maxRecDepth 65536 in
theorem w_c2 : (Jvm.Cond.code ({ cls := "java/util/AbstractList", name := "<init>", desc := "()V" } : Jvm.MethodName) jdk_39_method_1_code (1 : Nat) (Option.none : Option Jvm.ClassFile.FieldType)).before args0 about1 = true := code_word (m := ⟨7, 0⟩) (meth := k7m0) (c := k7c0) (by decide +kernel) rfl rfl rfl (by decide +kernel)
set_option maxRecDepth 65536 in
theorem w_c3 : (Jvm.Cond.code ({ cls := "java/util/AbstractCollection", name := "<init>", desc := "()V" } : Jvm.MethodName) jdk_22_method_1_code (1 : Nat) (Option.none : Option Jvm.ClassFile.FieldType)).before args0 about1 = true := code_word (m := ⟨4, 0⟩) (meth := k4m0) (c := k4c0) (by decide +kernel) rfl rfl rfl (by decide +kernel)
set_option maxRecDepth 65536 in
theorem w_c4 : (Jvm.Cond.code ({ cls := "java/lang/Object", name := "<init>", desc := "()V" } : Jvm.MethodName) object_method_1_code (1 : Nat) (Option.none : Option Jvm.ClassFile.FieldType)).before args0 about1 = true := code_word (m := ⟨0, 0⟩) (meth := k0m0) (c := k0c0) (by decide +kernel) rfl rfl rfl (by decide +kernel)
set_option maxRecDepth 65536 in
theorem w_c5 : (Jvm.Cond.code ({ cls := "com/example/guildtable/guildtable/table/Winners", name := "line", desc := "(Ljava/util/List;)Ljava/lang/String;" } : Jvm.MethodName) prog_12_method_3_code (4 : Nat) (Option.some (Jvm.ClassFile.FieldType.object "java/lang/String"))).before args0 about1 = true := code_word (m := ⟨12, 1⟩) (meth := k12m1) (c := k12c1) (by decide +kernel) rfl rfl rfl (by decide +kernel)
set_option maxRecDepth 65536 in
theorem w_c6 : (Jvm.Cond.code ({ cls := "java/lang/StringBuilder", name := "<init>", desc := "(Ljava/lang/String;)V" } : Jvm.MethodName) jdk_67_method_3_code (2 : Nat) (Option.none : Option Jvm.ClassFile.FieldType)).before args0 about1 = true := code_word (m := ⟨17, 1⟩) (meth := k17m1) (c := k17c1) (by decide +kernel) rfl rfl rfl (by decide +kernel)
set_option maxRecDepth 65536 in
theorem w_c7 : (Jvm.Cond.code ({ cls := "java/lang/AbstractStringBuilder", name := "<init>", desc := "(Ljava/lang/String;)V" } : Jvm.MethodName) jdk_68_method_3_code (5 : Nat) (Option.none : Option Jvm.ClassFile.FieldType)).before args0 about1 = true := code_word (m := ⟨15, 1⟩) (meth := k15m1) (c := k15c1) (by decide +kernel) rfl rfl rfl (by decide +kernel)
set_option maxRecDepth 65536 in
theorem w_c8 : (Jvm.Cond.code ({ cls := "java/lang/String", name := "length", desc := "()I" } : Jvm.MethodName) jdk_42_method_54_code (1 : Nat) (Option.some Jvm.ClassFile.FieldType.int)).before args0 about1 = true := code_word (m := ⟨20, 2⟩) (meth := k20m2) (c := k20c2) (by decide +kernel) rfl rfl rfl (by decide +kernel)
set_option maxRecDepth 65536 in
theorem w_c9 : (Jvm.Cond.code ({ cls := "java/lang/String", name := "coder", desc := "()B" } : Jvm.MethodName) jdk_42_method_152_code (1 : Nat) (Option.some Jvm.ClassFile.FieldType.byte)).before args0 about1 = true := code_word (m := ⟨20, 6⟩) (meth := k20m6) (c := k20c6) (by decide +kernel) rfl rfl rfl (by decide +kernel)
set_option maxRecDepth 65536 in
theorem w_c10 : (Jvm.Cond.code ({ cls := "java/lang/StringBuilder", name := "append", desc := "(Ljava/lang/String;)Ljava/lang/AbstractStringBuilder;" } : Jvm.MethodName) jdk_67_method_80_code (2 : Nat) (Option.some (Jvm.ClassFile.FieldType.object "java/lang/AbstractStringBuilder"))).before args0 about1 = true := code_word (m := ⟨17, 6⟩) (meth := k17m6) (c := k17c6) (by decide +kernel) rfl rfl rfl (by decide +kernel)
set_option maxRecDepth 65536 in
theorem w_c11 : (Jvm.Cond.code ({ cls := "java/lang/StringBuilder", name := "append", desc := "(Ljava/lang/String;)Ljava/lang/StringBuilder;" } : Jvm.MethodName) jdk_67_method_7_code (2 : Nat) (Option.some (Jvm.ClassFile.FieldType.object "java/lang/StringBuilder"))).before args0 about1 = true := code_word (m := ⟨17, 2⟩) (meth := k17m2) (c := k17c2) (by decide +kernel) rfl rfl rfl (by decide +kernel)
set_option maxRecDepth 65536 in
theorem w_c12 : (Jvm.Cond.code ({ cls := "java/lang/AbstractStringBuilder", name := "append", desc := "(Ljava/lang/String;)Ljava/lang/AbstractStringBuilder;" } : Jvm.MethodName) jdk_68_method_22_code (3 : Nat) (Option.some (Jvm.ClassFile.FieldType.object "java/lang/AbstractStringBuilder"))).before args0 about1 = true := code_word (m := ⟨15, 5⟩) (meth := k15m5) (c := k15c5) (by decide +kernel) rfl rfl rfl (by decide +kernel)
set_option maxRecDepth 65536 in
theorem w_c13 : (Jvm.Cond.code ({ cls := "java/lang/AbstractStringBuilder", name := "ensureCapacityInternal", desc := "(I)V" } : Jvm.MethodName) jdk_68_method_9_code (3 : Nat) (Option.none : Option Jvm.ClassFile.FieldType)).before args0 about1 = true := code_word (m := ⟨15, 3⟩) (meth := k15m3) (c := k15c3) (by decide +kernel) rfl rfl rfl (by decide +kernel)
set_option maxRecDepth 65536 in
theorem w_c14 : (Jvm.Cond.code ({ cls := "java/lang/AbstractStringBuilder", name := "putStringAt", desc := "(ILjava/lang/String;)V" } : Jvm.MethodName) jdk_68_method_73_code (3 : Nat) (Option.none : Option Jvm.ClassFile.FieldType)).before args0 about1 = true := code_word (m := ⟨15, 11⟩) (meth := k15m11) (c := k15c11) (by decide +kernel) rfl rfl rfl (by decide +kernel)
set_option maxRecDepth 65536 in
theorem w_c15 : (Jvm.Cond.code ({ cls := "java/lang/AbstractStringBuilder", name := "inflateIfNeededFor", desc := "(Ljava/lang/String;)V" } : Jvm.MethodName) jdk_68_method_71_code (2 : Nat) (Option.none : Option Jvm.ClassFile.FieldType)).before args0 about1 = true := code_word (m := ⟨15, 10⟩) (meth := k15m10) (c := k15c10) (by decide +kernel) rfl rfl rfl (by decide +kernel)
set_option maxRecDepth 65536 in
theorem w_c16 : (Jvm.Cond.code ({ cls := "java/lang/String", name := "getBytes", desc := "([BIB)V" } : Jvm.MethodName) jdk_42_method_147_code (4 : Nat) (Option.none : Option Jvm.ClassFile.FieldType)).before args0 about1 = true := code_word (m := ⟨20, 4⟩) (meth := k20m4) (c := k20c4) (by decide +kernel) rfl rfl rfl (by decide +kernel)
set_option maxRecDepth 65536 in
theorem w_c17 : (Jvm.Cond.code ({ cls := "java/util/ArrayList", name := "iterator", desc := "()Ljava/util/Iterator;" } : Jvm.MethodName) jdk_38_method_55_code (1 : Nat) (Option.some (Jvm.ClassFile.FieldType.object "java/util/Iterator"))).before args0 about1 = true := code_word (m := ⟨11, 5⟩) (meth := k11m5) (c := k11c5) (by decide +kernel) rfl rfl rfl (by decide +kernel)
set_option maxRecDepth 65536 in
theorem w_c18 : (Jvm.Cond.code ({ cls := "java/util/ArrayList$Itr", name := "<init>", desc := "(Ljava/util/ArrayList;)V" } : Jvm.MethodName) jdk_49_method_1_code (2 : Nat) (Option.none : Option Jvm.ClassFile.FieldType)).before args0 about1 = true := code_word (m := ⟨23, 0⟩) (meth := k23m0) (c := k23c0) (by decide +kernel) rfl rfl rfl (by decide +kernel)
set_option maxRecDepth 65536 in
theorem w_c19 : (Jvm.Cond.code ({ cls := "java/util/ArrayList$Itr", name := "hasNext", desc := "()Z" } : Jvm.MethodName) jdk_49_method_2_code (1 : Nat) (Option.some Jvm.ClassFile.FieldType.boolean)).before args0 about1 = true := code_word (m := ⟨23, 1⟩) (meth := k23m1) (c := k23c1) (by decide +kernel) rfl rfl rfl (by decide +kernel)
set_option maxRecDepth 65536 in
theorem w_c20 : (Jvm.Cond.code ({ cls := "java/lang/StringBuilder", name := "toString", desc := "()Ljava/lang/String;" } : Jvm.MethodName) jdk_67_method_42_code (1 : Nat) (Option.some (Jvm.ClassFile.FieldType.object "java/lang/String"))).before args0 about1 = true := code_word (m := ⟨17, 5⟩) (meth := k17m5) (c := k17c5) (by decide +kernel) rfl rfl rfl (by decide +kernel)
set_option maxRecDepth 65536 in
theorem w_c21 : (Jvm.Cond.code ({ cls := "java/lang/String", name := "<init>", desc := "(Ljava/lang/StringBuilder;)V" } : Jvm.MethodName) jdk_42_method_53_code (2 : Nat) (Option.none : Option Jvm.ClassFile.FieldType)).before args0 about1 = true := code_word (m := ⟨20, 1⟩) (meth := k20m1) (c := k20c1) (by decide +kernel) rfl rfl rfl (by decide +kernel)
set_option maxRecDepth 65536 in
theorem w_c22 : (Jvm.Cond.code ({ cls := "java/lang/String", name := "<init>", desc := "(Ljava/lang/AbstractStringBuilder;Ljava/lang/Void;)V" } : Jvm.MethodName) jdk_42_method_150_code (5 : Nat) (Option.none : Option Jvm.ClassFile.FieldType)).before args0 about1 = true := code_word (m := ⟨20, 5⟩) (meth := k20m5) (c := k20c5) (by decide +kernel) rfl rfl rfl (by decide +kernel)
set_option maxRecDepth 65536 in
theorem w_c23 : (Jvm.Cond.code ({ cls := "java/lang/AbstractStringBuilder", name := "getValue", desc := "()[B" } : Jvm.MethodName) jdk_68_method_64_code (1 : Nat) (Option.some (Jvm.ClassFile.FieldType.array Jvm.ClassFile.FieldType.byte))).before args0 about1 = true := code_word (m := ⟨15, 8⟩) (meth := k15m8) (c := k15c8) (by decide +kernel) rfl rfl rfl (by decide +kernel)
set_option maxRecDepth 65536 in
theorem w_c24 : (Jvm.Cond.code ({ cls := "java/lang/StringBuilder", name := "length", desc := "()I" } : Jvm.MethodName) jdk_67_method_93_code (1 : Nat) (Option.some Jvm.ClassFile.FieldType.int)).before args0 about1 = true := code_word (m := ⟨17, 7⟩) (meth := k17m7) (c := k17c7) (by decide +kernel) rfl rfl rfl (by decide +kernel)
set_option maxRecDepth 65536 in
theorem w_c25 : (Jvm.Cond.code ({ cls := "java/lang/AbstractStringBuilder", name := "length", desc := "()I" } : Jvm.MethodName) jdk_68_method_6_code (1 : Nat) (Option.some Jvm.ClassFile.FieldType.int)).before args0 about1 = true := code_word (m := ⟨15, 2⟩) (meth := k15m2) (c := k15c2) (by decide +kernel) rfl rfl rfl (by decide +kernel)
set_option maxRecDepth 65536 in
theorem w_c26 : (Jvm.Cond.code ({ cls := "java/lang/AbstractStringBuilder", name := "isLatin1", desc := "()Z" } : Jvm.MethodName) jdk_68_method_68_code (1 : Nat) (Option.some Jvm.ClassFile.FieldType.boolean)).before args0 about1 = true := code_word (m := ⟨15, 9⟩) (meth := k15m9) (c := k15c9) (by decide +kernel) rfl rfl rfl (by decide +kernel)
set_option maxRecDepth 65536 in
theorem w_c27 : (Jvm.Cond.code ({ cls := "java/util/Arrays", name := "copyOfRange", desc := "([BII)[B" } : Jvm.MethodName) jdk_65_method_132_code (3 : Nat) (Option.some (Jvm.ClassFile.FieldType.array Jvm.ClassFile.FieldType.byte))).before args0 about1 = true := code_word (m := ⟨24, 3⟩) (meth := k24m3) (c := k24c3) (by decide +kernel) rfl rfl rfl (by decide +kernel)
set_option maxRecDepth 65536 in
theorem w_c28 : (Jvm.Cond.code ({ cls := "java/util/Arrays", name := "copyOfRangeByte", desc := "([BII)[B" } : Jvm.MethodName) jdk_65_method_133_code (5 : Nat) (Option.some (Jvm.ClassFile.FieldType.array Jvm.ClassFile.FieldType.byte))).before args0 about1 = true := code_word (m := ⟨24, 4⟩) (meth := k24m4) (c := k24c4) (by decide +kernel) rfl rfl rfl (by decide +kernel)
set_option maxRecDepth 65536 in
theorem w_c29 : (Jvm.Cond.code ({ cls := "java/util/Arrays", name := "checkLength", desc := "(II)V" } : Jvm.MethodName) jdk_65_method_131_code (2 : Nat) (Option.none : Option Jvm.ClassFile.FieldType)).before args0 about1 = true := code_word (m := ⟨24, 2⟩) (meth := k24m2) (c := k24c2) (by decide +kernel) rfl rfl rfl (by decide +kernel)
set_option maxRecDepth 65536 in
theorem w_c30 : (Jvm.Cond.code ({ cls := "java/lang/Math", name := "min", desc := "(II)I" } : Jvm.MethodName) jdk_29_method_69_code (2 : Nat) (Option.some Jvm.ClassFile.FieldType.int)).before args0 about1 = true := code_word (m := ⟨25, 2⟩) (meth := k25m2) (c := k25c2) (by decide +kernel) rfl rfl rfl (by decide +kernel)
set_option maxRecDepth 65536 in
theorem w_c31 : (Jvm.Cond.code ({ cls := "java/lang/String", name := "charAt", desc := "(I)C" } : Jvm.MethodName) jdk_42_method_56_code (2 : Nat) (Option.some Jvm.ClassFile.FieldType.char)).before args0 about1 = true := code_word (m := ⟨20, 3⟩) (meth := k20m3) (c := k20c3) (by decide +kernel) rfl rfl rfl (by decide +kernel)
set_option maxRecDepth 65536 in
theorem w_c32 : (Jvm.Cond.code ({ cls := "java/lang/String", name := "isLatin1", desc := "()Z" } : Jvm.MethodName) jdk_42_method_154_code (1 : Nat) (Option.some Jvm.ClassFile.FieldType.boolean)).before args0 about1 = true := code_word (m := ⟨20, 7⟩) (meth := k20m7) (c := k20c7) (by decide +kernel) rfl rfl rfl (by decide +kernel)
set_option maxRecDepth 65536 in
theorem w_c33 : (Jvm.Cond.code ({ cls := "java/lang/StringLatin1", name := "charAt", desc := "([BI)C" } : Jvm.MethodName) jdk_43_method_2_code (2 : Nat) (Option.some Jvm.ClassFile.FieldType.char)).before args0 about1 = true := code_word (m := ⟨26, 1⟩) (meth := k26m1) (c := k26c1) (by decide +kernel) rfl rfl rfl (by decide +kernel)
set_option maxRecDepth 65536 in
theorem w_c34 : (Jvm.Cond.code ({ cls := "java/lang/String", name := "checkIndex", desc := "(II)V" } : Jvm.MethodName) jdk_42_method_155_code (2 : Nat) (Option.none : Option Jvm.ClassFile.FieldType)).before args0 about1 = true := code_word (m := ⟨20, 8⟩) (meth := k20m8) (c := k20c8) (by decide +kernel) rfl rfl rfl (by decide +kernel)
set_option maxRecDepth 65536 in
theorem w_c35 : (Jvm.Cond.code ({ cls := "jdk/internal/util/Preconditions", name := "checkIndex", desc := "(IILjava/util/function/BiFunction;)I" } : Jvm.MethodName) jdk_41_method_11_code (3 : Nat) (Option.some Jvm.ClassFile.FieldType.int)).before args0 about1 = true := code_word (m := ⟨27, 1⟩) (meth := k27m1) (c := k27c1) (by decide +kernel) rfl rfl rfl (by decide +kernel)
set_option maxRecDepth 65536 in
theorem w_c36 : (Jvm.Cond.code ({ cls := "java/lang/Integer", name := "valueOf", desc := "(I)Ljava/lang/Integer;" } : Jvm.MethodName) jdk_33_method_22_code (1 : Nat) (Option.some (Jvm.ClassFile.FieldType.object "java/lang/Integer"))).before args0 about1 = true := code_word (m := ⟨29, 2⟩) (meth := k29m2) (c := k29c2) (by decide +kernel) rfl rfl rfl (by decide +kernel)
set_option maxRecDepth 65536 in
theorem w_c37 : (Jvm.Cond.code ({ cls := "java/lang/Integer", name := "<init>", desc := "(I)V" } : Jvm.MethodName) jdk_33_method_23_code (2 : Nat) (Option.none : Option Jvm.ClassFile.FieldType)).before args0 about1 = true := code_word (m := ⟨29, 3⟩) (meth := k29m3) (c := k29c3) (by decide +kernel) rfl rfl rfl (by decide +kernel)
set_option maxRecDepth 65536 in
theorem w_c38 : (Jvm.Cond.code ({ cls := "java/lang/Number", name := "<init>", desc := "()V" } : Jvm.MethodName) jdk_18_method_1_code (1 : Nat) (Option.none : Option Jvm.ClassFile.FieldType)).before args0 about1 = true := code_word (m := ⟨28, 0⟩) (meth := k28m0) (c := k28c0) (by decide +kernel) rfl rfl rfl (by decide +kernel)
set_option maxRecDepth 65536 in
theorem w_c39 : (Jvm.Cond.code ({ cls := "java/util/ArrayList", name := "add", desc := "(Ljava/lang/Object;)Z" } : Jvm.MethodName) jdk_38_method_25_code (2 : Nat) (Option.some Jvm.ClassFile.FieldType.boolean)).before args0 about1 = true := code_word (m := ⟨11, 4⟩) (meth := k11m4) (c := k11c4) (by decide +kernel) rfl rfl rfl (by decide +kernel)
set_option maxRecDepth 65536 in
theorem w_c40 : (Jvm.Cond.code ({ cls := "java/util/ArrayList", name := "add", desc := "(Ljava/lang/Object;[Ljava/lang/Object;I)V" } : Jvm.MethodName) jdk_38_method_24_code (4 : Nat) (Option.none : Option Jvm.ClassFile.FieldType)).before args0 about1 = true := code_word (m := ⟨11, 3⟩) (meth := k11m3) (c := k11c3) (by decide +kernel) rfl rfl rfl (by decide +kernel)
set_option maxRecDepth 65536 in
theorem w_c41 : (Jvm.Cond.code ({ cls := "java/util/ArrayList", name := "grow", desc := "()[Ljava/lang/Object;" } : Jvm.MethodName) jdk_38_method_7_code (1 : Nat) (Option.some (Jvm.ClassFile.FieldType.array (Jvm.ClassFile.FieldType.object "java/lang/Object")))).before args0 about1 = true := code_word (m := ⟨11, 2⟩) (meth := k11m2) (c := k11c2) (by decide +kernel) rfl rfl rfl (by decide +kernel)
set_option maxRecDepth 65536 in
theorem w_c42 : (Jvm.Cond.code ({ cls := "java/util/ArrayList", name := "grow", desc := "(I)[Ljava/lang/Object;" } : Jvm.MethodName) jdk_38_method_6_code (4 : Nat) (Option.some (Jvm.ClassFile.FieldType.array (Jvm.ClassFile.FieldType.object "java/lang/Object")))).before args0 about1 = true := code_word (m := ⟨11, 1⟩) (meth := k11m1) (c := k11c1) (by decide +kernel) rfl rfl rfl (by decide +kernel)
set_option maxRecDepth 65536 in
theorem w_c43 : (Jvm.Cond.code ({ cls := "java/lang/Math", name := "max", desc := "(II)I" } : Jvm.MethodName) jdk_29_method_65_code (2 : Nat) (Option.some Jvm.ClassFile.FieldType.int)).before args0 about1 = true := code_word (m := ⟨25, 1⟩) (meth := k25m1) (c := k25c1) (by decide +kernel) rfl rfl rfl (by decide +kernel)
set_option maxRecDepth 65536 in
theorem w_c44 : (Jvm.Cond.code ({ cls := "java/util/ArrayList$Itr", name := "next", desc := "()Ljava/lang/Object;" } : Jvm.MethodName) jdk_49_method_3_code (3 : Nat) (Option.some (Jvm.ClassFile.FieldType.object "java/lang/Object"))).before args0 about1 = true := code_word (m := ⟨23, 2⟩) (meth := k23m2) (c := k23c2) (by decide +kernel) rfl rfl rfl (by decide +kernel)
set_option maxRecDepth 65536 in
theorem w_c45 : (Jvm.Cond.code ({ cls := "java/util/ArrayList$Itr", name := "checkForComodification", desc := "()V" } : Jvm.MethodName) jdk_49_method_6_code (1 : Nat) (Option.none : Option Jvm.ClassFile.FieldType)).before args0 about1 = true := code_word (m := ⟨23, 3⟩) (meth := k23m3) (c := k23c3) (by decide +kernel) rfl rfl rfl (by decide +kernel)
set_option maxRecDepth 65536 in
theorem w_c46 : (Jvm.Cond.code ({ cls := "java/lang/Integer", name := "intValue", desc := "()I" } : Jvm.MethodName) jdk_33_method_27_code (1 : Nat) (Option.some Jvm.ClassFile.FieldType.int)).before args0 about1 = true := code_word (m := ⟨29, 4⟩) (meth := k29m4) (c := k29c4) (by decide +kernel) rfl rfl rfl (by decide +kernel)
set_option maxRecDepth 65536 in
theorem w_c47 : (Jvm.Cond.code ({ cls := "java/lang/StringBuilder", name := "append", desc := "(C)Ljava/lang/StringBuilder;" } : Jvm.MethodName) jdk_67_method_14_code (2 : Nat) (Option.some (Jvm.ClassFile.FieldType.object "java/lang/StringBuilder"))).before args0 about1 = true := code_word (m := ⟨17, 3⟩) (meth := k17m3) (c := k17c3) (by decide +kernel) rfl rfl rfl (by decide +kernel)
set_option maxRecDepth 65536 in
theorem w_c48 : (Jvm.Cond.code ({ cls := "java/lang/AbstractStringBuilder", name := "append", desc := "(C)Ljava/lang/AbstractStringBuilder;" } : Jvm.MethodName) jdk_68_method_31_code (2 : Nat) (Option.some (Jvm.ClassFile.FieldType.object "java/lang/AbstractStringBuilder"))).before args0 about1 = true := code_word (m := ⟨15, 6⟩) (meth := k15m6) (c := k15c6) (by decide +kernel) rfl rfl rfl (by decide +kernel)
set_option maxRecDepth 65536 in
theorem w_c49 : (Jvm.Cond.code ({ cls := "java/lang/StringLatin1", name := "canEncode", desc := "(C)Z" } : Jvm.MethodName) jdk_43_method_3_code (1 : Nat) (Option.some Jvm.ClassFile.FieldType.boolean)).before args0 about1 = true := code_word (m := ⟨26, 2⟩) (meth := k26m2) (c := k26c2) (by decide +kernel) rfl rfl rfl (by decide +kernel)
set_option maxRecDepth 65536 in
theorem w_c50 : (Jvm.Cond.code ({ cls := "java/lang/StringBuilder", name := "append", desc := "(I)Ljava/lang/StringBuilder;" } : Jvm.MethodName) jdk_67_method_15_code (2 : Nat) (Option.some (Jvm.ClassFile.FieldType.object "java/lang/StringBuilder"))).before args0 about1 = true := code_word (m := ⟨17, 4⟩) (meth := k17m4) (c := k17c4) (by decide +kernel) rfl rfl rfl (by decide +kernel)
set_option maxRecDepth 65536 in
theorem w_c51 : (Jvm.Cond.code ({ cls := "java/lang/AbstractStringBuilder", name := "append", desc := "(I)Ljava/lang/AbstractStringBuilder;" } : Jvm.MethodName) jdk_68_method_32_code (4 : Nat) (Option.some (Jvm.ClassFile.FieldType.object "java/lang/AbstractStringBuilder"))).before args0 about1 = true := code_word (m := ⟨15, 7⟩) (meth := k15m7) (c := k15c7) (by decide +kernel) rfl rfl rfl (by decide +kernel)
set_option maxRecDepth 65536 in
theorem w_c52 : (Jvm.Cond.code ({ cls := "java/lang/Integer", name := "stringSize", desc := "(I)I" } : Jvm.MethodName) jdk_33_method_13_code (4 : Nat) (Option.some Jvm.ClassFile.FieldType.int)).before args0 about1 = true := code_word (m := ⟨29, 1⟩) (meth := k29m1) (c := k29c1) (by decide +kernel) rfl rfl rfl (by decide +kernel)
set_option maxRecDepth 65536 in
theorem w_c53 : (Jvm.Cond.code ({ cls := "java/lang/Integer", name := "getChars", desc := "(II[B)I" } : Jvm.MethodName) jdk_33_method_12_code (7 : Nat) (Option.some Jvm.ClassFile.FieldType.int)).before args0 about1 = true := code_word (m := ⟨29, 0⟩) (meth := k29m0) (c := k29c0) (by decide +kernel) rfl rfl rfl (by decide +kernel)
set_option maxRecDepth 65536 in
theorem w_c54 : (Jvm.Cond.code ({ cls := "com/example/guildtable/guildtable/table/WinnersLinePinLaw", name := "segLen", desc := "(I)I" } : Jvm.MethodName) method_4_code (1 : Nat) (Option.some Jvm.ClassFile.FieldType.int)).before args0 about1 = true := code_word (m := ⟨1, 3⟩) (meth := k1m3) (c := k1c3) (by decide +kernel) rfl rfl rfl (by decide +kernel)
set_option maxRecDepth 65536 in
theorem w_c55 : (Jvm.Cond.code ({ cls := "com/example/guildtable/guildtable/table/WinnersLinePinLaw", name := "mag", desc := "(I)J" } : Jvm.MethodName) method_2_code (1 : Nat) (Option.some Jvm.ClassFile.FieldType.long)).before args0 about1 = true := code_word (m := ⟨1, 1⟩) (meth := k1m1) (c := k1c1) (by decide +kernel) rfl rfl rfl (by decide +kernel)
set_option maxRecDepth 65536 in
theorem w_c56 : (Jvm.Cond.code ({ cls := "com/example/guildtable/guildtable/table/WinnersLinePinLaw", name := "ndig", desc := "(J)I" } : Jvm.MethodName) method_3_code (2 : Nat) (Option.some Jvm.ClassFile.FieldType.int)).before args0 about1 = true := code_word (m := ⟨1, 2⟩) (meth := k1m2) (c := k1c2) (by decide +kernel) rfl rfl rfl (by decide +kernel)
set_option maxRecDepth 65536 in
theorem w_c57 : (Jvm.Cond.code ({ cls := "com/example/guildtable/guildtable/table/WinnersLinePinLaw", name := "seg", desc := "(Ljava/lang/String;II)Z" } : Jvm.MethodName) method_6_code (8 : Nat) (Option.some Jvm.ClassFile.FieldType.boolean)).before args0 about1 = true := code_word (m := ⟨1, 5⟩) (meth := k1m5) (c := k1c5) (by decide +kernel) rfl rfl rfl (by decide +kernel)
set_option maxRecDepth 65536 in
theorem w_c58 : (Jvm.Cond.code ({ cls := "com/example/guildtable/guildtable/table/WinnersLinePinLaw", name := "dig", desc := "(J)C" } : Jvm.MethodName) method_5_code (2 : Nat) (Option.some Jvm.ClassFile.FieldType.char)).before args0 about1 = true := code_word (m := ⟨1, 4⟩) (meth := k1m4) (c := k1c4) (by decide +kernel) rfl rfl rfl (by decide +kernel)
set_option maxRecDepth 65536 in
theorem w_c59 : (Jvm.Cond.code ({ cls := "java/lang/AbstractStringBuilder", name := "newCapacity", desc := "(I)I" } : Jvm.MethodName) jdk_68_method_10_code (6 : Nat) (Option.some Jvm.ClassFile.FieldType.int)).before args0 about1 = true := code_word (m := ⟨15, 4⟩) (meth := k15m4) (c := k15c4) (by decide +kernel) rfl rfl rfl (by decide +kernel)
set_option maxRecDepth 65536 in
theorem w_c60 : (Jvm.Cond.code ({ cls := "jdk/internal/util/ArraysSupport", name := "newLength", desc := "(III)I" } : Jvm.MethodName) jdk_48_method_27_code (4 : Nat) (Option.some Jvm.ClassFile.FieldType.int)).before args0 about1 = true := code_word (m := ⟨31, 1⟩) (meth := k31m1) (c := k31c1) (by decide +kernel) rfl rfl rfl (by decide +kernel)
set_option maxRecDepth 65536 in
theorem w_c61 : (Jvm.Cond.code ({ cls := "java/util/Arrays", name := "copyOf", desc := "([BI)[B" } : Jvm.MethodName) jdk_65_method_121_code (3 : Nat) (Option.some (Jvm.ClassFile.FieldType.array Jvm.ClassFile.FieldType.byte))).before args0 about1 = true := code_word (m := ⟨24, 1⟩) (meth := k24m1) (c := k24c1) (by decide +kernel) rfl rfl rfl (by decide +kernel)
def codes1 : List Jvm.Cond := [Jvm.Cond.code x code maxLocals ret, Jvm.Cond.code ({ cls := "java/util/ArrayList", name := "<init>", desc := "()V" } : Jvm.MethodName) jdk_38_method_2_code (1 : Nat) (Option.none : Option Jvm.ClassFile.FieldType), Jvm.Cond.code ({ cls := "java/util/AbstractList", name := "<init>", desc := "()V" } : Jvm.MethodName) jdk_39_method_1_code (1 : Nat) (Option.none : Option Jvm.ClassFile.FieldType), Jvm.Cond.code ({ cls := "java/util/AbstractCollection", name := "<init>", desc := "()V" } : Jvm.MethodName) jdk_22_method_1_code (1 : Nat) (Option.none : Option Jvm.ClassFile.FieldType), Jvm.Cond.code ({ cls := "java/lang/Object", name := "<init>", desc := "()V" } : Jvm.MethodName) object_method_1_code (1 : Nat) (Option.none : Option Jvm.ClassFile.FieldType), Jvm.Cond.code ({ cls := "com/example/guildtable/guildtable/table/Winners", name := "line", desc := "(Ljava/util/List;)Ljava/lang/String;" } : Jvm.MethodName) prog_12_method_3_code (4 : Nat) (Option.some (Jvm.ClassFile.FieldType.object "java/lang/String")), Jvm.Cond.code ({ cls := "java/lang/StringBuilder", name := "<init>", desc := "(Ljava/lang/String;)V" } : Jvm.MethodName) jdk_67_method_3_code (2 : Nat) (Option.none : Option Jvm.ClassFile.FieldType), Jvm.Cond.code ({ cls := "java/lang/AbstractStringBuilder", name := "<init>", desc := "(Ljava/lang/String;)V" } : Jvm.MethodName) jdk_68_method_3_code (5 : Nat) (Option.none : Option Jvm.ClassFile.FieldType), Jvm.Cond.code ({ cls := "java/lang/String", name := "length", desc := "()I" } : Jvm.MethodName) jdk_42_method_54_code (1 : Nat) (Option.some Jvm.ClassFile.FieldType.int), Jvm.Cond.code ({ cls := "java/lang/String", name := "coder", desc := "()B" } : Jvm.MethodName) jdk_42_method_152_code (1 : Nat) (Option.some Jvm.ClassFile.FieldType.byte), Jvm.Cond.code ({ cls := "java/lang/StringBuilder", name := "append", desc := "(Ljava/lang/String;)Ljava/lang/AbstractStringBuilder;" } : Jvm.MethodName) jdk_67_method_80_code (2 : Nat) (Option.some (Jvm.ClassFile.FieldType.object "java/lang/AbstractStringBuilder")), Jvm.Cond.code ({ cls := "java/lang/StringBuilder", name := "append", desc := "(Ljava/lang/String;)Ljava/lang/StringBuilder;" } : Jvm.MethodName) jdk_67_method_7_code (2 : Nat) (Option.some (Jvm.ClassFile.FieldType.object "java/lang/StringBuilder")), Jvm.Cond.code ({ cls := "java/lang/AbstractStringBuilder", name := "append", desc := "(Ljava/lang/String;)Ljava/lang/AbstractStringBuilder;" } : Jvm.MethodName) jdk_68_method_22_code (3 : Nat) (Option.some (Jvm.ClassFile.FieldType.object "java/lang/AbstractStringBuilder")), Jvm.Cond.code ({ cls := "java/lang/AbstractStringBuilder", name := "ensureCapacityInternal", desc := "(I)V" } : Jvm.MethodName) jdk_68_method_9_code (3 : Nat) (Option.none : Option Jvm.ClassFile.FieldType), Jvm.Cond.code ({ cls := "java/lang/AbstractStringBuilder", name := "putStringAt", desc := "(ILjava/lang/String;)V" } : Jvm.MethodName) jdk_68_method_73_code (3 : Nat) (Option.none : Option Jvm.ClassFile.FieldType), Jvm.Cond.code ({ cls := "java/lang/AbstractStringBuilder", name := "inflateIfNeededFor", desc := "(Ljava/lang/String;)V" } : Jvm.MethodName) jdk_68_method_71_code (2 : Nat) (Option.none : Option Jvm.ClassFile.FieldType), Jvm.Cond.code ({ cls := "java/lang/String", name := "getBytes", desc := "([BIB)V" } : Jvm.MethodName) jdk_42_method_147_code (4 : Nat) (Option.none : Option Jvm.ClassFile.FieldType), Jvm.Cond.code ({ cls := "java/util/ArrayList", name := "iterator", desc := "()Ljava/util/Iterator;" } : Jvm.MethodName) jdk_38_method_55_code (1 : Nat) (Option.some (Jvm.ClassFile.FieldType.object "java/util/Iterator")), Jvm.Cond.code ({ cls := "java/util/ArrayList$Itr", name := "<init>", desc := "(Ljava/util/ArrayList;)V" } : Jvm.MethodName) jdk_49_method_1_code (2 : Nat) (Option.none : Option Jvm.ClassFile.FieldType), Jvm.Cond.code ({ cls := "java/util/ArrayList$Itr", name := "hasNext", desc := "()Z" } : Jvm.MethodName) jdk_49_method_2_code (1 : Nat) (Option.some Jvm.ClassFile.FieldType.boolean), Jvm.Cond.code ({ cls := "java/lang/StringBuilder", name := "toString", desc := "()Ljava/lang/String;" } : Jvm.MethodName) jdk_67_method_42_code (1 : Nat) (Option.some (Jvm.ClassFile.FieldType.object "java/lang/String")), Jvm.Cond.code ({ cls := "java/lang/String", name := "<init>", desc := "(Ljava/lang/StringBuilder;)V" } : Jvm.MethodName) jdk_42_method_53_code (2 : Nat) (Option.none : Option Jvm.ClassFile.FieldType), Jvm.Cond.code ({ cls := "java/lang/String", name := "<init>", desc := "(Ljava/lang/AbstractStringBuilder;Ljava/lang/Void;)V" } : Jvm.MethodName) jdk_42_method_150_code (5 : Nat) (Option.none : Option Jvm.ClassFile.FieldType), Jvm.Cond.code ({ cls := "java/lang/AbstractStringBuilder", name := "getValue", desc := "()[B" } : Jvm.MethodName) jdk_68_method_64_code (1 : Nat) (Option.some (Jvm.ClassFile.FieldType.array Jvm.ClassFile.FieldType.byte)), Jvm.Cond.code ({ cls := "java/lang/StringBuilder", name := "length", desc := "()I" } : Jvm.MethodName) jdk_67_method_93_code (1 : Nat) (Option.some Jvm.ClassFile.FieldType.int), Jvm.Cond.code ({ cls := "java/lang/AbstractStringBuilder", name := "length", desc := "()I" } : Jvm.MethodName) jdk_68_method_6_code (1 : Nat) (Option.some Jvm.ClassFile.FieldType.int), Jvm.Cond.code ({ cls := "java/lang/AbstractStringBuilder", name := "isLatin1", desc := "()Z" } : Jvm.MethodName) jdk_68_method_68_code (1 : Nat) (Option.some Jvm.ClassFile.FieldType.boolean), Jvm.Cond.code ({ cls := "java/util/Arrays", name := "copyOfRange", desc := "([BII)[B" } : Jvm.MethodName) jdk_65_method_132_code (3 : Nat) (Option.some (Jvm.ClassFile.FieldType.array Jvm.ClassFile.FieldType.byte)), Jvm.Cond.code ({ cls := "java/util/Arrays", name := "copyOfRangeByte", desc := "([BII)[B" } : Jvm.MethodName) jdk_65_method_133_code (5 : Nat) (Option.some (Jvm.ClassFile.FieldType.array Jvm.ClassFile.FieldType.byte)), Jvm.Cond.code ({ cls := "java/util/Arrays", name := "checkLength", desc := "(II)V" } : Jvm.MethodName) jdk_65_method_131_code (2 : Nat) (Option.none : Option Jvm.ClassFile.FieldType), Jvm.Cond.code ({ cls := "java/lang/Math", name := "min", desc := "(II)I" } : Jvm.MethodName) jdk_29_method_69_code (2 : Nat) (Option.some Jvm.ClassFile.FieldType.int), Jvm.Cond.code ({ cls := "java/lang/String", name := "charAt", desc := "(I)C" } : Jvm.MethodName) jdk_42_method_56_code (2 : Nat) (Option.some Jvm.ClassFile.FieldType.char), Jvm.Cond.code ({ cls := "java/lang/String", name := "isLatin1", desc := "()Z" } : Jvm.MethodName) jdk_42_method_154_code (1 : Nat) (Option.some Jvm.ClassFile.FieldType.boolean), Jvm.Cond.code ({ cls := "java/lang/StringLatin1", name := "charAt", desc := "([BI)C" } : Jvm.MethodName) jdk_43_method_2_code (2 : Nat) (Option.some Jvm.ClassFile.FieldType.char), Jvm.Cond.code ({ cls := "java/lang/String", name := "checkIndex", desc := "(II)V" } : Jvm.MethodName) jdk_42_method_155_code (2 : Nat) (Option.none : Option Jvm.ClassFile.FieldType), Jvm.Cond.code ({ cls := "jdk/internal/util/Preconditions", name := "checkIndex", desc := "(IILjava/util/function/BiFunction;)I" } : Jvm.MethodName) jdk_41_method_11_code (3 : Nat) (Option.some Jvm.ClassFile.FieldType.int), Jvm.Cond.code ({ cls := "java/lang/Integer", name := "valueOf", desc := "(I)Ljava/lang/Integer;" } : Jvm.MethodName) jdk_33_method_22_code (1 : Nat) (Option.some (Jvm.ClassFile.FieldType.object "java/lang/Integer")), Jvm.Cond.code ({ cls := "java/lang/Integer", name := "<init>", desc := "(I)V" } : Jvm.MethodName) jdk_33_method_23_code (2 : Nat) (Option.none : Option Jvm.ClassFile.FieldType), Jvm.Cond.code ({ cls := "java/lang/Number", name := "<init>", desc := "()V" } : Jvm.MethodName) jdk_18_method_1_code (1 : Nat) (Option.none : Option Jvm.ClassFile.FieldType), Jvm.Cond.code ({ cls := "java/util/ArrayList", name := "add", desc := "(Ljava/lang/Object;)Z" } : Jvm.MethodName) jdk_38_method_25_code (2 : Nat) (Option.some Jvm.ClassFile.FieldType.boolean), Jvm.Cond.code ({ cls := "java/util/ArrayList", name := "add", desc := "(Ljava/lang/Object;[Ljava/lang/Object;I)V" } : Jvm.MethodName) jdk_38_method_24_code (4 : Nat) (Option.none : Option Jvm.ClassFile.FieldType), Jvm.Cond.code ({ cls := "java/util/ArrayList", name := "grow", desc := "()[Ljava/lang/Object;" } : Jvm.MethodName) jdk_38_method_7_code (1 : Nat) (Option.some (Jvm.ClassFile.FieldType.array (Jvm.ClassFile.FieldType.object "java/lang/Object"))), Jvm.Cond.code ({ cls := "java/util/ArrayList", name := "grow", desc := "(I)[Ljava/lang/Object;" } : Jvm.MethodName) jdk_38_method_6_code (4 : Nat) (Option.some (Jvm.ClassFile.FieldType.array (Jvm.ClassFile.FieldType.object "java/lang/Object"))), Jvm.Cond.code ({ cls := "java/lang/Math", name := "max", desc := "(II)I" } : Jvm.MethodName) jdk_29_method_65_code (2 : Nat) (Option.some Jvm.ClassFile.FieldType.int), Jvm.Cond.code ({ cls := "java/util/ArrayList$Itr", name := "next", desc := "()Ljava/lang/Object;" } : Jvm.MethodName) jdk_49_method_3_code (3 : Nat) (Option.some (Jvm.ClassFile.FieldType.object "java/lang/Object")), Jvm.Cond.code ({ cls := "java/util/ArrayList$Itr", name := "checkForComodification", desc := "()V" } : Jvm.MethodName) jdk_49_method_6_code (1 : Nat) (Option.none : Option Jvm.ClassFile.FieldType), Jvm.Cond.code ({ cls := "java/lang/Integer", name := "intValue", desc := "()I" } : Jvm.MethodName) jdk_33_method_27_code (1 : Nat) (Option.some Jvm.ClassFile.FieldType.int), Jvm.Cond.code ({ cls := "java/lang/StringBuilder", name := "append", desc := "(C)Ljava/lang/StringBuilder;" } : Jvm.MethodName) jdk_67_method_14_code (2 : Nat) (Option.some (Jvm.ClassFile.FieldType.object "java/lang/StringBuilder")), Jvm.Cond.code ({ cls := "java/lang/AbstractStringBuilder", name := "append", desc := "(C)Ljava/lang/AbstractStringBuilder;" } : Jvm.MethodName) jdk_68_method_31_code (2 : Nat) (Option.some (Jvm.ClassFile.FieldType.object "java/lang/AbstractStringBuilder")), Jvm.Cond.code ({ cls := "java/lang/StringLatin1", name := "canEncode", desc := "(C)Z" } : Jvm.MethodName) jdk_43_method_3_code (1 : Nat) (Option.some Jvm.ClassFile.FieldType.boolean), Jvm.Cond.code ({ cls := "java/lang/StringBuilder", name := "append", desc := "(I)Ljava/lang/StringBuilder;" } : Jvm.MethodName) jdk_67_method_15_code (2 : Nat) (Option.some (Jvm.ClassFile.FieldType.object "java/lang/StringBuilder")), Jvm.Cond.code ({ cls := "java/lang/AbstractStringBuilder", name := "append", desc := "(I)Ljava/lang/AbstractStringBuilder;" } : Jvm.MethodName) jdk_68_method_32_code (4 : Nat) (Option.some (Jvm.ClassFile.FieldType.object "java/lang/AbstractStringBuilder")), Jvm.Cond.code ({ cls := "java/lang/Integer", name := "stringSize", desc := "(I)I" } : Jvm.MethodName) jdk_33_method_13_code (4 : Nat) (Option.some Jvm.ClassFile.FieldType.int), Jvm.Cond.code ({ cls := "java/lang/Integer", name := "getChars", desc := "(II[B)I" } : Jvm.MethodName) jdk_33_method_12_code (7 : Nat) (Option.some Jvm.ClassFile.FieldType.int), Jvm.Cond.code ({ cls := "com/example/guildtable/guildtable/table/WinnersLinePinLaw", name := "segLen", desc := "(I)I" } : Jvm.MethodName) method_4_code (1 : Nat) (Option.some Jvm.ClassFile.FieldType.int), Jvm.Cond.code ({ cls := "com/example/guildtable/guildtable/table/WinnersLinePinLaw", name := "mag", desc := "(I)J" } : Jvm.MethodName) method_2_code (1 : Nat) (Option.some Jvm.ClassFile.FieldType.long), Jvm.Cond.code ({ cls := "com/example/guildtable/guildtable/table/WinnersLinePinLaw", name := "ndig", desc := "(J)I" } : Jvm.MethodName) method_3_code (2 : Nat) (Option.some Jvm.ClassFile.FieldType.int), Jvm.Cond.code ({ cls := "com/example/guildtable/guildtable/table/WinnersLinePinLaw", name := "seg", desc := "(Ljava/lang/String;II)Z" } : Jvm.MethodName) method_6_code (8 : Nat) (Option.some Jvm.ClassFile.FieldType.boolean), Jvm.Cond.code ({ cls := "com/example/guildtable/guildtable/table/WinnersLinePinLaw", name := "dig", desc := "(J)C" } : Jvm.MethodName) method_5_code (2 : Nat) (Option.some Jvm.ClassFile.FieldType.char), Jvm.Cond.code ({ cls := "java/lang/AbstractStringBuilder", name := "newCapacity", desc := "(I)I" } : Jvm.MethodName) jdk_68_method_10_code (6 : Nat) (Option.some Jvm.ClassFile.FieldType.int), Jvm.Cond.code ({ cls := "jdk/internal/util/ArraysSupport", name := "newLength", desc := "(III)I" } : Jvm.MethodName) jdk_48_method_27_code (4 : Nat) (Option.some Jvm.ClassFile.FieldType.int), Jvm.Cond.code ({ cls := "java/util/Arrays", name := "copyOf", desc := "([BI)[B" } : Jvm.MethodName) jdk_65_method_121_code (3 : Nat) (Option.some (Jvm.ClassFile.FieldType.array Jvm.ClassFile.FieldType.byte))]
set_option maxRecDepth 65536 in
theorem codes_eq : words1.filter isCode = codes1 := rfl
theorem w_codes : ∀ c ∈ words1.filter isCode, c.before args0 about1 = true := by
  rw [codes_eq]
  intro c hc
  simp only [codes1, List.mem_cons, List.not_mem_nil, or_false] at hc
  rcases hc with rfl | rfl | rfl | rfl | rfl | rfl | rfl | rfl | rfl | rfl | rfl | rfl | rfl | rfl | rfl | rfl | rfl | rfl | rfl | rfl | rfl | rfl | rfl | rfl | rfl | rfl | rfl | rfl | rfl | rfl | rfl | rfl | rfl | rfl | rfl | rfl | rfl | rfl | rfl | rfl | rfl | rfl | rfl | rfl | rfl | rfl | rfl | rfl | rfl | rfl | rfl | rfl | rfl | rfl | rfl | rfl | rfl | rfl | rfl | rfl | rfl | rfl
  · exact w_c0
  · exact w_c1
  · exact w_c2
  · exact w_c3
  · exact w_c4
  · exact w_c5
  · exact w_c6
  · exact w_c7
  · exact w_c8
  · exact w_c9
  · exact w_c10
  · exact w_c11
  · exact w_c12
  · exact w_c13
  · exact w_c14
  · exact w_c15
  · exact w_c16
  · exact w_c17
  · exact w_c18
  · exact w_c19
  · exact w_c20
  · exact w_c21
  · exact w_c22
  · exact w_c23
  · exact w_c24
  · exact w_c25
  · exact w_c26
  · exact w_c27
  · exact w_c28
  · exact w_c29
  · exact w_c30
  · exact w_c31
  · exact w_c32
  · exact w_c33
  · exact w_c34
  · exact w_c35
  · exact w_c36
  · exact w_c37
  · exact w_c38
  · exact w_c39
  · exact w_c40
  · exact w_c41
  · exact w_c42
  · exact w_c43
  · exact w_c44
  · exact w_c45
  · exact w_c46
  · exact w_c47
  · exact w_c48
  · exact w_c49
  · exact w_c50
  · exact w_c51
  · exact w_c52
  · exact w_c53
  · exact w_c54
  · exact w_c55
  · exact w_c56
  · exact w_c57
  · exact w_c58
  · exact w_c59
  · exact w_c60
  · exact w_c61
set_option maxRecDepth 65536 in
theorem w_t1 : (words1.take 24).all (fun c => isCode c || c.before args0 about1) = true := by decide +kernel
set_option maxRecDepth 65536 in
theorem w_t2 : ((words1.drop 24).take 24).all (fun c => isCode c || c.before args0 about1) = true := by decide +kernel
set_option maxRecDepth 65536 in
theorem w_t3 : (((words1.drop 24).drop 24).take 24).all (fun c => isCode c || c.before args0 about1) = true := by decide +kernel
set_option maxRecDepth 65536 in
theorem w_t4 : ((((words1.drop 24).drop 24).drop 24).take 24).all (fun c => isCode c || c.before args0 about1) = true := by decide +kernel
set_option maxRecDepth 65536 in
theorem w_t5 : (((((words1.drop 24).drop 24).drop 24).drop 24).take 24).all (fun c => isCode c || c.before args0 about1) = true := by decide +kernel
set_option maxRecDepth 65536 in
theorem w_t6 : ((((((words1.drop 24).drop 24).drop 24).drop 24).drop 24).take 24).all (fun c => isCode c || c.before args0 about1) = true := by decide +kernel
set_option maxRecDepth 65536 in
theorem w_t7 : (((((((words1.drop 24).drop 24).drop 24).drop 24).drop 24).drop 24).take 24).all (fun c => isCode c || c.before args0 about1) = true := by decide +kernel
set_option maxRecDepth 65536 in
theorem w_t8 : ((((((((words1.drop 24).drop 24).drop 24).drop 24).drop 24).drop 24).drop 24).take 24).all (fun c => isCode c || c.before args0 about1) = true := by decide +kernel
set_option maxRecDepth 65536 in
theorem w_t9 : (((((((((words1.drop 24).drop 24).drop 24).drop 24).drop 24).drop 24).drop 24).drop 24).take 24).all (fun c => isCode c || c.before args0 about1) = true := by decide +kernel
set_option maxRecDepth 65536 in
theorem w_t10 : ((((((((((words1.drop 24).drop 24).drop 24).drop 24).drop 24).drop 24).drop 24).drop 24).drop 24).take 24).all (fun c => isCode c || c.before args0 about1) = true := by decide +kernel
set_option maxRecDepth 65536 in
theorem w_t11 : (((((((((((words1.drop 24).drop 24).drop 24).drop 24).drop 24).drop 24).drop 24).drop 24).drop 24).drop 24).take 24).all (fun c => isCode c || c.before args0 about1) = true := by decide +kernel
set_option maxRecDepth 65536 in
theorem w_t12 : ((((((((((((words1.drop 24).drop 24).drop 24).drop 24).drop 24).drop 24).drop 24).drop 24).drop 24).drop 24).drop 24).take 24).all (fun c => isCode c || c.before args0 about1) = true := by decide +kernel
set_option maxRecDepth 65536 in
theorem w_t13 : (((((((((((((words1.drop 24).drop 24).drop 24).drop 24).drop 24).drop 24).drop 24).drop 24).drop 24).drop 24).drop 24).drop 24).take 24).all (fun c => isCode c || c.before args0 about1) = true := by decide +kernel
set_option maxRecDepth 65536 in
theorem w_t14 : ((((((((((((((words1.drop 24).drop 24).drop 24).drop 24).drop 24).drop 24).drop 24).drop 24).drop 24).drop 24).drop 24).drop 24).drop 24).take 24).all (fun c => isCode c || c.before args0 about1) = true := by decide +kernel
set_option maxRecDepth 65536 in
theorem w_t15 : (((((((((((((((words1.drop 24).drop 24).drop 24).drop 24).drop 24).drop 24).drop 24).drop 24).drop 24).drop 24).drop 24).drop 24).drop 24).drop 24).take 24).all (fun c => isCode c || c.before args0 about1) = true := by decide +kernel
set_option maxRecDepth 65536 in
theorem w_t16 : (((((((((((((((words1.drop 24).drop 24).drop 24).drop 24).drop 24).drop 24).drop 24).drop 24).drop 24).drop 24).drop 24).drop 24).drop 24).drop 24).drop 24).all (fun c => isCode c || c.before args0 about1) = true := by decide +kernel
theorem w_tables : (allAtoms (Jvm.Cond.code x code maxLocals ret :: tables_1)).before args0 about1 = true := by
  rw [allAtoms_all]
  show words1.all (fun c => c.before args0 about1) = true
  refine all_split ?_ w_codes
  rw [← List.take_append_drop 24 words1, List.all_append, w_t1, ← List.take_append_drop 24 (words1.drop 24), List.all_append, w_t2, ← List.take_append_drop 24 ((words1.drop 24).drop 24), List.all_append, w_t3, ← List.take_append_drop 24 (((words1.drop 24).drop 24).drop 24), List.all_append, w_t4, ← List.take_append_drop 24 ((((words1.drop 24).drop 24).drop 24).drop 24), List.all_append, w_t5, ← List.take_append_drop 24 (((((words1.drop 24).drop 24).drop 24).drop 24).drop 24), List.all_append, w_t6, ← List.take_append_drop 24 ((((((words1.drop 24).drop 24).drop 24).drop 24).drop 24).drop 24), List.all_append, w_t7, ← List.take_append_drop 24 (((((((words1.drop 24).drop 24).drop 24).drop 24).drop 24).drop 24).drop 24), List.all_append, w_t8, ← List.take_append_drop 24 ((((((((words1.drop 24).drop 24).drop 24).drop 24).drop 24).drop 24).drop 24).drop 24), List.all_append, w_t9, ← List.take_append_drop 24 (((((((((words1.drop 24).drop 24).drop 24).drop 24).drop 24).drop 24).drop 24).drop 24).drop 24), List.all_append, w_t10, ← List.take_append_drop 24 ((((((((((words1.drop 24).drop 24).drop 24).drop 24).drop 24).drop 24).drop 24).drop 24).drop 24).drop 24), List.all_append, w_t11, ← List.take_append_drop 24 (((((((((((words1.drop 24).drop 24).drop 24).drop 24).drop 24).drop 24).drop 24).drop 24).drop 24).drop 24).drop 24), List.all_append, w_t12, ← List.take_append_drop 24 ((((((((((((words1.drop 24).drop 24).drop 24).drop 24).drop 24).drop 24).drop 24).drop 24).drop 24).drop 24).drop 24).drop 24), List.all_append, w_t13, ← List.take_append_drop 24 (((((((((((((words1.drop 24).drop 24).drop 24).drop 24).drop 24).drop 24).drop 24).drop 24).drop 24).drop 24).drop 24).drop 24).drop 24), List.all_append, w_t14, ← List.take_append_drop 24 ((((((((((((((words1.drop 24).drop 24).drop 24).drop 24).drop 24).drop 24).drop 24).drop 24).drop 24).drop 24).drop 24).drop 24).drop 24).drop 24), List.all_append, w_t15, w_t16]
  rfl
set_option maxRecDepth 65536 in
theorem w_rest : rest_1_c.before args0 about1 = true := by decide +kernel
set_option maxRecDepth 65536 in
theorem w_case : (Jvm.Cond.and given_1 narrow_1).before args0 about1 = true := by decide +kernel
set_option maxRecDepth 65536 in
theorem w_consts : constsHeld consts_1 about1 := Jvm.Lit.constsHeldB_iff.mp (by decide +kernel)
theorem w_applies : (headSpec (Jvm.Cond.code x code maxLocals ret :: tables_1) room_1).applies x e0.platform about1 = true :=
  (Spec.applies_iff w_frames).mpr ⟨w_running, w_runnable, w_alone, w_named, w_hears, w_ripe, w_room, w_tables⟩
theorem atStart : AtStart classFile x code maxLocals ret World_1 tables_1 room_1 Calls_1 rest_1 Pre_1 launch0 p0 e0 about1 theMethod args0 below0 :=
  ⟨lists_1, trivial, launch0.admits_env _ _ _, launch0.least_env, fairChoices_fair.cas, fairChoices_fair.clock, w_frames, w_args, w_heap, w_applies, ⟨w_consts, trivial⟩, w_rest, w_case⟩
end start1
theorem witness_1 : WitnessClaimed_1 := ⟨start1.p0, start1.e0, start1.about1, start1.theMethod, start1.args0, start1.below0, start1.atStart⟩
end Jvm.Pilot.@@N@@
