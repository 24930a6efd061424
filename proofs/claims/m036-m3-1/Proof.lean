import JvmDerived
import JvmDerived.Pilot.@@N@@Statement
import JvmDerived.Pilot.@@N@@Code
set_option linter.unusedVariables false
set_option linter.unusedSimpArgs false
namespace Jvm.Own
open Sem ClassFile Op Lib Jvm.Stand Jvm.Free Jvm.LawKit Jvm.RoadKit
section Own
variable {p : Program} {l : Launch} {e : Env} {R : Room} {s : State} {m : MethodId} {args : Array Value} {below : List Frame} {meth : Method} {c : Code} {T S S' : State} {locs : List Loc} {cells slots : Nat} {G : Outcome → State → Prop} {Q : Option Value → Heap → List Loc → Prop} {C K : Nat}
/-- from S the run comes to an end of which G holds -/
def Go (p : Program) (e : Env) (below : List Frame) (G : Outcome → State → Prop) (S : State) : Prop := ∃ t o, Steps p.tables e below S t ∧ t.status = .running ∧ Ended t below o ∧ G o t
def GO (s : State) (Q : Option Value → Heap → List Loc → Prop) (C K : Nat) (o : Outcome) (t : State) : Prop := ∃ v L, o = .returned v ∧ Q v t.heap L ∧ FrameEnd s o t L C K
theorem Go.st (k : ∀ t, Steps p.tables e below S' t → Steps p.tables e below S t) (h : Go p e below G S') : Go p e below G S := by
  obtain ⟨t, o, h1, h2⟩ := h
  exact ⟨t, o, k t h1, h2⟩
theorem Go.tr (k : Steps p.tables e below S S') (h : Go p e below G S') : Go p e below G S := by
  obtain ⟨t, o, h1, h2⟩ := h
  exact ⟨t, o, k.trans h1, h2⟩
theorem Go.outN (X : Stand p l e R s m args below meth c T locs cells slots) (hx : p.tables.exec = Jvm.exec) (hlk : meth.locks = false) {pc : Nat} {Ls : Array Slot} {z : Int32} {t : FieldType} {rest : List Value} (hret : meth.sig.returnType = some t) (ht : t = .boolean ∨ t = .byte ∨ t = .char ∨ t = .short)
    (hd : decode c.code pc = .ok (.ireturn, 1)) (hQ : Q (some (.int (nar t z))) T.heap locs) (hC : cells ≤ C) (hK : slots ≤ K) : Go p e below (GO s Q C K) (T.setTop (mkF m pc Ls (.int z :: rest))) := by
  obtain ⟨fs, hr, hrun, hended, hW, hsame⟩ := X.leave (v := some (.int (nar t z))) (fun h => by rw [hret] at h; cases h) hlk
  exact ⟨_, _, retN X hx hret ht hd hr, hrun, hended, _, _, rfl, hQ, ⟨_, rfl⟩, hW, hsame.mono hC hK⟩
theorem Go.outI (X : Stand p l e R s m args below meth c T locs cells slots) (hx : p.tables.exec = Jvm.exec) (hlk : meth.locks = false) {pc : Nat} {Ls : Array Slot} {z : Int32} {rest : List Value} (hret : meth.sig.returnType = some .int)
    (hd : decode c.code pc = .ok (.ireturn, 1)) (hQ : Q (some (.int z)) T.heap locs) (hC : cells ≤ C) (hK : slots ≤ K) : Go p e below (GO s Q C K) (T.setTop (mkF m pc Ls (.int z :: rest))) := by
  obtain ⟨fs, hr, hrun, hended, hW, hsame⟩ := X.leave (v := some (.int z)) (fun h => by rw [hret] at h; cases h) hlk
  exact ⟨_, _, retOut X hx hret rfl (Or.inl ⟨rfl, Or.inl rfl, z, rfl⟩) hd hr, hrun, hended, _, _, rfl, hQ, ⟨_, rfl⟩, hW, hsame.mono hC hK⟩
theorem Go.outJ (X : Stand p l e R s m args below meth c T locs cells slots) (hx : p.tables.exec = Jvm.exec) (hlk : meth.locks = false) {pc : Nat} {Ls : Array Slot} {z : Int64} {rest : List Value} (hret : meth.sig.returnType = some .long)
    (hd : decode c.code pc = .ok (.lreturn, 1)) (hQ : Q (some (.long z)) T.heap locs) (hC : cells ≤ C) (hK : slots ≤ K) : Go p e below (GO s Q C K) (T.setTop (mkF m pc Ls (.long z :: rest))) := by
  obtain ⟨fs, hr, hrun, hended, hW, hsame⟩ := X.leave (v := some (.long z)) (fun h => by rw [hret] at h; cases h) hlk
  exact ⟨_, _, retOut X hx hret rfl (Or.inr (Or.inl ⟨rfl, rfl, z, rfl⟩)) hd hr, hrun, hended, _, _, rfl, hQ, ⟨_, rfl⟩, hW, hsame.mono hC hK⟩
theorem own_narrow_ref (t : FieldType) {w : Value} (h : w.isRef = true) : narrow t w = w := by
  rcases ref_cases h with rfl | ⟨a, rfl⟩ <;> cases t <;> rfl
theorem own_fits_ref (t : FieldType) {w : Value} (h : w.isRef = true) (ht : t.isReference = true := by rfl) : fits t w = true := by
  rcases ref_cases h with rfl | ⟨a, rfl⟩ <;> cases t <;> first | rfl | (cases ht)
theorem own_cat_ref {w : Value} (h : w.isRef = true) : w.category = 1 := by
  rcases ref_cases h with rfl | ⟨a, rfl⟩ <;> rfl
theorem Go.outR (X : Stand p l e R s m args below meth c T locs cells slots) (hx : p.tables.exec = Jvm.exec) (hlk : meth.locks = false) {pc : Nat} {Ls : Array Slot} {w : Value} {t : FieldType} {rest : List Value} (hret : meth.sig.returnType = some t) (ht : t.isReference = true) (hw : w.isRef = true)
    (hd : decode c.code pc = .ok (.areturn, 1)) (hQ : Q (some w) T.heap locs) (hC : cells ≤ C) (hK : slots ≤ K) : Go p e below (GO s Q C K) (T.setTop (mkF m pc Ls (w :: rest))) := by
  obtain ⟨fs, hr, hrun, hended, hW, hsame⟩ := X.leave (v := some w) (fun h => by rw [hret] at h; cases h) hlk
  exact ⟨_, _, retOut X hx hret (own_narrow_ref t hw) (Or.inr (Or.inr (Or.inr (Or.inr ⟨rfl, ht, hw⟩)))) hd hr, hrun, hended, _, _, rfl, hQ, ⟨_, rfl⟩, hW, hsame.mono hC hK⟩
theorem Go.outU (X : Stand p l e R s m args below meth c T locs cells slots) (hx : p.tables.exec = Jvm.exec) (hlk : meth.locks = false) {pc : Nat} {Ls : Array Slot} (hret : meth.sig.returnType = none)
    (hd : decode c.code pc = .ok (.return_, 1)) (hQ : Q none T.heap locs) (hC : cells ≤ C) (hK : slots ≤ K) : Go p e below (GO s Q C K) (T.setTop (mkF m pc Ls [])) := by
  obtain ⟨fs, hr, hrun, hended, hW, hsame⟩ := X.leave (v := none) (fun _ => rfl) hlk
  exact ⟨_, _, X.returnOut hx hret hd hr, hrun, hended, _, _, rfl, hQ, ⟨_, rfl⟩, hW, hsame.mono hC hK⟩
def GOW (s : State) (Q : Option Value → Heap → List Loc → Prop) (C K : Nat) (o : Outcome) (t : State) : Prop := ∃ v L, o = .returned v ∧ Q v t.heap L ∧ ReturnedEndW s o t L C K
theorem Go.outW {vm₁ : Vm} {n : Nat} (X : Stand p l e R (s.setVm vm₁) m args below meth c T locs cells slots) (hS : s.Since vm₁ n) (hn : n ≤ T.heap.size) {v : Option Value} (hv : meth.sig.returnType = none → v = none) (hlk : meth.locks = false)
    (st : ∀ fs, (∀ (f : JFrame) (acts : List Action), f.method = m → f.locked = none → f.entered = [] → (doReturn e (T.setTop f) acts v).1 = T.setFrames fs) → Steps p.tables e below S (T.setFrames fs)) (hQ : Q v T.heap locs) (hC : cells ≤ C) (hK : slots ≤ K) : Go p e below (GOW s Q C K) S := by
  obtain ⟨fs, hr, hrun, hended, h1, h2, h3, h4⟩ := X.leaveW hS hn (v := v) hv hlk
  exact ⟨_, _, st fs hr, hrun, hended, _, _, rfl, hQ, h1, h2, h3, h4.mono hC hK⟩
theorem own_stand_mono {cells' slots' : Nat} (X : Stand p l e R s m args below meth c T locs cells slots) (h1 : cells ≤ cells') (h2 : slots ≤ slots') : Stand p l e R s m args below meth c T locs cells' slots' :=
  ⟨X.admits, X.cas, X.clock, X.frames, X.room, X.hears, X.method, X.code, X.here, X.tail, X.warmed, X.limits, X.bytes, X.same.mono h1 h2⟩
end Own
section Facts
variable {Z : State} {h h' h0 : Heap} {a b : Addr} {sl : Nat} {v : Value} {ws : List Addr}
theorem own_ext_refl (h : Heap) : Ext h h := ⟨Nat.le_refl _, fun _ _ q => q⟩
theorem own_ext_trans (O : Ext h0 h) (E : Ext h h') : Ext h0 h' := ⟨Nat.le_trans O.1 E.1, fun x c q => E.2 x c (O.2 x c q)⟩
theorem own_ext_keep (O : Ext h0 h) (K : Keep h h' ws) (g : ∀ x ∈ ws, h0.size ≤ x) : Ext h0 h' := ⟨Nat.le_trans O.1 K.1, fun x c q => K.2.1 x c (O.2 x c q) fun z => Nat.not_lt.mpr (g x z) (Array.getElem?_eq_some_iff.mp q).1⟩
theorem own_ext_wr (O : Ext h0 h) (W : Wr h h' a sl v) (g : h0.size ≤ a) : Ext h0 h' := own_ext_keep O (Keep.of_wr W) (allS g all0)
theorem own_irr (x : Int32) : ¬ x < x := fun h => Int32.lt_irrefl h
theorem own_fld {args : Array Value} {t : Term} {C n d : String} {k : Int32} (ev : t.eval args Z none [] Z = some (.ref a)) (hq : (Cond.eq (.field t C n d) (.int k)).value args Z none Z [] = some true) : Fld Z Z.heap a C n d (.int k) := by
  obtain ⟨x, y, h1, h2, h3, h4⟩ := cmp_v (Or.inl hq)
  have e2 : y = .int k := Option.some.inj (h2.symm.trans (Term.int_eval k))
  subst e2
  obtain ⟨z, rfl⟩ := h4
  have e3 : z = k := by simpa [Cond.value, h1, h2] using hq
  subst e3
  exact Fld.start ((fld_at ev).symm.trans h1)
theorem own_fldN {args : Array Value} {t : Term} {C n d : String} (ev : t.eval args Z none [] Z = some (.ref a)) (hq : (Cond.eq (.field t C n d) .null).value args Z none Z [] = some true) : Fld Z Z.heap a C n d .null :=
  Fld.start ((fld_at ev).symm.trans (null_v hq))
theorem own_len {args : Array Value} {t : Term} {z : Int32} {cl : Cell} {ty : FieldType} (ev : t.eval args Z none [] Z = some (.ref a)) (A : Arr Z Z.heap a cl ty) (hq : (Cond.eq (.length t) (.int z)).value args Z none Z [] = some true) : cl.slots.size < 2 ^ 31 ∧ cl.slots.size.toInt32 = z := by
  obtain ⟨x, y, h1, h2, h3, h4⟩ := cmp_v (Or.inl hq)
  have e2 : y = .int z := Option.some.inj (h2.symm.trans (Term.int_eval z))
  subst e2
  have ha : Z.arrayAt? a = some cl := A.fin (Vm.Alike.refl _)
  by_cases hl : cl.slots.size < 2 ^ 31
  · have e3 := Option.some.inj ((len_f ev ha hl).symm.trans h1)
    subst e3
    refine ⟨hl, ?_⟩
    simpa [Cond.value, h1, h2] using hq
  · exfalso
    simp [Term.eval, ev, ha] at h1
    exact hl h1.1
theorem own_elem {args : Array Value} {t u : Term} {i : Int32} {cl : Cell} {ty : FieldType} (ev : t.eval args Z none [] Z = some (.ref a)) (A : Arr Z Z.heap a cl ty) (eu : u.eval args Z none [] Z = some (.ref b)) (hq : (Cond.eq (.elem t (.int i)) u).value args Z none Z [] = some true) : cl.slots[i.toNatClampNeg]? = some (.ref b) := by
  obtain ⟨x, y, h1, h2, h3, h4⟩ := cmp_v (Or.inl hq)
  have e2 : y = .ref b := Option.some.inj (h2.symm.trans eu)
  subst e2
  have h5 := (elem_in h1 ev (Term.int_eval i) A.1).2
  have e3 : x = .ref b := gotT (eq_R h1 h2 h4.2 rfl) hq
  rw [← e3]
  exact h5
theorem own_and3 (k : Int32) : k &&& 3 = 0 ∨ k &&& 3 = 1 ∨ k &&& 3 = 2 ∨ k &&& 3 = 3 := by
  have h := c_mask k 3 2 (by decide) (by decide)
  simp only [← Int32.toInt_inj, Int32.reduceToInt]
  omega
theorem own_mod (x n : Int32) (hn : 0 < n.toInt) : 0 ≤ ((x &&& 2147483647) % n).toInt ∧ ((x &&& 2147483647) % n).toInt < n.toInt := by
  have h1 := (c_and x 2147483647 (by decide)).1
  have h2 := (c_iremV (x &&& 2147483647) n).1 h1 hn
  exact ⟨h2.1, h2.2.1⟩
theorem own_cp0 {p : Program} {l : Launch} {e : Env} {R : Room} {s : State} {m : MethodId} {args : Array Value} {below : List Frame} {meth : Method} {c : Code} {T : State} {locs : List Loc} {cells slots : Nat} {a0 : Array Value} {own : String} {index : Nat} (X : Stand p l e R s m args below meth c T locs cells slots) (hx : p.tables.exec = Jvm.exec) (hZ : Z.Warmed39 s.vm) (hown : s.vm.findClass own = some m.cls)
    (w1 : (Cond.methodLink own index Jvm.Stand.acN).before a0 Z = true) (w2 : (Cond.native Jvm.Stand.acN).before a0 Z = true) (w3 : (Cond.static Jvm.Stand.acN).before a0 Z = true) (w4 : (Cond.initialized "java/lang/System").before a0 Z = true) (eT : T.heap = h)
    {k k' : ClassId} {ty : FieldType} {z z' : Int32} {vs vd : List Value} {dv dd : Value} (A : Arv Z h a k ty z vs dv) (B : Arv Z h b k' ty z' vd dd) (hty : refKind ty = false) {nn : Int32} (hnn : nn = 0)
    {g : JFrame} (hg : g.method = m) (hsize : g.locals.size = c.maxLocals) {rest : List Value} (hs : g.stack = .int nn :: .int 0 :: .ref b :: .int 0 :: .ref a :: rest) (hd : decode c.code g.pc = .ok (.invokestatic index, 3))
    (hf : 1 ≤ R.frames) {W : Nat} (hW : 2 * g.monitorRoom + (rest.map fun v => v.category).sum ≤ W) (hlo : W + (nativeFrameWords "java/lang/System" "arraycopy" 5 + 11) ≤ R.locals) :
    ∃ T', Stand p l e R s m args below meth c T' locs cells slots ∧ T'.heap = h ∧ ∀ target, Steps p.tables e below (T'.setTop { g with pc := g.pc + 3, stack := rest }) target → Steps p.tables e below (T.setTop g) target := by
  subst hnn
  obtain ⟨cs, As, -, Ss, -, Hs, Gs⟩ := A
  obtain ⟨cd, Ad, qd, Sd, Nd, Hd, Gd⟩ := B
  obtain ⟨os, ks, hks, sc, hsk⟩ := State.isArrayOf_alike hZ.alike As.2.1
  obtain ⟨od, kd, hkd, dc, hdk⟩ := State.isArrayOf_alike hZ.alike Ad.2.1
  have z0 : (0 : Int32).toInt = 0 := rfl
  obtain ⟨vm₁, hW₁, X', st⟩ := X.arraycopyK (srcPos := 0) (destPos := 0) (n := 0) hx hown (mvT hZ w1) (mvT hZ w2) (mvT hZ w3) (mvT hZ w4) (by rw [eT]; exact As.1) (by rw [eT]; exact Ad.1) os od As.2.2 Ad.2.2 hks hkd hsk hdk
    (by simp [hty]) (by decide) (by decide) (by decide) (by rw [z0]; omega) (by rw [z0]; omega) (fun vm₁ hw i hi => absurd hi (Nat.not_lt_zero i)) hg hsize hs hd hf (by omega)
  have e1 : copied cs cd 0 0 0 = cd := rfl
  have e2 : copyLocs b (0 : Int32).toNatClampNeg (0 : Int32).toNatClampNeg = [] := rfl
  rw [e1] at X' st
  rw [e2, List.append_nil] at X'
  refine ⟨_, X', ?_, st⟩
  show (T.heap.setIfInBounds b cd) = h
  rw [eT]
  refine Array.ext_getElem? fun i => ?_
  by_cases q : b = i
  · subst q
    rw [Array.getElem?_setIfInBounds_self_of_lt (Array.getElem?_eq_some_iff.mp Ad.1).1]
    exact Ad.1.symm
  · rw [Array.getElem?_setIfInBounds_ne q]
/-- an array of which the length alone is said -/
def own_AL (Z : State) (h : Heap) (a : Addr) (ty : FieldType) (z : Int32) : Prop := ∃ k vs d, Arv Z h a k ty z vs d
theorem own_AL.of {k : ClassId} {ty : FieldType} {z : Int32} {vs : List Value} {d : Value} (F : Arv Z h a k ty z vs d) : own_AL Z h a ty z := ⟨k, vs, d, F⟩
theorem own_AL.lt {ty : FieldType} {z : Int32} (F : own_AL Z h a ty z) : a < h.size := by obtain ⟨k, vs, d, F⟩ := F; exact F.lt
theorem own_AL.ext {ty : FieldType} {z : Int32} (F : own_AL Z h a ty z) (E : Ext h h') : own_AL Z h' a ty z := by obtain ⟨k, vs, d, F⟩ := F; exact ⟨k, vs, d, F.ext E⟩
theorem own_AL.other {ty : FieldType} {z : Int32} (F : own_AL Z h b ty z) (W : Wr h h' a sl v) (q : b ≠ a) : own_AL Z h' b ty z := by obtain ⟨k, vs, d, F⟩ := F; exact ⟨k, vs, d, F.other W q⟩
theorem own_AL.keep {ty : FieldType} {z : Int32} (F : own_AL Z h a ty z) (K : Keep h h' ws) (q : a ∉ ws) : own_AL Z h' a ty z := by obtain ⟨k, vs, d, F⟩ := F; exact ⟨k, vs, d, F.keep K q⟩
theorem own_AL.len {ty : FieldType} {z : Int32} (F : own_AL Z h a ty z) (n : Nat) : ∃ k vs d, Arv Z h a k ty z vs d ∧ n ≤ vs.length := by
  obtain ⟨k, vs, d, F⟩ := F
  exact ⟨k, vs ++ List.replicate n d, d, F.pad (pad_rep vs d n), by simp⟩
theorem own_AL.nn {ty : FieldType} {z : Int32} (F : own_AL Z h a ty z) : 0 ≤ z.toInt := by
  obtain ⟨k, vs, d, c, A, q1, q2, q3, r⟩ := F
  rw [Int32.lt_iff_toInt_lt] at q3
  exact Int.not_lt.mp q3
/-- a copy into one array leaves every array's length -/
theorem own_AL.cp {k : ClassId} {ty ty' : FieldType} {z z' : Int32} {vs : List Value} {d : Value} (F : own_AL Z h a ty z) (B : own_AL Z h b ty' z') (K : Keep h h' [b]) (V : Arv Z h' b k ty' z' vs d) : own_AL Z h' a ty z := by
  by_cases q : a = b
  · subst q
    obtain ⟨k1, vs1, d1, c1, A1, e1, s1, n1, -⟩ := F
    obtain ⟨k2, vs2, d2, c2, A2, e2, s2, n2, -⟩ := B
    have ec : c1 = c2 := Option.some.inj (A1.1.symm.trans A2.1)
    subst ec
    obtain ⟨-, w1, g1, p1, g2⟩ := A1.2.1
    obtain ⟨-, w2, g3, p2, g4⟩ := A2.2.1
    have ew : w1 = w2 := Option.some.inj (g1.symm.trans g3)
    subst ew
    have et : ty = ty' := by rw [g2] at g4; cases g4; rfl
    have ez : z = z' := by rw [← (back32 n1).1, ← (back32 n2).1, ← s1, ← s2]
    subst et ez
    exact ⟨_, _, _, V⟩
  · exact F.keep K (ninS q nin0)
theorem own_IB {vm : Vm} (hint : vm.interned = Z.vm.interned) : IB Z vm [] := ⟨#[], by rw [hint]; simp, fun q hq => by simp at hq⟩
theorem own_backOfSI {p : Program} {l : Launch} {e : Env} {R : Room} {s : State} {args : Array Value} {below : List Frame} {a0 : Array Value} {y : MethodName} {bytes : ByteArray} {maxL : Nat} {ret : Option FieldType} {rm : Room} {len W : Nat} {as' : Array Value} {Q : Option Value → Heap → List Loc → Prop} (hint : s.vm.interned = Z.vm.interned)
    (hM : MetFree l y (head1 [Cond.code y bytes maxL ret] rm) (fun a U => a = as' ∧ Z.Warmed39 U.vm ∧ U.heap = h ∧ U.vm.interned = Z.vm.interned) (fun _ _ _ _ _ => True) (fun _ U o U' => ∃ v L, o = .returned v ∧ Q v U'.heap L ∧ ReturnedEndW U o U' L rm.cells rm.slots))
    (hZ : Z.Warmed39 s.vm) (wc : (Cond.code y bytes maxL ret).before a0 Z = true) (wz : (Cond.initialized y.cls).before a0 Z = true) (hf : rm.frames + 1 ≤ R.frames) (hl : W + (maxL + 11) + rm.locals ≤ R.locals) :
    BackS l R p e below s args y len W (fun A a => a = as' ∧ A.U.heap = h ∧ A.cells + rm.cells ≤ R.cells ∧ A.slots + rm.slots ≤ R.slots)
      (fun A _ v B => ∃ L, Q v B.U.heap L ∧ B.locs = A.locs ++ L ∧ B.cells = A.cells + rm.cells ∧ B.slots = A.slots + rm.slots) :=
  BackS.of_freeW (bytes := bytes) (maxL := maxL) (ret := ret) (E := fun _ _ o t L k n => k = rm.cells ∧ n = rm.slots ∧ ∃ v, o = .returned v ∧ Q v t.heap L) hM hf hl
    (fun m meth c A a Y hp => have hU : Z.Warmed39 A.U.vm := wtrans hZ Y.warmed
      ⟨by show (Cond.and _ .tt).before a A.U = true; rw [Cond.before_and, mv hU wc]; rfl, mv hU wc, mv hU wz, hp.2.2.1, hp.2.2.2⟩)
    (fun m meth c A a g mk Y hp => ⟨hp.1, wtrans hZ Y.warmed, hp.2.1, Y.warmed.interned_eq.trans hint⟩) (fun _ _ _ _ _ _ _ _ _ => trivial)
    (fun _ _ _ _ ⟨v, L, h1, h2, h3⟩ => ⟨L, _, _, h3, rfl, rfl, v, h1, h2⟩)
    (fun m meth c A a g mk v t L k n Y hp _ _ ⟨e1, e2, v', e3, e4⟩ => by cases e3; subst e1 e2; exact ⟨L, e4, rfl, rfl, rfl⟩)
end Facts
end Jvm.Own
namespace Jvm.Pilot.@@N@@
open Jvm Jvm.ClassFile Sem Op Lib Jvm.Free Jvm.Stand Jvm.LawKit Jvm.RoadKit Jvm.Own Bundle Jvm.Pilot.@@N@@.Jvm.D
theorem own_wS {Z : State} {a0 : Array Value} (hw : ∀ d ∈ tables_1, d.before a0 Z = true) : ∀ a ∈ Bundle.stringAtoms, a.before a0 Z = true := by
  intro a ha
  simp only [Bundle.stringAtoms, List.mem_cons, List.not_mem_nil, or_false] at ha
  rcases ha with rfl | rfl | rfl | rfl | rfl | rfl | rfl
  · exact (hw _ (List.mem_of_getElem? (i := 19) rfl))
  · exact (hw _ (List.mem_of_getElem? (i := 20) rfl))
  · exact (hw _ (List.mem_of_getElem? (i := 21) rfl))
  · exact (hw _ (List.mem_of_getElem? (i := 22) rfl))
  · exact (hw _ (List.mem_of_getElem? (i := 23) rfl))
  · exact (hw _ (List.mem_of_getElem? (i := 24) rfl))
  · exact (hw _ (List.mem_of_getElem? (i := 25) rfl))
theorem ef_rmRec (m : MethodId) (x0 : Addr) : entryFrame m #[(.ref x0)] 1 = mkF m 0 #[.val (.ref x0)] [] := by first | (simp [entryFrame, mkF, argsToLocals, Value.category]; done) | rfl
def Q_rmRec (Z : State) (a : Addr) (h0 : Heap) (v : Option Value) (h : Heap) (L : List Loc) : Prop := v = none ∧ L = [] ∧ h = h0
theorem pn_java_lang_Record : plainName "java/lang/Record" = true := by first | (simp [plainName, overriddenIn]; done) | decide +kernel
theorem d2_0 : decode jdk_30_method_1_code 0 = .ok (.aload_n 0, 1) := by decide +kernel
theorem d2_1 : decode jdk_30_method_1_code 1 = .ok (.invokespecial 1, 3) := by decide +kernel
theorem d2_4 : decode jdk_30_method_1_code 4 = .ok (.return_, 1) := by decide +kernel
set_option maxRecDepth 65536 in
set_option maxHeartbeats 40000000 in
theorem rmRec (l : Launch) (Z : State) (a0 : Array Value) (hw : ∀ d ∈ tables_1, d.before a0 Z = true) (ws : List Jvm.Cond) (a : Addr) (h0 : Heap) (O0 : Ext Z.heap h0) :
    MetFree l (⟨"java/lang/Record", "<init>", "()V"⟩ : MethodName) (head1 (Jvm.Cond.code (⟨"java/lang/Record", "<init>", "()V"⟩ : MethodName) jdk_30_method_1_code 1 none :: ws) ({ frames := 1, cells := 0, slots := 0, locals := 12 } : Room)) (fun av' U => av' = #[(.ref a)] ∧ Z.Warmed39 U.vm ∧ U.heap = h0) (fun _ _ _ _ _ => True) (fun _ U o U' => ∃ v L, o = .returned v ∧ Q_rmRec Z a h0 v U'.heap L ∧ FrameEnd U o U' L ({ frames := 1, cells := 0, slots := 0, locals := 12 } : Room).cells ({ frames := 1, cells := 0, slots := 0, locals := 12 } : Room).slots) := by
  refine MetFree.of_bodySF (plainFor_of_name pn_java_lang_Record) hisR ?_
  intro p e s m args below meth c s₁ Bd hml0 hP hK
  obtain ⟨rfl, hZ, hh⟩ := hP
  have hx := Bd.exec
  have hby := Bd.bytes
  have hret := Bd.returns
  have hlk : meth.locks = false := Bd.notSynchronized
  have hml : c.maxLocals = 1 := hml0
  have hown : s.vm.findClass "java/lang/Record" = some m.cls := findClass_of_methodNamed Bd.named
  have hnm := (name_of_methodNamed Bd.named Bd.method).1
  have X0 : Stand p l e ({ frames := 1, cells := 0, slots := 0, locals := 12 } : Room) s m #[(.ref a)] below meth c s₁ [] 0 0 := Stand.of_body Bd
  -- the walk
  have e0 : s₁.heap = h0 := by rw [← hh, Bd.state]; rfl
  have N0 := Fr.nil Z.heap.size
  show Go p e below (GO s (Q_rmRec Z a h0) ({ frames := 1, cells := 0, slots := 0, locals := 12 } : Room).cells ({ frames := 1, cells := 0, slots := 0, locals := 12 } : Room).slots) (s₁.setTop (entryFrame m #[(.ref a)] 1))
  refine Go.st (fun t' k' => castTop (ef_rmRec m a) k') ?_
  show Go p e below _ (s₁.setTop (mkF m 0 #[.val (.ref a)] []))
  refine Go.st (fun t' k' => XS.aloadN X0.here hx rfl (hb hby d2_0) rfl rfl k') ?_
  show Go p e below _ (s₁.setTop (mkF m 1 #[.val (.ref a)] [(.ref a)]))
  obtain ⟨T1, X1, e1, st1⟩ := initO X0 hx hZ hown (hw _ (List.mem_of_getElem? (i := 15) rfl)) (hw _ (List.mem_of_getElem? (i := 16) rfl)) (hw _ (List.mem_of_getElem? (i := 17) rfl)) e0 (g := (mkF m 1 #[.val (.ref a)] [(.ref a)])) rfl (by rw [hml]; rfl) rfl (hb hby d2_1) (by decide) (W := 0) (by show 2 * 0 + _ ≤ _; exact Nat.le_of_eq rfl) (by decide)
  refine Go.st st1 ?_
  show Go p e below _ (T1.setTop (mkF m 4 #[.val (.ref a)] []))
  exact Go.outU X1 hx hlk hret (hb hby d2_4) (Q := Q_rmRec Z a h0) (by rw [e1]; exact ⟨rfl, rfl, rfl⟩) (by decide) (by decide)
theorem ef_rmNN2 (m : MethodId) (x0 : Addr) (x1 : Addr) : entryFrame m #[(.ref x0), (.ref x1)] 2 = mkF m 0 #[.val (.ref x0), .val (.ref x1)] [] := by first | (simp [entryFrame, mkF, argsToLocals, Value.category]; done) | rfl
def Q_rmNN2 (Z : State) (a : Addr) (t : Addr) (h0 : Heap) (v : Option Value) (h : Heap) (L : List Loc) : Prop := v = some (.ref a) ∧ L = [] ∧ h = h0
theorem pn_java_util_Objects : plainName "java/util/Objects" = true := by first | (simp [plainName, overriddenIn]; done) | decide +kernel
theorem d4_0 : decode jdk_31_method_11_code 0 = .ok (.aload_n 0, 1) := by decide +kernel
theorem d4_1 : decode jdk_31_method_11_code 1 = .ok (.ifnonnull 12, 3) := by decide +kernel
theorem d4_13 : decode jdk_31_method_11_code 13 = .ok (.aload_n 0, 1) := by decide +kernel
theorem d4_14 : decode jdk_31_method_11_code 14 = .ok (.areturn, 1) := by decide +kernel
set_option maxRecDepth 65536 in
set_option maxHeartbeats 40000000 in
theorem rmNN2 (l : Launch) (Z : State) (a0 : Array Value) (hw : ∀ d ∈ tables_1, d.before a0 Z = true) (ws : List Jvm.Cond) (a : Addr) (t : Addr) (h0 : Heap) (O0 : Ext Z.heap h0) :
    MetFree l (⟨"java/util/Objects", "requireNonNull", "(Ljava/lang/Object;Ljava/lang/String;)Ljava/lang/Object;"⟩ : MethodName) (head1 (Jvm.Cond.code (⟨"java/util/Objects", "requireNonNull", "(Ljava/lang/Object;Ljava/lang/String;)Ljava/lang/Object;"⟩ : MethodName) jdk_31_method_11_code 2 (some (.object "java/lang/Object")) :: ws) ({ frames := 0, cells := 0, slots := 0, locals := 0 } : Room)) (fun av' U => av' = #[(.ref a), (.ref t)] ∧ Z.Warmed39 U.vm ∧ U.heap = h0) (fun _ _ _ _ _ => True) (fun _ U o U' => ∃ v L, o = .returned v ∧ Q_rmNN2 Z a t h0 v U'.heap L ∧ FrameEnd U o U' L ({ frames := 0, cells := 0, slots := 0, locals := 0 } : Room).cells ({ frames := 0, cells := 0, slots := 0, locals := 0 } : Room).slots) := by
  refine MetFree.of_bodySF (plainFor_of_name pn_java_util_Objects) hisR ?_
  intro p e s m args below meth c s₁ Bd hml0 hP hK
  obtain ⟨rfl, hZ, hh⟩ := hP
  have hx := Bd.exec
  have hby := Bd.bytes
  have hret := Bd.returns
  have hlk : meth.locks = false := Bd.notSynchronized
  have hml : c.maxLocals = 2 := hml0
  have hown : s.vm.findClass "java/util/Objects" = some m.cls := findClass_of_methodNamed Bd.named
  have hnm := (name_of_methodNamed Bd.named Bd.method).1
  have X0 : Stand p l e ({ frames := 0, cells := 0, slots := 0, locals := 0 } : Room) s m #[(.ref a), (.ref t)] below meth c s₁ [] 0 0 := Stand.of_body Bd
  -- the walk
  have e0 : s₁.heap = h0 := by rw [← hh, Bd.state]; rfl
  have N0 := Fr.nil Z.heap.size
  show Go p e below (GO s (Q_rmNN2 Z a t h0) ({ frames := 0, cells := 0, slots := 0, locals := 0 } : Room).cells ({ frames := 0, cells := 0, slots := 0, locals := 0 } : Room).slots) (s₁.setTop (entryFrame m #[(.ref a), (.ref t)] 2))
  refine Go.st (fun t' k' => castTop (ef_rmNN2 m a t) k') ?_
  show Go p e below _ (s₁.setTop (mkF m 0 #[.val (.ref a), .val (.ref t)] []))
  refine Go.st (fun t' k' => XS.aloadN X0.here hx rfl (hb hby d4_0) rfl rfl k') ?_
  show Go p e below _ (s₁.setTop (mkF m 1 #[.val (.ref a), .val (.ref t)] [(.ref a)]))
  refine Go.st (fun t' k' => XS.ifnonnullYes X0.here hx rfl (pc0 := 1) (pc' := 13) rfl (hb hby d4_1) rfl (by decide) (by decide) k') ?_
  show Go p e below _ (s₁.setTop (mkF m 13 #[.val (.ref a), .val (.ref t)] []))
  refine Go.st (fun t' k' => XS.aloadN X0.here hx rfl (hb hby d4_13) rfl rfl k') ?_
  show Go p e below _ (s₁.setTop (mkF m 14 #[.val (.ref a), .val (.ref t)] [(.ref a)]))
  exact Go.outR X0 hx hlk hret rfl rfl (hb hby d4_14) (Q := Q_rmNN2 Z a t h0) (by rw [e0]; exact ⟨rfl, rfl, rfl⟩) (by decide) (by decide)
theorem ef_rmOf0 (m : MethodId)  : entryFrame m #[.null] 1 = mkF m 0 #[.val .null] [] := by first | (simp [entryFrame, mkF, argsToLocals, Value.category]; done) | rfl
def Q_rmOf0 (Z : State) (w_EMPTY : Addr) (h0 : Heap) (v : Option Value) (h : Heap) (L : List Loc) : Prop := v = some (.ref w_EMPTY) ∧ L = [] ∧ h = h0
theorem pn_java_util_Optional : plainName "java/util/Optional" = true := by first | (simp [plainName, overriddenIn]; done) | decide +kernel
theorem d9_0 : decode jdk_32_method_4_code 0 = .ok (.aload_n 0, 1) := by decide +kernel
theorem d9_1 : decode jdk_32_method_4_code 1 = .ok (.ifnonnull 9, 3) := by decide +kernel
theorem d9_4 : decode jdk_32_method_4_code 4 = .ok (.getstatic 1, 3) := by decide +kernel
theorem d9_7 : decode jdk_32_method_4_code 7 = .ok (.goto 11, 3) := by decide +kernel
theorem d9_18 : decode jdk_32_method_4_code 18 = .ok (.areturn, 1) := by decide +kernel
set_option maxRecDepth 65536 in
set_option maxHeartbeats 40000000 in
theorem rmOf0 (l : Launch) (Z : State) (a0 : Array Value) (hw : ∀ d ∈ tables_1, d.before a0 Z = true) (ws : List Jvm.Cond) (w_EMPTY : Addr) (h0 : Heap) (O0 : Ext Z.heap h0) (S_EMPTY : Sta Z Z.heap "java/util/Optional" "EMPTY" "Ljava/util/Optional;" (.ref w_EMPTY)) :
    MetFree l (⟨"java/util/Optional", "ofNullable", "(Ljava/lang/Object;)Ljava/util/Optional;"⟩ : MethodName) (head1 (Jvm.Cond.code (⟨"java/util/Optional", "ofNullable", "(Ljava/lang/Object;)Ljava/util/Optional;"⟩ : MethodName) jdk_32_method_4_code 1 (some (.object "java/util/Optional")) :: ws) ({ frames := 0, cells := 0, slots := 0, locals := 0 } : Room)) (fun av' U => av' = #[.null] ∧ Z.Warmed39 U.vm ∧ U.heap = h0) (fun _ _ _ _ _ => True) (fun _ U o U' => ∃ v L, o = .returned v ∧ Q_rmOf0 Z w_EMPTY h0 v U'.heap L ∧ FrameEnd U o U' L ({ frames := 0, cells := 0, slots := 0, locals := 0 } : Room).cells ({ frames := 0, cells := 0, slots := 0, locals := 0 } : Room).slots) := by
  refine MetFree.of_bodySF (plainFor_of_name pn_java_util_Optional) hisR ?_
  intro p e s m args below meth c s₁ Bd hml0 hP hK
  obtain ⟨rfl, hZ, hh⟩ := hP
  have hx := Bd.exec
  have hby := Bd.bytes
  have hret := Bd.returns
  have hlk : meth.locks = false := Bd.notSynchronized
  have hml : c.maxLocals = 1 := hml0
  have hown : s.vm.findClass "java/util/Optional" = some m.cls := findClass_of_methodNamed Bd.named
  have hnm := (name_of_methodNamed Bd.named Bd.method).1
  have X0 : Stand p l e ({ frames := 0, cells := 0, slots := 0, locals := 0 } : Room) s m #[.null] below meth c s₁ [] 0 0 := Stand.of_body Bd
  -- the walk
  have e0 : s₁.heap = h0 := by rw [← hh, Bd.state]; rfl
  have N0 := Fr.nil Z.heap.size
  show Go p e below (GO s (Q_rmOf0 Z w_EMPTY h0) ({ frames := 0, cells := 0, slots := 0, locals := 0 } : Room).cells ({ frames := 0, cells := 0, slots := 0, locals := 0 } : Room).slots) (s₁.setTop (entryFrame m #[.null] 1))
  refine Go.st (fun t' k' => castTop (ef_rmOf0 m ) k') ?_
  show Go p e below _ (s₁.setTop (mkF m 0 #[.val .null] []))
  refine Go.st (fun t' k' => XS.aloadN X0.here hx rfl (hb hby d9_0) rfl rfl k') ?_
  show Go p e below _ (s₁.setTop (mkF m 1 #[.val .null] [.null]))
  refine Go.st (fun t' k' => XS.ifnonnullNo X0.here hx rfl (hb hby d9_1) rfl k') ?_
  show Go p e below _ (s₁.setTop (mkF m 4 #[.val .null] []))
  obtain ⟨T1, X1, e1, st1⟩ := getS2 X0 hx hZ hown (host := "") (Or.inl (hw _ (List.mem_of_getElem? (i := 64) rfl))) Via.refl e0 (S_EMPTY.ext O0) (g := (mkF m 4 #[.val .null] [])) rfl (hb hby d9_4)
  refine Go.st st1 ?_
  show Go p e below _ (T1.setTop (mkF m 7 #[.val .null] [(.ref w_EMPTY)]))
  refine Go.st (fun t' k' => XS.goto X1.here hx rfl (pc0 := 7) (pc' := 18) rfl (hb hby d9_7) (by decide) (by decide) k') ?_
  show Go p e below _ (T1.setTop (mkF m 18 #[.val .null] [(.ref w_EMPTY)]))
  exact Go.outR X1 hx hlk hret rfl rfl (hb hby d9_18) (Q := Q_rmOf0 Z w_EMPTY h0) (by rw [e1]; exact ⟨rfl, rfl, rfl⟩) (by decide) (by decide)
theorem ef_rmOpI (m : MethodId) (x0 : Addr) (x1 : Addr) : entryFrame m #[(.ref x0), (.ref x1)] 2 = mkF m 0 #[.val (.ref x0), .val (.ref x1)] [] := by first | (simp [entryFrame, mkF, argsToLocals, Value.category]; done) | rfl
def Q_rmOpI (Z : State) (a : Addr) (t : Addr) (h0 : Heap) (v : Option Value) (h : Heap) (L : List Loc) : Prop := v = none ∧ Fr Z.heap.size L ∧ Ext Z.heap h ∧ Keep h0 h [a] ∧ Fld Z h a "java/util/Optional" "value" "Ljava/lang/Object;" (.ref t)
theorem d12_0 : decode jdk_32_method_2_code 0 = .ok (.aload_n 0, 1) := by decide +kernel
theorem d12_1 : decode jdk_32_method_2_code 1 = .ok (.invokespecial 7, 3) := by decide +kernel
theorem d12_4 : decode jdk_32_method_2_code 4 = .ok (.aload_n 0, 1) := by decide +kernel
theorem d12_5 : decode jdk_32_method_2_code 5 = .ok (.aload_n 1, 1) := by decide +kernel
theorem d12_6 : decode jdk_32_method_2_code 6 = .ok (.putfield 13, 3) := by decide +kernel
theorem d12_9 : decode jdk_32_method_2_code 9 = .ok (.return_, 1) := by decide +kernel
set_option maxRecDepth 65536 in
set_option maxHeartbeats 40000000 in
theorem rmOpI (l : Launch) (Z : State) (a0 : Array Value) (hw : ∀ d ∈ tables_1, d.before a0 Z = true) (ws : List Jvm.Cond) (a : Addr) (t : Addr) (h0 : Heap) (O0 : Ext Z.heap h0) (Ea : Exa Z h0 a "java/util/Optional") (Ga : Z.heap.size ≤ a) (Fv : Fld Z h0 a "java/util/Optional" "value" "Ljava/lang/Object;" .null) :
    MetFree l (⟨"java/util/Optional", "<init>", "(Ljava/lang/Object;)V"⟩ : MethodName) (head1 (Jvm.Cond.code (⟨"java/util/Optional", "<init>", "(Ljava/lang/Object;)V"⟩ : MethodName) jdk_32_method_2_code 2 none :: ws) ({ frames := 1, cells := 0, slots := 0, locals := 12 } : Room)) (fun av' U => av' = #[(.ref a), (.ref t)] ∧ Z.Warmed39 U.vm ∧ U.heap = h0) (fun _ _ _ _ _ => True) (fun _ U o U' => ∃ v L, o = .returned v ∧ Q_rmOpI Z a t h0 v U'.heap L ∧ FrameEnd U o U' L ({ frames := 1, cells := 0, slots := 0, locals := 12 } : Room).cells ({ frames := 1, cells := 0, slots := 0, locals := 12 } : Room).slots) := by
  refine MetFree.of_bodySF (plainFor_of_name pn_java_util_Optional) hisR ?_
  intro p e s m args below meth c s₁ Bd hml0 hP hK
  obtain ⟨rfl, hZ, hh⟩ := hP
  have hx := Bd.exec
  have hby := Bd.bytes
  have hret := Bd.returns
  have hlk : meth.locks = false := Bd.notSynchronized
  have hml : c.maxLocals = 2 := hml0
  have hown : s.vm.findClass "java/util/Optional" = some m.cls := findClass_of_methodNamed Bd.named
  have hnm := (name_of_methodNamed Bd.named Bd.method).1
  have X0 : Stand p l e ({ frames := 1, cells := 0, slots := 0, locals := 12 } : Room) s m #[(.ref a), (.ref t)] below meth c s₁ [] 0 0 := Stand.of_body Bd
  -- the walk
  have e0 : s₁.heap = h0 := by rw [← hh, Bd.state]; rfl
  have N0 := Fr.nil Z.heap.size
  have K0 := Keep.refl h0 [a]
  show Go p e below (GO s (Q_rmOpI Z a t h0) ({ frames := 1, cells := 0, slots := 0, locals := 12 } : Room).cells ({ frames := 1, cells := 0, slots := 0, locals := 12 } : Room).slots) (s₁.setTop (entryFrame m #[(.ref a), (.ref t)] 2))
  refine Go.st (fun t' k' => castTop (ef_rmOpI m a t) k') ?_
  show Go p e below _ (s₁.setTop (mkF m 0 #[.val (.ref a), .val (.ref t)] []))
  refine Go.st (fun t' k' => XS.aloadN X0.here hx rfl (hb hby d12_0) rfl rfl k') ?_
  show Go p e below _ (s₁.setTop (mkF m 1 #[.val (.ref a), .val (.ref t)] [(.ref a)]))
  obtain ⟨T1, X1, e1, st1⟩ := initO X0 hx hZ hown (hw _ (List.mem_of_getElem? (i := 83) rfl)) (hw _ (List.mem_of_getElem? (i := 16) rfl)) (hw _ (List.mem_of_getElem? (i := 17) rfl)) e0 (g := (mkF m 1 #[.val (.ref a), .val (.ref t)] [(.ref a)])) rfl (by rw [hml]; rfl) rfl (hb hby d12_1) (by decide) (W := 0) (by show 2 * 0 + _ ≤ _; exact Nat.le_of_eq rfl) (by decide)
  refine Go.st st1 ?_
  show Go p e below _ (T1.setTop (mkF m 4 #[.val (.ref a), .val (.ref t)] []))
  refine Go.st (fun t' k' => XS.aloadN X1.here hx rfl (hb hby d12_4) rfl rfl k') ?_
  show Go p e below _ (T1.setTop (mkF m 5 #[.val (.ref a), .val (.ref t)] [(.ref a)]))
  refine Go.st (fun t' k' => XS.aloadN X1.here hx rfl (hb hby d12_5) rfl rfl k') ?_
  show Go p e below _ (T1.setTop (mkF m 6 #[.val (.ref a), .val (.ref t)] [(.ref t), (.ref a)]))
  obtain ⟨T2, h2, X2, e2, W2, st2⟩ := putF X1 hx hZ hown (host := "") (Or.inl (hw _ (List.mem_of_getElem? (i := 70) rfl))) Via.refl e1 Fv Ea (Or.inr ⟨(hw _ (List.mem_of_getElem? (i := 71) rfl)), rfl, hnm⟩) (hw _ (List.mem_of_getElem? (i := 78) rfl)) (ty := (.object "java/lang/Object")) (by decide) rfl rfl (g := (mkF m 6 #[.val (.ref a), .val (.ref t)] [(.ref t), (.ref a)])) rfl rfl (hb hby d12_6)
  refine Go.st st2 ?_
  have Fw2 : Fld Z h2 a "java/util/Optional" "value" "Ljava/lang/Object;" (.ref t) := Fv.same W2
  have Ea_h3 := Ea.wr W2
  have O2 := own_ext_wr O0 W2 Ga
  have K2 := K0.wr W2 (Or.inl (List.mem_of_getElem? (i := 0) rfl))
  have N2 := Fr.snoc X2 N0 Ga
  show Go p e below _ (T2.setTop (mkF m 9 #[.val (.ref a), .val (.ref t)] []))
  exact Go.outU X2 hx hlk hret (hb hby d12_9) (Q := Q_rmOpI Z a t h0) (by rw [e2]; exact ⟨rfl, N2, O2, K2, Fw2⟩) (by decide) (by decide)
theorem ef_rmOf1 (m : MethodId) (x0 : Addr) : entryFrame m #[(.ref x0)] 1 = mkF m 0 #[.val (.ref x0)] [] := by first | (simp [entryFrame, mkF, argsToLocals, Value.category]; done) | rfl
def Q_rmOf1 (Z : State) (t : Addr) (h0 : Heap) (v : Option Value) (h : Heap) (L : List Loc) : Prop := ∃ b : Addr, v = some (.ref b) ∧ Fr Z.heap.size L ∧ Ext Z.heap h ∧ Keep h0 h [] ∧ Exa Z h b "java/util/Optional" ∧ Fld Z h b "java/util/Optional" "value" "Ljava/lang/Object;" (.ref t) ∧ Z.heap.size ≤ b ∧ h0.size ≤ b
theorem d9_10 : decode jdk_32_method_4_code 10 = .ok (.new 2, 3) := by decide +kernel
theorem d9_13 : decode jdk_32_method_4_code 13 = .ok (.dup, 1) := by decide +kernel
theorem d9_14 : decode jdk_32_method_4_code 14 = .ok (.aload_n 0, 1) := by decide +kernel
theorem d9_15 : decode jdk_32_method_4_code 15 = .ok (.invokespecial 23, 3) := by decide +kernel
theorem pd__Ljava_lang_Object__V : parseMethodDescriptor "(Ljava/lang/Object;)V" = some ⟨[(.object "java/lang/Object")], none⟩ := by decide +kernel
set_option maxRecDepth 65536 in
set_option maxHeartbeats 40000000 in
theorem rmOf1 (l : Launch) (Z : State) (a0 : Array Value) (hw : ∀ d ∈ tables_1, d.before a0 Z = true) (ws : List Jvm.Cond) (t : Addr) (h0 : Heap) (O0 : Ext Z.heap h0) :
    MetFree l (⟨"java/util/Optional", "ofNullable", "(Ljava/lang/Object;)Ljava/util/Optional;"⟩ : MethodName) (head1 (Jvm.Cond.code (⟨"java/util/Optional", "ofNullable", "(Ljava/lang/Object;)Ljava/util/Optional;"⟩ : MethodName) jdk_32_method_4_code 1 (some (.object "java/util/Optional")) :: ws) ({ frames := 2, cells := 1, slots := 1, locals := 28 } : Room)) (fun av' U => av' = #[(.ref t)] ∧ Z.Warmed39 U.vm ∧ U.heap = h0) (fun _ _ _ _ _ => True) (fun _ U o U' => ∃ v L, o = .returned v ∧ Q_rmOf1 Z t h0 v U'.heap L ∧ FrameEnd U o U' L ({ frames := 2, cells := 1, slots := 1, locals := 28 } : Room).cells ({ frames := 2, cells := 1, slots := 1, locals := 28 } : Room).slots) := by
  refine MetFree.of_bodySF (plainFor_of_name pn_java_util_Optional) hisR ?_
  intro p e s m args below meth c s₁ Bd hml0 hP hK
  obtain ⟨rfl, hZ, hh⟩ := hP
  have hx := Bd.exec
  have hby := Bd.bytes
  have hret := Bd.returns
  have hlk : meth.locks = false := Bd.notSynchronized
  have hml : c.maxLocals = 1 := hml0
  have hown : s.vm.findClass "java/util/Optional" = some m.cls := findClass_of_methodNamed Bd.named
  have hnm := (name_of_methodNamed Bd.named Bd.method).1
  have X0 : Stand p l e ({ frames := 2, cells := 1, slots := 1, locals := 28 } : Room) s m #[(.ref t)] below meth c s₁ [] 0 0 := Stand.of_body Bd
  -- the walk
  have e0 : s₁.heap = h0 := by rw [← hh, Bd.state]; rfl
  have N0 := Fr.nil Z.heap.size
  have K0 := Keep.refl h0 []
  show Go p e below (GO s (Q_rmOf1 Z t h0) ({ frames := 2, cells := 1, slots := 1, locals := 28 } : Room).cells ({ frames := 2, cells := 1, slots := 1, locals := 28 } : Room).slots) (s₁.setTop (entryFrame m #[(.ref t)] 1))
  refine Go.st (fun t' k' => castTop (ef_rmOf1 m t) k') ?_
  show Go p e below _ (s₁.setTop (mkF m 0 #[.val (.ref t)] []))
  refine Go.st (fun t' k' => XS.aloadN X0.here hx rfl (hb hby d9_0) rfl rfl k') ?_
  show Go p e below _ (s₁.setTop (mkF m 1 #[.val (.ref t)] [(.ref t)]))
  refine Go.st (fun t' k' => XS.ifnonnullYes X0.here hx rfl (pc0 := 1) (pc' := 10) rfl (hb hby d9_1) rfl (by decide) (by decide) k') ?_
  show Go p e below _ (s₁.setTop (mkF m 10 #[.val (.ref t)] []))
  obtain ⟨T1, h1, X1, e1, E1, A1, D1, -, st1⟩ := newO X0 hx hZ hown (hw _ (List.mem_of_getElem? (i := 77) rfl)) (hw _ (List.mem_of_getElem? (i := 78) rfl)) (hw _ (List.mem_of_getElem? (i := 62) rfl)) e0 (g := (mkF m 10 #[.val (.ref t)] [])) rfl (hb hby d9_10) (by decide) (by decide)
  obtain ⟨b1, g1⟩ : ∃ z, z = h0.size := ⟨_, rfl⟩
  rw [← g1] at A1 D1 st1
  refine Go.st st1 ?_
  have g_b1 : Z.heap.size ≤ b1 := Nat.le_trans O0.1 (Nat.le_of_eq g1.symm)
  have sz_b1 : h0.size ≤ b1 := Nat.le_trans K0.1 (Nat.le_of_eq g1.symm)
  have O1 := own_ext_trans O0 E1
  have K1 := K0.ext E1
  have F_value_b1 : Fld Z h1 b1 "java/util/Optional" "value" "Ljava/lang/Object;" .null := D1 (Or.inr (hw _ (List.mem_of_getElem? (i := 71) rfl))) (ty := (.object "java/lang/Object")) (by decide)
  show Go p e below _ (T1.setTop (mkF m 13 #[.val (.ref t)] [(.ref b1)]))
  refine Go.st (fun t' k' => XS.dup X1.here hx rfl (hb hby d9_13) rfl rfl k') ?_
  show Go p e below _ (T1.setTop (mkF m 14 #[.val (.ref t)] [(.ref b1), (.ref b1)]))
  refine Go.st (fun t' k' => XS.aloadN X1.here hx rfl (hb hby d9_14) rfl rfl k') ?_
  show Go p e below _ (T1.setTop (mkF m 15 #[.val (.ref t)] [(.ref t), (.ref b1), (.ref b1)]))
  obtain ⟨_, _, ⟨T3, L3, k3, n3⟩, -, X3, ⟨Lc3, hQ3, l3, y3, z3⟩, st3⟩ := X1.specialBack hx (y := (⟨"java/util/Optional", "<init>", "(Ljava/lang/Object;)V"⟩ : MethodName)) rfl hown (mvT hZ (hw _ (List.mem_of_getElem? (i := 79) rfl))) (mvT hZ (hw _ (List.mem_of_getElem? (i := 80) rfl))) (mvT hZ (hw _ (List.mem_of_getElem? (i := 82) rfl))) (by decide) (backOf (W := 1) (rmOpI l Z a0 hw [] b1 t h1 O1 A1 g_b1 F_value_b1) hZ (hw _ (List.mem_of_getElem? (i := 82) rfl)) (hw _ (List.mem_of_getElem? (i := 62) rfl)) (by decide) (by decide)) (g := (mkF m 15 #[.val (.ref t)] [(.ref t), (.ref b1), (.ref b1)])) rfl (by rw [hml]; rfl) (Steps.refl _) (a := b1) (argsL := [(.ref t)]) (rest := [(.ref b1)]) (lenOf pd__Ljava_lang_Object__V rfl) rfl (by show 2 * 0 + _ ≤ _; exact Nat.le_of_eq rfl) (hb hby d9_15) (fun _ _ => ⟨rfl, e1, (by decide : 1 + 0 ≤ _), (by decide : 1 + 0 ≤ _)⟩)
  dsimp only [Pt.U, Pt.locs, Pt.cells, Pt.slots] at X3 l3 y3 z3 st3 hQ3
  subst l3 y3 z3
  obtain ⟨rfl, N3q, O3, Kc3, Pv_3⟩ := hQ3
  have N3 := Fr.app N0 N3q
  refine Go.tr st3 ?_
  have A1_h4 := A1.keep Kc3
  have K3 := K1.trans Kc3 (allS (Or.inr sz_b1) all0)
  show Go p e below _ (T3.setTop (mkF m 18 #[.val (.ref t)] [(.ref b1)]))
  exact Go.outR X3 hx hlk hret rfl rfl (hb hby d9_18) (Q := Q_rmOf1 Z t h0) (⟨b1, rfl, N3, O3, K3, A1_h4, Pv_3, g_b1, sz_b1⟩) (by decide) (by decide)
theorem ef_rmIs0 (m : MethodId) (x0 : Addr) : entryFrame m #[(.ref x0)] 1 = mkF m 0 #[.val (.ref x0)] [] := by first | (simp [entryFrame, mkF, argsToLocals, Value.category]; done) | rfl
def Q_rmIs0 (Z : State) (a : Addr) (h0 : Heap) (v : Option Value) (h : Heap) (L : List Loc) : Prop := v = some (.int (0 : Int32)) ∧ L = [] ∧ h = h0
theorem d10_0 : decode jdk_32_method_6_code 0 = .ok (.aload_n 0, 1) := by decide +kernel
theorem d10_1 : decode jdk_32_method_6_code 1 = .ok (.getfield 13, 3) := by decide +kernel
theorem d10_4 : decode jdk_32_method_6_code 4 = .ok (.ifnull 7, 3) := by decide +kernel
theorem d10_11 : decode jdk_32_method_6_code 11 = .ok (.iconst 0, 1) := by decide +kernel
theorem d10_12 : decode jdk_32_method_6_code 12 = .ok (.ireturn, 1) := by decide +kernel
set_option maxRecDepth 65536 in
set_option maxHeartbeats 40000000 in
theorem rmIs0 (l : Launch) (Z : State) (a0 : Array Value) (hw : ∀ d ∈ tables_1, d.before a0 Z = true) (ws : List Jvm.Cond) (a : Addr) (h0 : Heap) (O0 : Ext Z.heap h0) (Fv : Fld Z h0 a "java/util/Optional" "value" "Ljava/lang/Object;" .null) :
    MetFree l (⟨"java/util/Optional", "isPresent", "()Z"⟩ : MethodName) (head1 (Jvm.Cond.code (⟨"java/util/Optional", "isPresent", "()Z"⟩ : MethodName) jdk_32_method_6_code 1 (some .boolean) :: ws) ({ frames := 0, cells := 0, slots := 0, locals := 0 } : Room)) (fun av' U => av' = #[(.ref a)] ∧ Z.Warmed39 U.vm ∧ U.heap = h0) (fun _ _ _ _ _ => True) (fun _ U o U' => ∃ v L, o = .returned v ∧ Q_rmIs0 Z a h0 v U'.heap L ∧ FrameEnd U o U' L ({ frames := 0, cells := 0, slots := 0, locals := 0 } : Room).cells ({ frames := 0, cells := 0, slots := 0, locals := 0 } : Room).slots) := by
  refine MetFree.of_bodySF (plainFor_of_name pn_java_util_Optional) hisR ?_
  intro p e s m args below meth c s₁ Bd hml0 hP hK
  obtain ⟨rfl, hZ, hh⟩ := hP
  have hx := Bd.exec
  have hby := Bd.bytes
  have hret := Bd.returns
  have hlk : meth.locks = false := Bd.notSynchronized
  have hml : c.maxLocals = 1 := hml0
  have hown : s.vm.findClass "java/util/Optional" = some m.cls := findClass_of_methodNamed Bd.named
  have hnm := (name_of_methodNamed Bd.named Bd.method).1
  have X0 : Stand p l e ({ frames := 0, cells := 0, slots := 0, locals := 0 } : Room) s m #[(.ref a)] below meth c s₁ [] 0 0 := Stand.of_body Bd
  -- the walk
  have e0 : s₁.heap = h0 := by rw [← hh, Bd.state]; rfl
  have N0 := Fr.nil Z.heap.size
  show Go p e below (GO s (Q_rmIs0 Z a h0) ({ frames := 0, cells := 0, slots := 0, locals := 0 } : Room).cells ({ frames := 0, cells := 0, slots := 0, locals := 0 } : Room).slots) (s₁.setTop (entryFrame m #[(.ref a)] 1))
  refine Go.st (fun t' k' => castTop (ef_rmIs0 m a) k') ?_
  show Go p e below _ (s₁.setTop (mkF m 0 #[.val (.ref a)] []))
  refine Go.st (fun t' k' => XS.aloadN X0.here hx rfl (hb hby d10_0) rfl rfl k') ?_
  show Go p e below _ (s₁.setTop (mkF m 1 #[.val (.ref a)] [(.ref a)]))
  obtain ⟨T1, X1, e1, st1⟩ := getF X0 hx hZ hown (host := "") (Or.inl (hw _ (List.mem_of_getElem? (i := 70) rfl))) Via.refl e0 Fv (g := (mkF m 1 #[.val (.ref a)] [(.ref a)])) rfl rfl (hb hby d10_1)
  refine Go.st st1 ?_
  show Go p e below _ (T1.setTop (mkF m 4 #[.val (.ref a)] [.null]))
  refine Go.st (fun t' k' => XS.ifnullYes X1.here hx rfl (pc0 := 4) (pc' := 11) rfl (hb hby d10_4) rfl (by decide) (by decide) k') ?_
  show Go p e below _ (T1.setTop (mkF m 11 #[.val (.ref a)] []))
  refine Go.st (fun t' k' => XS.iconst X1.here hx rfl (hb hby d10_11) k') ?_
  show Go p e below _ (T1.setTop (mkF m 12 #[.val (.ref a)] [(.int (0 : Int32))]))
  exact Go.outN X1 hx hlk (t := .boolean) hret (by simp) (hb hby d10_12) (Q := Q_rmIs0 Z a h0) (by rw [e1]; exact ⟨rfl, rfl, rfl⟩) (by decide) (by decide)
theorem ef_rmIs1 (m : MethodId) (x0 : Addr) : entryFrame m #[(.ref x0)] 1 = mkF m 0 #[.val (.ref x0)] [] := by first | (simp [entryFrame, mkF, argsToLocals, Value.category]; done) | rfl
def Q_rmIs1 (Z : State) (a : Addr) (t : Addr) (h0 : Heap) (v : Option Value) (h : Heap) (L : List Loc) : Prop := v = some (.int (1 : Int32)) ∧ L = [] ∧ h = h0
theorem d10_7 : decode jdk_32_method_6_code 7 = .ok (.iconst 1, 1) := by decide +kernel
theorem d10_8 : decode jdk_32_method_6_code 8 = .ok (.goto 4, 3) := by decide +kernel
set_option maxRecDepth 65536 in
set_option maxHeartbeats 40000000 in
theorem rmIs1 (l : Launch) (Z : State) (a0 : Array Value) (hw : ∀ d ∈ tables_1, d.before a0 Z = true) (ws : List Jvm.Cond) (a : Addr) (t : Addr) (h0 : Heap) (O0 : Ext Z.heap h0) (Fv : Fld Z h0 a "java/util/Optional" "value" "Ljava/lang/Object;" (.ref t)) :
    MetFree l (⟨"java/util/Optional", "isPresent", "()Z"⟩ : MethodName) (head1 (Jvm.Cond.code (⟨"java/util/Optional", "isPresent", "()Z"⟩ : MethodName) jdk_32_method_6_code 1 (some .boolean) :: ws) ({ frames := 0, cells := 0, slots := 0, locals := 0 } : Room)) (fun av' U => av' = #[(.ref a)] ∧ Z.Warmed39 U.vm ∧ U.heap = h0) (fun _ _ _ _ _ => True) (fun _ U o U' => ∃ v L, o = .returned v ∧ Q_rmIs1 Z a t h0 v U'.heap L ∧ FrameEnd U o U' L ({ frames := 0, cells := 0, slots := 0, locals := 0 } : Room).cells ({ frames := 0, cells := 0, slots := 0, locals := 0 } : Room).slots) := by
  refine MetFree.of_bodySF (plainFor_of_name pn_java_util_Optional) hisR ?_
  intro p e s m args below meth c s₁ Bd hml0 hP hK
  obtain ⟨rfl, hZ, hh⟩ := hP
  have hx := Bd.exec
  have hby := Bd.bytes
  have hret := Bd.returns
  have hlk : meth.locks = false := Bd.notSynchronized
  have hml : c.maxLocals = 1 := hml0
  have hown : s.vm.findClass "java/util/Optional" = some m.cls := findClass_of_methodNamed Bd.named
  have hnm := (name_of_methodNamed Bd.named Bd.method).1
  have X0 : Stand p l e ({ frames := 0, cells := 0, slots := 0, locals := 0 } : Room) s m #[(.ref a)] below meth c s₁ [] 0 0 := Stand.of_body Bd
  -- the walk
  have e0 : s₁.heap = h0 := by rw [← hh, Bd.state]; rfl
  have N0 := Fr.nil Z.heap.size
  show Go p e below (GO s (Q_rmIs1 Z a t h0) ({ frames := 0, cells := 0, slots := 0, locals := 0 } : Room).cells ({ frames := 0, cells := 0, slots := 0, locals := 0 } : Room).slots) (s₁.setTop (entryFrame m #[(.ref a)] 1))
  refine Go.st (fun t' k' => castTop (ef_rmIs1 m a) k') ?_
  show Go p e below _ (s₁.setTop (mkF m 0 #[.val (.ref a)] []))
  refine Go.st (fun t' k' => XS.aloadN X0.here hx rfl (hb hby d10_0) rfl rfl k') ?_
  show Go p e below _ (s₁.setTop (mkF m 1 #[.val (.ref a)] [(.ref a)]))
  obtain ⟨T1, X1, e1, st1⟩ := getF X0 hx hZ hown (host := "") (Or.inl (hw _ (List.mem_of_getElem? (i := 70) rfl))) Via.refl e0 Fv (g := (mkF m 1 #[.val (.ref a)] [(.ref a)])) rfl rfl (hb hby d10_1)
  refine Go.st st1 ?_
  show Go p e below _ (T1.setTop (mkF m 4 #[.val (.ref a)] [(.ref t)]))
  refine Go.st (fun t' k' => XS.ifnullNo X1.here hx rfl (hb hby d10_4) rfl k') ?_
  show Go p e below _ (T1.setTop (mkF m 7 #[.val (.ref a)] []))
  refine Go.st (fun t' k' => XS.iconst X1.here hx rfl (hb hby d10_7) k') ?_
  show Go p e below _ (T1.setTop (mkF m 8 #[.val (.ref a)] [(.int (1 : Int32))]))
  refine Go.st (fun t' k' => XS.goto X1.here hx rfl (pc0 := 8) (pc' := 12) rfl (hb hby d10_8) (by decide) (by decide) k') ?_
  show Go p e below _ (T1.setTop (mkF m 12 #[.val (.ref a)] [(.int (1 : Int32))]))
  exact Go.outN X1 hx hlk (t := .boolean) hret (by simp) (hb hby d10_12) (Q := Q_rmIs1 Z a t h0) (by rw [e1]; exact ⟨rfl, rfl, rfl⟩) (by decide) (by decide)
theorem ef_rmGet (m : MethodId) (x0 : Addr) : entryFrame m #[(.ref x0)] 1 = mkF m 0 #[.val (.ref x0)] [] := by first | (simp [entryFrame, mkF, argsToLocals, Value.category]; done) | rfl
def Q_rmGet (Z : State) (a : Addr) (t : Addr) (h0 : Heap) (v : Option Value) (h : Heap) (L : List Loc) : Prop := v = some (.ref t) ∧ L = [] ∧ h = h0
theorem d13_0 : decode jdk_32_method_5_code 0 = .ok (.aload_n 0, 1) := by decide +kernel
theorem d13_1 : decode jdk_32_method_5_code 1 = .ok (.getfield 13, 3) := by decide +kernel
theorem d13_4 : decode jdk_32_method_5_code 4 = .ok (.ifnonnull 13, 3) := by decide +kernel
theorem d13_17 : decode jdk_32_method_5_code 17 = .ok (.aload_n 0, 1) := by decide +kernel
theorem d13_18 : decode jdk_32_method_5_code 18 = .ok (.getfield 13, 3) := by decide +kernel
theorem d13_21 : decode jdk_32_method_5_code 21 = .ok (.areturn, 1) := by decide +kernel
set_option maxRecDepth 65536 in
set_option maxHeartbeats 40000000 in
theorem rmGet (l : Launch) (Z : State) (a0 : Array Value) (hw : ∀ d ∈ tables_1, d.before a0 Z = true) (ws : List Jvm.Cond) (a : Addr) (t : Addr) (h0 : Heap) (O0 : Ext Z.heap h0) (Fv : Fld Z h0 a "java/util/Optional" "value" "Ljava/lang/Object;" (.ref t)) :
    MetFree l (⟨"java/util/Optional", "get", "()Ljava/lang/Object;"⟩ : MethodName) (head1 (Jvm.Cond.code (⟨"java/util/Optional", "get", "()Ljava/lang/Object;"⟩ : MethodName) jdk_32_method_5_code 1 (some (.object "java/lang/Object")) :: ws) ({ frames := 0, cells := 0, slots := 0, locals := 0 } : Room)) (fun av' U => av' = #[(.ref a)] ∧ Z.Warmed39 U.vm ∧ U.heap = h0) (fun _ _ _ _ _ => True) (fun _ U o U' => ∃ v L, o = .returned v ∧ Q_rmGet Z a t h0 v U'.heap L ∧ FrameEnd U o U' L ({ frames := 0, cells := 0, slots := 0, locals := 0 } : Room).cells ({ frames := 0, cells := 0, slots := 0, locals := 0 } : Room).slots) := by
  refine MetFree.of_bodySF (plainFor_of_name pn_java_util_Optional) hisR ?_
  intro p e s m args below meth c s₁ Bd hml0 hP hK
  obtain ⟨rfl, hZ, hh⟩ := hP
  have hx := Bd.exec
  have hby := Bd.bytes
  have hret := Bd.returns
  have hlk : meth.locks = false := Bd.notSynchronized
  have hml : c.maxLocals = 1 := hml0
  have hown : s.vm.findClass "java/util/Optional" = some m.cls := findClass_of_methodNamed Bd.named
  have hnm := (name_of_methodNamed Bd.named Bd.method).1
  have X0 : Stand p l e ({ frames := 0, cells := 0, slots := 0, locals := 0 } : Room) s m #[(.ref a)] below meth c s₁ [] 0 0 := Stand.of_body Bd
  -- the walk
  have e0 : s₁.heap = h0 := by rw [← hh, Bd.state]; rfl
  have N0 := Fr.nil Z.heap.size
  show Go p e below (GO s (Q_rmGet Z a t h0) ({ frames := 0, cells := 0, slots := 0, locals := 0 } : Room).cells ({ frames := 0, cells := 0, slots := 0, locals := 0 } : Room).slots) (s₁.setTop (entryFrame m #[(.ref a)] 1))
  refine Go.st (fun t' k' => castTop (ef_rmGet m a) k') ?_
  show Go p e below _ (s₁.setTop (mkF m 0 #[.val (.ref a)] []))
  refine Go.st (fun t' k' => XS.aloadN X0.here hx rfl (hb hby d13_0) rfl rfl k') ?_
  show Go p e below _ (s₁.setTop (mkF m 1 #[.val (.ref a)] [(.ref a)]))
  obtain ⟨T1, X1, e1, st1⟩ := getF X0 hx hZ hown (host := "") (Or.inl (hw _ (List.mem_of_getElem? (i := 70) rfl))) Via.refl e0 Fv (g := (mkF m 1 #[.val (.ref a)] [(.ref a)])) rfl rfl (hb hby d13_1)
  refine Go.st st1 ?_
  show Go p e below _ (T1.setTop (mkF m 4 #[.val (.ref a)] [(.ref t)]))
  refine Go.st (fun t' k' => XS.ifnonnullYes X1.here hx rfl (pc0 := 4) (pc' := 17) rfl (hb hby d13_4) rfl (by decide) (by decide) k') ?_
  show Go p e below _ (T1.setTop (mkF m 17 #[.val (.ref a)] []))
  refine Go.st (fun t' k' => XS.aloadN X1.here hx rfl (hb hby d13_17) rfl rfl k') ?_
  show Go p e below _ (T1.setTop (mkF m 18 #[.val (.ref a)] [(.ref a)]))
  obtain ⟨T2, X2, e2, st2⟩ := getF X1 hx hZ hown (host := "") (Or.inl (hw _ (List.mem_of_getElem? (i := 70) rfl))) Via.refl e1 Fv (g := (mkF m 18 #[.val (.ref a)] [(.ref a)])) rfl rfl (hb hby d13_18)
  refine Go.st st2 ?_
  show Go p e below _ (T2.setTop (mkF m 21 #[.val (.ref a)] [(.ref t)]))
  exact Go.outR X2 hx hlk hret rfl rfl (hb hby d13_21) (Q := Q_rmGet Z a t h0) (by rw [e2]; exact ⟨rfl, rfl, rfl⟩) (by decide) (by decide)
theorem ef_rmCR (m : MethodId) (x0 : Addr) (x1 : Addr) : entryFrame m #[(.ref x0), (.ref x1)] 2 = mkF m 0 #[.val (.ref x0), .val (.ref x1)] [] := by first | (simp [entryFrame, mkF, argsToLocals, Value.category]; done) | rfl
def Q_rmCR (Z : State) (a : Addr) (t : Addr) (h0 : Heap) (v : Option Value) (h : Heap) (L : List Loc) : Prop := v = none ∧ Fr Z.heap.size L ∧ Ext Z.heap h ∧ Keep h0 h [a] ∧ Fld Z h a "com/example/claim/claim/model/CredentialRefusal" "reason" "Lcom/example/claim/claim/model/CredentialRefusalReason;" (.ref t)
theorem pn_com_example_claim_claim_model_CredentialRefusal : plainName "com/example/claim/claim/model/CredentialRefusal" = true := by first | (simp [plainName, overriddenIn]; done) | decide +kernel
theorem d1_0 : decode prog_41_method_1_code 0 = .ok (.aload_n 0, 1) := by decide +kernel
theorem d1_1 : decode prog_41_method_1_code 1 = .ok (.invokespecial 1, 3) := by decide +kernel
theorem pd___V : parseMethodDescriptor "()V" = some ⟨[], none⟩ := by decide +kernel
theorem d1_4 : decode prog_41_method_1_code 4 = .ok (.aload_n 1, 1) := by decide +kernel
theorem d1_5 : decode prog_41_method_1_code 5 = .ok (.ldc 7, 2) := by decide +kernel
theorem d1_7 : decode prog_41_method_1_code 7 = .ok (.invokestatic 9, 3) := by decide +kernel
theorem pd__Ljava_lang_Object_Ljava_lang_String__Ljava_lang_Object_ : parseMethodDescriptor "(Ljava/lang/Object;Ljava/lang/String;)Ljava/lang/Object;" = some ⟨[(.object "java/lang/Object"), (.object "java/lang/String")], some (.object "java/lang/Object")⟩ := by decide +kernel
theorem d1_10 : decode prog_41_method_1_code 10 = .ok (.pop, 1) := by decide +kernel
theorem d1_11 : decode prog_41_method_1_code 11 = .ok (.aload_n 0, 1) := by decide +kernel
theorem d1_12 : decode prog_41_method_1_code 12 = .ok (.aload_n 1, 1) := by decide +kernel
theorem d1_13 : decode prog_41_method_1_code 13 = .ok (.putfield 15, 3) := by decide +kernel
theorem d1_16 : decode prog_41_method_1_code 16 = .ok (.return_, 1) := by decide +kernel
set_option maxRecDepth 65536 in
set_option maxHeartbeats 40000000 in
theorem rmCR (l : Launch) (Z : State) (a0 : Array Value) (hw : ∀ d ∈ tables_1, d.before a0 Z = true) (ws : List Jvm.Cond) (a : Addr) (t : Addr) (h0 : Heap) (O0 : Ext Z.heap h0) (Ea : Exa Z h0 a "com/example/claim/claim/model/CredentialRefusal") (Ga : Z.heap.size ≤ a) (Frj : Fld Z h0 a "com/example/claim/claim/model/CredentialRefusal" "reason" "Lcom/example/claim/claim/model/CredentialRefusalReason;" .null) :
    MetFree l (⟨"com/example/claim/claim/model/CredentialRefusal", "<init>", "(Lcom/example/claim/claim/model/CredentialRefusalReason;)V"⟩ : MethodName) (head1 (Jvm.Cond.code (⟨"com/example/claim/claim/model/CredentialRefusal", "<init>", "(Lcom/example/claim/claim/model/CredentialRefusalReason;)V"⟩ : MethodName) prog_41_method_1_code 2 none :: ws) ({ frames := 2, cells := 2, slots := 28, locals := 40 } : Room)) (fun av' U => av' = #[(.ref a), (.ref t)] ∧ Z.Warmed39 U.vm ∧ U.heap = h0) (fun _ _ _ _ _ => True) (fun _ U o U' => ∃ v L, o = .returned v ∧ Q_rmCR Z a t h0 v U'.heap L ∧ ReturnedEndW U o U' L ({ frames := 2, cells := 2, slots := 28, locals := 40 } : Room).cells ({ frames := 2, cells := 2, slots := 28, locals := 40 } : Room).slots) := by
  refine MetFree.of_bodySF (plainFor_of_name pn_com_example_claim_claim_model_CredentialRefusal) hisR ?_
  intro p e s m args below meth c s₁ Bd hml0 hP hK
  obtain ⟨rfl, hZ, hh⟩ := hP
  have hx := Bd.exec
  have hby := Bd.bytes
  have hret := Bd.returns
  have hlk : meth.locks = false := Bd.notSynchronized
  have hml : c.maxLocals = 2 := hml0
  have hown : s.vm.findClass "com/example/claim/claim/model/CredentialRefusal" = some m.cls := findClass_of_methodNamed Bd.named
  have hnm := (name_of_methodNamed Bd.named Bd.method).1
  have X0 : Stand p l e ({ frames := 2, cells := 2, slots := 28, locals := 40 } : Room) (s.setVm s.vm) m #[(.ref a), (.ref t)] below meth c s₁ [] 0 0 := Stand.of_body Bd
  have hS0 : s.Since s.vm s.heap.size := (State.WarmedH.refl s).since _
  have hk0 : s.heap.size ≤ h0.size := Nat.le_of_eq (by rw [hh])
  -- the walk
  have e0 : s₁.heap = h0 := by rw [← hh, Bd.state]; rfl
  have N0 := Fr.nil Z.heap.size
  have K0 := Keep.refl h0 [a]
  show Go p e below (GOW s (Q_rmCR Z a t h0) ({ frames := 2, cells := 2, slots := 28, locals := 40 } : Room).cells ({ frames := 2, cells := 2, slots := 28, locals := 40 } : Room).slots) (s₁.setTop (entryFrame m #[(.ref a), (.ref t)] 2))
  refine Go.st (fun t' k' => castTop (ef_rmCR m a t) k') ?_
  show Go p e below _ (s₁.setTop (mkF m 0 #[.val (.ref a), .val (.ref t)] []))
  refine Go.st (fun t' k' => XS.aloadN X0.here hx rfl (hb hby d1_0) rfl rfl k') ?_
  show Go p e below _ (s₁.setTop (mkF m 1 #[.val (.ref a), .val (.ref t)] [(.ref a)]))
  obtain ⟨_, _, ⟨T1, L1, k1, n1⟩, -, X1, ⟨Lc1, hQ1, l1, y1, z1⟩, st1⟩ := X0.specialBack hx (y := (⟨"java/lang/Record", "<init>", "()V"⟩ : MethodName)) rfl hown (mvT hZ (hw _ (List.mem_of_getElem? (i := 10) rfl))) (mvT hZ (hw _ (List.mem_of_getElem? (i := 11) rfl))) (mvT hZ (hw _ (List.mem_of_getElem? (i := 14) rfl))) (by decide) (backOf (W := 0) (rmRec l Z a0 hw [] a h0 O0 ) hZ (hw _ (List.mem_of_getElem? (i := 14) rfl)) (hw _ (List.mem_of_getElem? (i := 13) rfl)) (by decide) (by decide)) (g := (mkF m 1 #[.val (.ref a), .val (.ref t)] [(.ref a)])) rfl (by rw [hml]; rfl) (Steps.refl _) (a := a) (argsL := []) (rest := []) (lenOf pd___V rfl) rfl (by show 2 * 0 + _ ≤ _; exact Nat.le_of_eq rfl) (hb hby d1_1) (fun _ _ => ⟨rfl, e0, (by decide : 0 + 0 ≤ _), (by decide : 0 + 0 ≤ _)⟩)
  dsimp only [Pt.U, Pt.locs, Pt.cells, Pt.slots] at X1 l1 y1 z1 st1 hQ1
  subst l1 y1 z1
  obtain ⟨rfl, rfl, e1⟩ := hQ1
  have N1 := Fr.app N0 (Fr.nil _)
  refine Go.tr st1 ?_
  show Go p e below _ (T1.setTop (mkF m 4 #[.val (.ref a), .val (.ref t)] []))
  refine Go.st (fun t' k' => XS.aloadN X1.here hx rfl (hb hby d1_4) rfl rfl k') ?_
  show Go p e below _ (T1.setTop (mkF m 5 #[.val (.ref a), .val (.ref t)] [(.ref t)]))
  obtain ⟨a2, T2, h2, k2z, X2, e2, E2, hS2, hk2, hZ2, hown2, st2⟩ := ldcS X1 hx hZ hown (hw _ (List.mem_of_getElem? (i := 18) rfl)) (own_wS hw) e1 hS0 hk0 (g := (mkF m 5 #[.val (.ref a), .val (.ref t)] [(.ref t)])) rfl (hb hby d1_5) (n := 24) (by decide) (by decide) (by decide) (by decide)
  refine Go.st st2 ?_
  have Ea_h3 := Ea.ext E2
  have Frj_h3 := Frj.ext E2
  have O2 := own_ext_trans O0 E2
  have K2 := K0.ext E2
  show Go p e below _ (T2.setTop (mkF m 7 #[.val (.ref a), .val (.ref t)] [(.ref a2), (.ref t)]))
  obtain ⟨_, _, ⟨T4, L4, k4, n4⟩, -, X4, ⟨Lc4, hQ4, l4, y4, z4⟩, st4⟩ := Jvm.LawKit.callS X2 hx (y := (⟨"java/util/Objects", "requireNonNull", "(Ljava/lang/Object;Ljava/lang/String;)Ljava/lang/Object;"⟩ : MethodName)) hown2 (mvT hZ2 (hw _ (List.mem_of_getElem? (i := 26) rfl))) (mvT hZ2 (hw _ (List.mem_of_getElem? (i := 27) rfl))) (mvT hZ2 (hw _ (List.mem_of_getElem? (i := 28) rfl))) (mvT hZ2 (hw _ (List.mem_of_getElem? (i := 29) rfl))) (by decide) (backOf (W := 0) (rmNN2 l Z a0 hw [] t a2 h2 O2 ) hZ2 (hw _ (List.mem_of_getElem? (i := 29) rfl)) (hw _ (List.mem_of_getElem? (i := 28) rfl)) (by decide) (by decide)) (g := (mkF m 7 #[.val (.ref a), .val (.ref t)] [(.ref a2), (.ref t)])) rfl (by rw [hml]; rfl) (argsL := [(.ref t), (.ref a2)]) (rest := []) (lenOf pd__Ljava_lang_Object_Ljava_lang_String__Ljava_lang_Object_ rfl) rfl (by show 2 * 0 + _ ≤ _; exact Nat.le_of_eq rfl) (hb hby d1_7) (fun _ _ => ⟨rfl, e2, (by decide : 2 + 0 ≤ _), (by decide : 28 + 0 ≤ _)⟩)
  dsimp only [Pt.U, Pt.locs, Pt.cells, Pt.slots] at X4 l4 y4 z4 st4 hQ4
  subst l4 y4 z4
  obtain ⟨rfl, rfl, e4⟩ := hQ4
  have N4 := Fr.app N1 (Fr.nil _)
  refine Go.st st4 ?_
  show Go p e below _ (T4.setTop (mkF m 10 #[.val (.ref a), .val (.ref t)] [(.ref t)]))
  refine Go.st (fun t' k' => XS.pop X4.here hx rfl (hb hby d1_10) rfl rfl k') ?_
  show Go p e below _ (T4.setTop (mkF m 11 #[.val (.ref a), .val (.ref t)] []))
  refine Go.st (fun t' k' => XS.aloadN X4.here hx rfl (hb hby d1_11) rfl rfl k') ?_
  show Go p e below _ (T4.setTop (mkF m 12 #[.val (.ref a), .val (.ref t)] [(.ref a)]))
  refine Go.st (fun t' k' => XS.aloadN X4.here hx rfl (hb hby d1_12) rfl rfl k') ?_
  show Go p e below _ (T4.setTop (mkF m 13 #[.val (.ref a), .val (.ref t)] [(.ref t), (.ref a)]))
  obtain ⟨T5, h5, X5, e5, W5, st5⟩ := putF X4 hx hZ2 hown2 (host := "") (Or.inl (hw _ (List.mem_of_getElem? (i := 30) rfl))) Via.refl e4 Frj_h3 Ea_h3 (Or.inr ⟨(hw _ (List.mem_of_getElem? (i := 31) rfl)), rfl, hnm⟩) (hw _ (List.mem_of_getElem? (i := 5) rfl)) (ty := (.object "com/example/claim/claim/model/CredentialRefusalReason")) (by decide) rfl rfl (g := (mkF m 13 #[.val (.ref a), .val (.ref t)] [(.ref t), (.ref a)])) rfl rfl (hb hby d1_13)
  refine Go.st st5 ?_
  have Fw5 : Fld Z h5 a "com/example/claim/claim/model/CredentialRefusal" "reason" "Lcom/example/claim/claim/model/CredentialRefusalReason;" (.ref t) := Frj_h3.same W5
  have Ea_h6 := Ea_h3.wr W5
  have hk5 := Nat.le_trans hk2 (Keep.of_wr W5).1
  have O5 := own_ext_wr O2 W5 Ga
  have K5 := K2.wr W5 (Or.inl (List.mem_of_getElem? (i := 0) rfl))
  have N5 := Fr.snoc X5 N4 Ga
  show Go p e below _ (T5.setTop (mkF m 16 #[.val (.ref a), .val (.ref t)] []))
  exact Go.outW X5 hS2 (by rw [e5]; exact hk5) (v := none) (fun _ => rfl) hlk (fun fs hr => X5.returnOut hx hret (hb hby d1_16) hr) (Q := Q_rmCR Z a t h0) (by rw [e5]; exact ⟨rfl, N5, O5, K5, Fw5⟩) (by decide) (by decide)
theorem ef_rmRI (m : MethodId) (x0 : Addr) (x2 : Addr) : entryFrame m #[(.ref x0), .null, (.ref x2)] 3 = mkF m 0 #[.val (.ref x0), .val .null, .val (.ref x2)] [] := by first | (simp [entryFrame, mkF, argsToLocals, Value.category]; done) | rfl
def Q_rmRI (Z : State) (a : Addr) (t : Addr) (h0 : Heap) (v : Option Value) (h : Heap) (L : List Loc) : Prop := v = none ∧ Fr Z.heap.size L ∧ Ext Z.heap h ∧ Keep h0 h [a] ∧ Fld Z h a "com/example/claim/claim/model/CredentialResult" "principal" "Lcom/example/claim/claim/model/CredentialPrincipal;" .null ∧ Fld Z h a "com/example/claim/claim/model/CredentialResult" "refusal" "Lcom/example/claim/claim/model/CredentialRefusal;" (.ref t)
theorem pn_com_example_claim_claim_model_CredentialResult : plainName "com/example/claim/claim/model/CredentialResult" = true := by first | (simp [plainName, overriddenIn]; done) | decide +kernel
theorem d6_0 : decode prog_43_method_1_code 0 = .ok (.aload_n 0, 1) := by decide +kernel
theorem d6_1 : decode prog_43_method_1_code 1 = .ok (.invokespecial 1, 3) := by decide +kernel
theorem d6_4 : decode prog_43_method_1_code 4 = .ok (.aload_n 0, 1) := by decide +kernel
theorem d6_5 : decode prog_43_method_1_code 5 = .ok (.aload_n 1, 1) := by decide +kernel
theorem d6_6 : decode prog_43_method_1_code 6 = .ok (.putfield 7, 3) := by decide +kernel
theorem d6_9 : decode prog_43_method_1_code 9 = .ok (.aload_n 0, 1) := by decide +kernel
theorem d6_10 : decode prog_43_method_1_code 10 = .ok (.aload_n 2, 1) := by decide +kernel
theorem d6_11 : decode prog_43_method_1_code 11 = .ok (.putfield 13, 3) := by decide +kernel
theorem d6_14 : decode prog_43_method_1_code 14 = .ok (.return_, 1) := by decide +kernel
set_option maxRecDepth 65536 in
set_option maxHeartbeats 40000000 in
theorem rmRI (l : Launch) (Z : State) (a0 : Array Value) (hw : ∀ d ∈ tables_1, d.before a0 Z = true) (ws : List Jvm.Cond) (a : Addr) (t : Addr) (h0 : Heap) (O0 : Ext Z.heap h0) (Ea : Exa Z h0 a "com/example/claim/claim/model/CredentialResult") (Ga : Z.heap.size ≤ a) (Fp : Fld Z h0 a "com/example/claim/claim/model/CredentialResult" "principal" "Lcom/example/claim/claim/model/CredentialPrincipal;" .null) (Fq : Fld Z h0 a "com/example/claim/claim/model/CredentialResult" "refusal" "Lcom/example/claim/claim/model/CredentialRefusal;" .null) :
    MetFree l (⟨"com/example/claim/claim/model/CredentialResult", "<init>", "(Lcom/example/claim/claim/model/CredentialPrincipal;Lcom/example/claim/claim/model/CredentialRefusal;)V"⟩ : MethodName) (head1 (Jvm.Cond.code (⟨"com/example/claim/claim/model/CredentialResult", "<init>", "(Lcom/example/claim/claim/model/CredentialPrincipal;Lcom/example/claim/claim/model/CredentialRefusal;)V"⟩ : MethodName) prog_43_method_1_code 3 none :: ws) ({ frames := 1, cells := 0, slots := 0, locals := 12 } : Room)) (fun av' U => av' = #[(.ref a), .null, (.ref t)] ∧ Z.Warmed39 U.vm ∧ U.heap = h0) (fun _ _ _ _ _ => True) (fun _ U o U' => ∃ v L, o = .returned v ∧ Q_rmRI Z a t h0 v U'.heap L ∧ FrameEnd U o U' L ({ frames := 1, cells := 0, slots := 0, locals := 12 } : Room).cells ({ frames := 1, cells := 0, slots := 0, locals := 12 } : Room).slots) := by
  refine MetFree.of_bodySF (plainFor_of_name pn_com_example_claim_claim_model_CredentialResult) hisR ?_
  intro p e s m args below meth c s₁ Bd hml0 hP hK
  obtain ⟨rfl, hZ, hh⟩ := hP
  have hx := Bd.exec
  have hby := Bd.bytes
  have hret := Bd.returns
  have hlk : meth.locks = false := Bd.notSynchronized
  have hml : c.maxLocals = 3 := hml0
  have hown : s.vm.findClass "com/example/claim/claim/model/CredentialResult" = some m.cls := findClass_of_methodNamed Bd.named
  have hnm := (name_of_methodNamed Bd.named Bd.method).1
  have X0 : Stand p l e ({ frames := 1, cells := 0, slots := 0, locals := 12 } : Room) s m #[(.ref a), .null, (.ref t)] below meth c s₁ [] 0 0 := Stand.of_body Bd
  -- the walk
  have e0 : s₁.heap = h0 := by rw [← hh, Bd.state]; rfl
  have N0 := Fr.nil Z.heap.size
  have K0 := Keep.refl h0 [a]
  show Go p e below (GO s (Q_rmRI Z a t h0) ({ frames := 1, cells := 0, slots := 0, locals := 12 } : Room).cells ({ frames := 1, cells := 0, slots := 0, locals := 12 } : Room).slots) (s₁.setTop (entryFrame m #[(.ref a), .null, (.ref t)] 3))
  refine Go.st (fun t' k' => castTop (ef_rmRI m a t) k') ?_
  show Go p e below _ (s₁.setTop (mkF m 0 #[.val (.ref a), .val .null, .val (.ref t)] []))
  refine Go.st (fun t' k' => XS.aloadN X0.here hx rfl (hb hby d6_0) rfl rfl k') ?_
  show Go p e below _ (s₁.setTop (mkF m 1 #[.val (.ref a), .val .null, .val (.ref t)] [(.ref a)]))
  obtain ⟨T1, X1, e1, st1⟩ := initO X0 hx hZ hown (hw _ (List.mem_of_getElem? (i := 45) rfl)) (hw _ (List.mem_of_getElem? (i := 16) rfl)) (hw _ (List.mem_of_getElem? (i := 17) rfl)) e0 (g := (mkF m 1 #[.val (.ref a), .val .null, .val (.ref t)] [(.ref a)])) rfl (by rw [hml]; rfl) rfl (hb hby d6_1) (by decide) (W := 0) (by show 2 * 0 + _ ≤ _; exact Nat.le_of_eq rfl) (by decide)
  refine Go.st st1 ?_
  show Go p e below _ (T1.setTop (mkF m 4 #[.val (.ref a), .val .null, .val (.ref t)] []))
  refine Go.st (fun t' k' => XS.aloadN X1.here hx rfl (hb hby d6_4) rfl rfl k') ?_
  show Go p e below _ (T1.setTop (mkF m 5 #[.val (.ref a), .val .null, .val (.ref t)] [(.ref a)]))
  refine Go.st (fun t' k' => XS.aloadN X1.here hx rfl (hb hby d6_5) rfl rfl k') ?_
  show Go p e below _ (T1.setTop (mkF m 6 #[.val (.ref a), .val .null, .val (.ref t)] [.null, (.ref a)]))
  obtain ⟨T2, h2, X2, e2, W2, st2⟩ := putF X1 hx hZ hown (host := "") (Or.inl (hw _ (List.mem_of_getElem? (i := 46) rfl))) Via.refl e1 Fp Ea (Or.inr ⟨(hw _ (List.mem_of_getElem? (i := 47) rfl)), rfl, hnm⟩) (hw _ (List.mem_of_getElem? (i := 37) rfl)) (ty := (.object "com/example/claim/claim/model/CredentialPrincipal")) (by decide) rfl rfl (g := (mkF m 6 #[.val (.ref a), .val .null, .val (.ref t)] [.null, (.ref a)])) rfl rfl (hb hby d6_6)
  refine Go.st st2 ?_
  have Fw2 : Fld Z h2 a "com/example/claim/claim/model/CredentialResult" "principal" "Lcom/example/claim/claim/model/CredentialPrincipal;" .null := Fp.same W2
  have Ea_h3 := Ea.wr W2
  have Fq_h3 := Fq.other W2 (Or.inr (slot_ne (Or.inr (hw _ (List.mem_of_getElem? (i := 49) rfl))) (Or.inr (hw _ (List.mem_of_getElem? (i := 47) rfl))) (by decide) (t := (.object "com/example/claim/claim/model/CredentialRefusal")) (t' := (.object "com/example/claim/claim/model/CredentialPrincipal")) (by decide) (by decide)))
  have O2 := own_ext_wr O0 W2 Ga
  have K2 := K0.wr W2 (Or.inl (List.mem_of_getElem? (i := 0) rfl))
  have N2 := Fr.snoc X2 N0 Ga
  show Go p e below _ (T2.setTop (mkF m 9 #[.val (.ref a), .val .null, .val (.ref t)] []))
  refine Go.st (fun t' k' => XS.aloadN X2.here hx rfl (hb hby d6_9) rfl rfl k') ?_
  show Go p e below _ (T2.setTop (mkF m 10 #[.val (.ref a), .val .null, .val (.ref t)] [(.ref a)]))
  refine Go.st (fun t' k' => XS.aloadN X2.here hx rfl (hb hby d6_10) rfl rfl k') ?_
  show Go p e below _ (T2.setTop (mkF m 11 #[.val (.ref a), .val .null, .val (.ref t)] [(.ref t), (.ref a)]))
  obtain ⟨T4, h4, X4, e4, W4, st4⟩ := putF X2 hx hZ hown (host := "") (Or.inl (hw _ (List.mem_of_getElem? (i := 48) rfl))) Via.refl e2 Fq_h3 Ea_h3 (Or.inr ⟨(hw _ (List.mem_of_getElem? (i := 49) rfl)), rfl, hnm⟩) (hw _ (List.mem_of_getElem? (i := 37) rfl)) (ty := (.object "com/example/claim/claim/model/CredentialRefusal")) (by decide) rfl rfl (g := (mkF m 11 #[.val (.ref a), .val .null, .val (.ref t)] [(.ref t), (.ref a)])) rfl rfl (hb hby d6_11)
  refine Go.st st4 ?_
  have Fw4 : Fld Z h4 a "com/example/claim/claim/model/CredentialResult" "refusal" "Lcom/example/claim/claim/model/CredentialRefusal;" (.ref t) := Fq_h3.same W4
  have Ea_h5 := Ea_h3.wr W4
  have Fw2_h5 := Fw2.other W4 (Or.inr (slot_ne (Or.inr (hw _ (List.mem_of_getElem? (i := 47) rfl))) (Or.inr (hw _ (List.mem_of_getElem? (i := 49) rfl))) (by decide) (t := (.object "com/example/claim/claim/model/CredentialPrincipal")) (t' := (.object "com/example/claim/claim/model/CredentialRefusal")) (by decide) (by decide)))
  have O4 := own_ext_wr O2 W4 Ga
  have K4 := K2.wr W4 (Or.inl (List.mem_of_getElem? (i := 0) rfl))
  have N4 := Fr.snoc X4 N2 Ga
  show Go p e below _ (T4.setTop (mkF m 14 #[.val (.ref a), .val .null, .val (.ref t)] []))
  exact Go.outU X4 hx hlk hret (hb hby d6_14) (Q := Q_rmRI Z a t h0) (by rw [e4]; exact ⟨rfl, N4, O4, K4, Fw2_h5, Fw4⟩) (by decide) (by decide)
theorem ef_rmRF (m : MethodId) (x0 : Addr) : entryFrame m #[(.ref x0)] 1 = mkF m 0 #[.val (.ref x0)] [] := by first | (simp [entryFrame, mkF, argsToLocals, Value.category]; done) | rfl
def Q_rmRF (Z : State) (t : Addr) (h0 : Heap) (v : Option Value) (h : Heap) (L : List Loc) : Prop := ∃ b : Addr, v = some (.ref b) ∧ Fr Z.heap.size L ∧ Ext Z.heap h ∧ Keep h0 h [] ∧ Exa Z h b "com/example/claim/claim/model/CredentialResult" ∧ Fld Z h b "com/example/claim/claim/model/CredentialResult" "principal" "Lcom/example/claim/claim/model/CredentialPrincipal;" .null ∧ Fld Z h b "com/example/claim/claim/model/CredentialResult" "refusal" "Lcom/example/claim/claim/model/CredentialRefusal;" (.ref t) ∧ Z.heap.size ≤ b ∧ h0.size ≤ b
theorem d5_0 : decode prog_43_method_3_code 0 = .ok (.new 8, 3) := by decide +kernel
theorem d5_3 : decode prog_43_method_3_code 3 = .ok (.dup, 1) := by decide +kernel
theorem d5_4 : decode prog_43_method_3_code 4 = .ok (.aconst_null, 1) := by decide +kernel
theorem d5_5 : decode prog_43_method_3_code 5 = .ok (.aload_n 0, 1) := by decide +kernel
theorem d5_6 : decode prog_43_method_3_code 6 = .ok (.ldc 29, 2) := by decide +kernel
theorem d5_8 : decode prog_43_method_3_code 8 = .ok (.invokestatic 18, 3) := by decide +kernel
theorem d5_11 : decode prog_43_method_3_code 11 = .ok (.checkcast 30, 3) := by decide +kernel
theorem d5_14 : decode prog_43_method_3_code 14 = .ok (.invokespecial 26, 3) := by decide +kernel
theorem pd__Lcom_example_claim_claim_model_CredentialPrincipal_Lcom_example_claim_claim_model_CredentialRefusal__V : parseMethodDescriptor "(Lcom/example/claim/claim/model/CredentialPrincipal;Lcom/example/claim/claim/model/CredentialRefusal;)V" = some ⟨[(.object "com/example/claim/claim/model/CredentialPrincipal"), (.object "com/example/claim/claim/model/CredentialRefusal")], none⟩ := by decide +kernel
theorem d5_17 : decode prog_43_method_3_code 17 = .ok (.areturn, 1) := by decide +kernel
set_option maxRecDepth 65536 in
set_option maxHeartbeats 40000000 in
theorem rmRF (l : Launch) (Z : State) (a0 : Array Value) (hw : ∀ d ∈ tables_1, d.before a0 Z = true) (ws : List Jvm.Cond) (t : Addr) (h0 : Heap) (O0 : Ext Z.heap h0) (Et : Exa Z h0 t "com/example/claim/claim/model/CredentialRefusal") :
    MetFree l (⟨"com/example/claim/claim/model/CredentialResult", "refused", "(Lcom/example/claim/claim/model/CredentialRefusal;)Lcom/example/claim/claim/model/CredentialResult;"⟩ : MethodName) (head1 (Jvm.Cond.code (⟨"com/example/claim/claim/model/CredentialResult", "refused", "(Lcom/example/claim/claim/model/CredentialRefusal;)Lcom/example/claim/claim/model/CredentialResult;"⟩ : MethodName) prog_43_method_3_code 1 (some (.object "com/example/claim/claim/model/CredentialResult")) :: ws) ({ frames := 2, cells := 3, slots := 34, locals := 40 } : Room)) (fun av' U => av' = #[(.ref t)] ∧ Z.Warmed39 U.vm ∧ U.heap = h0) (fun _ _ _ _ _ => True) (fun _ U o U' => ∃ v L, o = .returned v ∧ Q_rmRF Z t h0 v U'.heap L ∧ ReturnedEndW U o U' L ({ frames := 2, cells := 3, slots := 34, locals := 40 } : Room).cells ({ frames := 2, cells := 3, slots := 34, locals := 40 } : Room).slots) := by
  refine MetFree.of_bodySF (plainFor_of_name pn_com_example_claim_claim_model_CredentialResult) hisR ?_
  intro p e s m args below meth c s₁ Bd hml0 hP hK
  obtain ⟨rfl, hZ, hh⟩ := hP
  have hx := Bd.exec
  have hby := Bd.bytes
  have hret := Bd.returns
  have hlk : meth.locks = false := Bd.notSynchronized
  have hml : c.maxLocals = 1 := hml0
  have hown : s.vm.findClass "com/example/claim/claim/model/CredentialResult" = some m.cls := findClass_of_methodNamed Bd.named
  have hnm := (name_of_methodNamed Bd.named Bd.method).1
  have X0 : Stand p l e ({ frames := 2, cells := 3, slots := 34, locals := 40 } : Room) (s.setVm s.vm) m #[(.ref t)] below meth c s₁ [] 0 0 := Stand.of_body Bd
  have hS0 : s.Since s.vm s.heap.size := (State.WarmedH.refl s).since _
  have hk0 : s.heap.size ≤ h0.size := Nat.le_of_eq (by rw [hh])
  -- the walk
  have e0 : s₁.heap = h0 := by rw [← hh, Bd.state]; rfl
  have N0 := Fr.nil Z.heap.size
  have K0 := Keep.refl h0 []
  show Go p e below (GOW s (Q_rmRF Z t h0) ({ frames := 2, cells := 3, slots := 34, locals := 40 } : Room).cells ({ frames := 2, cells := 3, slots := 34, locals := 40 } : Room).slots) (s₁.setTop (entryFrame m #[(.ref t)] 1))
  refine Go.st (fun t' k' => castTop (ef_rmRF m t) k') ?_
  show Go p e below _ (s₁.setTop (mkF m 0 #[.val (.ref t)] []))
  obtain ⟨T1, h1, X1, e1, E1, A1, D1, -, st1⟩ := newO X0 hx hZ hown (hw _ (List.mem_of_getElem? (i := 36) rfl)) (hw _ (List.mem_of_getElem? (i := 37) rfl)) (hw _ (List.mem_of_getElem? (i := 34) rfl)) e0 (g := (mkF m 0 #[.val (.ref t)] [])) rfl (hb hby d5_0) (by decide) (by decide)
  obtain ⟨b1, g1⟩ : ∃ z, z = h0.size := ⟨_, rfl⟩
  rw [← g1] at A1 D1 st1
  refine Go.st st1 ?_
  have ne_t_b1 : t ≠ b1 := Nat.ne_of_lt (Nat.lt_of_lt_of_le Et.lt (Nat.le_of_eq g1.symm))
  have g_b1 : Z.heap.size ≤ b1 := Nat.le_trans O0.1 (Nat.le_of_eq g1.symm)
  have sz_b1 : h0.size ≤ b1 := Nat.le_trans K0.1 (Nat.le_of_eq g1.symm)
  have hk1 := Nat.le_trans hk0 E1.1
  have Et_h2 := Et.ext E1
  have O1 := own_ext_trans O0 E1
  have K1 := K0.ext E1
  have F_principal_b1 : Fld Z h1 b1 "com/example/claim/claim/model/CredentialResult" "principal" "Lcom/example/claim/claim/model/CredentialPrincipal;" .null := D1 (Or.inr (hw _ (List.mem_of_getElem? (i := 47) rfl))) (ty := (.object "com/example/claim/claim/model/CredentialPrincipal")) (by decide)
  have F_refusal_b1 : Fld Z h1 b1 "com/example/claim/claim/model/CredentialResult" "refusal" "Lcom/example/claim/claim/model/CredentialRefusal;" .null := D1 (Or.inr (hw _ (List.mem_of_getElem? (i := 49) rfl))) (ty := (.object "com/example/claim/claim/model/CredentialRefusal")) (by decide)
  show Go p e below _ (T1.setTop (mkF m 3 #[.val (.ref t)] [(.ref b1)]))
  refine Go.st (fun t' k' => XS.dup X1.here hx rfl (hb hby d5_3) rfl rfl k') ?_
  show Go p e below _ (T1.setTop (mkF m 4 #[.val (.ref t)] [(.ref b1), (.ref b1)]))
  refine Go.st (fun t' k' => XS.aconstNull X1.here hx rfl (hb hby d5_4) k') ?_
  show Go p e below _ (T1.setTop (mkF m 5 #[.val (.ref t)] [.null, (.ref b1), (.ref b1)]))
  refine Go.st (fun t' k' => XS.aloadN X1.here hx rfl (hb hby d5_5) rfl rfl k') ?_
  show Go p e below _ (T1.setTop (mkF m 6 #[.val (.ref t)] [(.ref t), .null, (.ref b1), (.ref b1)]))
  obtain ⟨a3, T3, h3, k3z, X3, e3, E3, hS3, hk3, hZ3, hown3, st3⟩ := ldcS X1 hx hZ hown (hw _ (List.mem_of_getElem? (i := 38) rfl)) (own_wS hw) e1 hS0 hk1 (g := (mkF m 6 #[.val (.ref t)] [(.ref t), .null, (.ref b1), (.ref b1)])) rfl (hb hby d5_6) (n := 28) (by decide) (by decide) (by decide) (by decide)
  refine Go.st st3 ?_
  have Et_h4 := Et_h2.ext E3
  have A1_h4 := A1.ext E3
  have F_principal_b1_h4 := F_principal_b1.ext E3
  have F_refusal_b1_h4 := F_refusal_b1.ext E3
  have O3 := own_ext_trans O1 E3
  have K3 := K1.ext E3
  show Go p e below _ (T3.setTop (mkF m 8 #[.val (.ref t)] [(.ref a3), (.ref t), .null, (.ref b1), (.ref b1)]))
  obtain ⟨_, _, ⟨T5, L5, k5, n5⟩, -, X5, ⟨Lc5, hQ5, l5, y5, z5⟩, st5⟩ := Jvm.LawKit.callS X3 hx (y := (⟨"java/util/Objects", "requireNonNull", "(Ljava/lang/Object;Ljava/lang/String;)Ljava/lang/Object;"⟩ : MethodName)) hown3 (mvT hZ3 (hw _ (List.mem_of_getElem? (i := 39) rfl))) (mvT hZ3 (hw _ (List.mem_of_getElem? (i := 27) rfl))) (mvT hZ3 (hw _ (List.mem_of_getElem? (i := 28) rfl))) (mvT hZ3 (hw _ (List.mem_of_getElem? (i := 29) rfl))) (by decide) (backOf (W := 3) (rmNN2 l Z a0 hw [] t a3 h3 O3 ) hZ3 (hw _ (List.mem_of_getElem? (i := 29) rfl)) (hw _ (List.mem_of_getElem? (i := 28) rfl)) (by decide) (by decide)) (g := (mkF m 8 #[.val (.ref t)] [(.ref a3), (.ref t), .null, (.ref b1), (.ref b1)])) rfl (by rw [hml]; rfl) (argsL := [(.ref t), (.ref a3)]) (rest := [.null, (.ref b1), (.ref b1)]) (lenOf pd__Ljava_lang_Object_Ljava_lang_String__Ljava_lang_Object_ rfl) rfl (by show 2 * 0 + _ ≤ _; exact Nat.le_of_eq rfl) (hb hby d5_8) (fun _ _ => ⟨rfl, e3, (by decide : 3 + 0 ≤ _), (by decide : 34 + 0 ≤ _)⟩)
  dsimp only [Pt.U, Pt.locs, Pt.cells, Pt.slots] at X5 l5 y5 z5 st5 hQ5
  subst l5 y5 z5
  obtain ⟨rfl, rfl, e5⟩ := hQ5
  have N5 := Fr.app N0 (Fr.nil _)
  refine Go.st st5 ?_
  show Go p e below _ (T5.setTop (mkF m 11 #[.val (.ref t)] [(.ref t), .null, (.ref b1), (.ref b1)]))
  obtain ⟨T6, X6, e6, st6⟩ := castY X5 hx hZ3 hown3 (hw _ (List.mem_of_getElem? (i := 40) rfl)) e5 (Ins.self Et_h4) (g := (mkF m 11 #[.val (.ref t)] [(.ref t), .null, (.ref b1), (.ref b1)])) rfl rfl (hb hby d5_11)
  refine Go.st st6 ?_
  show Go p e below _ (T6.setTop (mkF m 14 #[.val (.ref t)] [(.ref t), .null, (.ref b1), (.ref b1)]))
  obtain ⟨_, _, ⟨T7, L7, k7, n7⟩, -, X7, ⟨Lc7, hQ7, l7, y7, z7⟩, st7⟩ := X6.specialBack hx (y := (⟨"com/example/claim/claim/model/CredentialResult", "<init>", "(Lcom/example/claim/claim/model/CredentialPrincipal;Lcom/example/claim/claim/model/CredentialRefusal;)V"⟩ : MethodName)) rfl hown3 (mvT hZ3 (hw _ (List.mem_of_getElem? (i := 42) rfl))) (mvT hZ3 (hw _ (List.mem_of_getElem? (i := 43) rfl))) (mvT hZ3 (hw _ (List.mem_of_getElem? (i := 44) rfl))) (by decide) (backOf (W := 1) (rmRI l Z a0 hw [] b1 t h3 O3 A1_h4 g_b1 F_principal_b1_h4 F_refusal_b1_h4) hZ3 (hw _ (List.mem_of_getElem? (i := 44) rfl)) (hw _ (List.mem_of_getElem? (i := 34) rfl)) (by decide) (by decide)) (g := (mkF m 14 #[.val (.ref t)] [(.ref t), .null, (.ref b1), (.ref b1)])) rfl (by rw [hml]; rfl) (Steps.refl _) (a := b1) (argsL := [.null, (.ref t)]) (rest := [(.ref b1)]) (lenOf pd__Lcom_example_claim_claim_model_CredentialPrincipal_Lcom_example_claim_claim_model_CredentialRefusal__V rfl) rfl (by show 2 * 0 + _ ≤ _; exact Nat.le_of_eq rfl) (hb hby d5_14) (fun _ _ => ⟨rfl, e6, (by decide : 3 + 0 ≤ _), (by decide : 34 + 0 ≤ _)⟩)
  dsimp only [Pt.U, Pt.locs, Pt.cells, Pt.slots] at X7 l7 y7 z7 st7 hQ7
  subst l7 y7 z7
  obtain ⟨rfl, N7q, O7, Kc7, Pp_7, Pq_7⟩ := hQ7
  have N7 := Fr.app N5 N7q
  refine Go.tr st7 ?_
  have hk7 := Nat.le_trans hk3 Kc7.1
  have Et_h8 := Et_h4.keep Kc7
  have A1_h8 := A1_h4.keep Kc7
  have K7 := K3.trans Kc7 (allS (Or.inr sz_b1) all0)
  show Go p e below _ (T7.setTop (mkF m 17 #[.val (.ref t)] [(.ref b1)]))
  exact Go.outW X7 hS3 hk7 (v := (some (.ref b1))) (fun h => by rw [hret] at h; cases h) hlk (fun fs hr => retOut X7 hx hret (own_narrow_ref _ rfl) (Or.inr (Or.inr (Or.inr (Or.inr ⟨rfl, rfl, rfl⟩)))) (hb hby d5_17) hr) (Q := Q_rmRF Z t h0) (⟨b1, rfl, N7, O7, K7, A1_h8, Pp_7, Pq_7, g_b1, sz_b1⟩) (by decide) (by decide)
theorem ef_rmIA (m : MethodId) (x0 : Addr) : entryFrame m #[(.ref x0)] 1 = mkF m 0 #[.val (.ref x0)] [] := by first | (simp [entryFrame, mkF, argsToLocals, Value.category]; done) | rfl
def Q_rmIA (Z : State) (a : Addr) (h0 : Heap) (v : Option Value) (h : Heap) (L : List Loc) : Prop := v = some (.int (0 : Int32)) ∧ L = [] ∧ h = h0
theorem d7_0 : decode prog_43_method_4_code 0 = .ok (.aload_n 0, 1) := by decide +kernel
theorem d7_1 : decode prog_43_method_4_code 1 = .ok (.getfield 7, 3) := by decide +kernel
theorem d7_4 : decode prog_43_method_4_code 4 = .ok (.ifnull 7, 3) := by decide +kernel
theorem d7_11 : decode prog_43_method_4_code 11 = .ok (.iconst 0, 1) := by decide +kernel
theorem d7_12 : decode prog_43_method_4_code 12 = .ok (.ireturn, 1) := by decide +kernel
set_option maxRecDepth 65536 in
set_option maxHeartbeats 40000000 in
theorem rmIA (l : Launch) (Z : State) (a0 : Array Value) (hw : ∀ d ∈ tables_1, d.before a0 Z = true) (ws : List Jvm.Cond) (a : Addr) (h0 : Heap) (O0 : Ext Z.heap h0) (Fp : Fld Z h0 a "com/example/claim/claim/model/CredentialResult" "principal" "Lcom/example/claim/claim/model/CredentialPrincipal;" .null) :
    MetFree l (⟨"com/example/claim/claim/model/CredentialResult", "isAccepted", "()Z"⟩ : MethodName) (head1 (Jvm.Cond.code (⟨"com/example/claim/claim/model/CredentialResult", "isAccepted", "()Z"⟩ : MethodName) prog_43_method_4_code 1 (some .boolean) :: ws) ({ frames := 0, cells := 0, slots := 0, locals := 0 } : Room)) (fun av' U => av' = #[(.ref a)] ∧ Z.Warmed39 U.vm ∧ U.heap = h0) (fun _ _ _ _ _ => True) (fun _ U o U' => ∃ v L, o = .returned v ∧ Q_rmIA Z a h0 v U'.heap L ∧ FrameEnd U o U' L ({ frames := 0, cells := 0, slots := 0, locals := 0 } : Room).cells ({ frames := 0, cells := 0, slots := 0, locals := 0 } : Room).slots) := by
  refine MetFree.of_bodySF (plainFor_of_name pn_com_example_claim_claim_model_CredentialResult) hisR ?_
  intro p e s m args below meth c s₁ Bd hml0 hP hK
  obtain ⟨rfl, hZ, hh⟩ := hP
  have hx := Bd.exec
  have hby := Bd.bytes
  have hret := Bd.returns
  have hlk : meth.locks = false := Bd.notSynchronized
  have hml : c.maxLocals = 1 := hml0
  have hown : s.vm.findClass "com/example/claim/claim/model/CredentialResult" = some m.cls := findClass_of_methodNamed Bd.named
  have hnm := (name_of_methodNamed Bd.named Bd.method).1
  have X0 : Stand p l e ({ frames := 0, cells := 0, slots := 0, locals := 0 } : Room) s m #[(.ref a)] below meth c s₁ [] 0 0 := Stand.of_body Bd
  -- the walk
  have e0 : s₁.heap = h0 := by rw [← hh, Bd.state]; rfl
  have N0 := Fr.nil Z.heap.size
  show Go p e below (GO s (Q_rmIA Z a h0) ({ frames := 0, cells := 0, slots := 0, locals := 0 } : Room).cells ({ frames := 0, cells := 0, slots := 0, locals := 0 } : Room).slots) (s₁.setTop (entryFrame m #[(.ref a)] 1))
  refine Go.st (fun t' k' => castTop (ef_rmIA m a) k') ?_
  show Go p e below _ (s₁.setTop (mkF m 0 #[.val (.ref a)] []))
  refine Go.st (fun t' k' => XS.aloadN X0.here hx rfl (hb hby d7_0) rfl rfl k') ?_
  show Go p e below _ (s₁.setTop (mkF m 1 #[.val (.ref a)] [(.ref a)]))
  obtain ⟨T1, X1, e1, st1⟩ := getF X0 hx hZ hown (host := "") (Or.inl (hw _ (List.mem_of_getElem? (i := 46) rfl))) Via.refl e0 Fp (g := (mkF m 1 #[.val (.ref a)] [(.ref a)])) rfl rfl (hb hby d7_1)
  refine Go.st st1 ?_
  show Go p e below _ (T1.setTop (mkF m 4 #[.val (.ref a)] [.null]))
  refine Go.st (fun t' k' => XS.ifnullYes X1.here hx rfl (pc0 := 4) (pc' := 11) rfl (hb hby d7_4) rfl (by decide) (by decide) k') ?_
  show Go p e below _ (T1.setTop (mkF m 11 #[.val (.ref a)] []))
  refine Go.st (fun t' k' => XS.iconst X1.here hx rfl (hb hby d7_11) k') ?_
  show Go p e below _ (T1.setTop (mkF m 12 #[.val (.ref a)] [(.int (0 : Int32))]))
  exact Go.outN X1 hx hlk (t := .boolean) hret (by simp) (hb hby d7_12) (Q := Q_rmIA Z a h0) (by rw [e1]; exact ⟨rfl, rfl, rfl⟩) (by decide) (by decide)
theorem ef_rmPr (m : MethodId) (x0 : Addr) : entryFrame m #[(.ref x0)] 1 = mkF m 0 #[.val (.ref x0)] [] := by first | (simp [entryFrame, mkF, argsToLocals, Value.category]; done) | rfl
def Q_rmPr (Z : State) (a : Addr) (w_EMPTY : Addr) (h0 : Heap) (v : Option Value) (h : Heap) (L : List Loc) : Prop := v = some (.ref w_EMPTY) ∧ L = [] ∧ h = h0
theorem d8_0 : decode prog_43_method_5_code 0 = .ok (.aload_n 0, 1) := by decide +kernel
theorem d8_1 : decode prog_43_method_5_code 1 = .ok (.getfield 7, 3) := by decide +kernel
theorem d8_4 : decode prog_43_method_5_code 4 = .ok (.invokestatic 32, 3) := by decide +kernel
theorem pd__Ljava_lang_Object__Ljava_util_Optional_ : parseMethodDescriptor "(Ljava/lang/Object;)Ljava/util/Optional;" = some ⟨[(.object "java/lang/Object")], some (.object "java/util/Optional")⟩ := by decide +kernel
theorem d8_7 : decode prog_43_method_5_code 7 = .ok (.areturn, 1) := by decide +kernel
set_option maxRecDepth 65536 in
set_option maxHeartbeats 40000000 in
theorem rmPr (l : Launch) (Z : State) (a0 : Array Value) (hw : ∀ d ∈ tables_1, d.before a0 Z = true) (ws : List Jvm.Cond) (a : Addr) (w_EMPTY : Addr) (h0 : Heap) (O0 : Ext Z.heap h0) (S_EMPTY : Sta Z Z.heap "java/util/Optional" "EMPTY" "Ljava/util/Optional;" (.ref w_EMPTY)) (Fp : Fld Z h0 a "com/example/claim/claim/model/CredentialResult" "principal" "Lcom/example/claim/claim/model/CredentialPrincipal;" .null) :
    MetFree l (⟨"com/example/claim/claim/model/CredentialResult", "principal", "()Ljava/util/Optional;"⟩ : MethodName) (head1 (Jvm.Cond.code (⟨"com/example/claim/claim/model/CredentialResult", "principal", "()Ljava/util/Optional;"⟩ : MethodName) prog_43_method_5_code 1 (some (.object "java/util/Optional")) :: ws) ({ frames := 1, cells := 0, slots := 0, locals := 12 } : Room)) (fun av' U => av' = #[(.ref a)] ∧ Z.Warmed39 U.vm ∧ U.heap = h0) (fun _ _ _ _ _ => True) (fun _ U o U' => ∃ v L, o = .returned v ∧ Q_rmPr Z a w_EMPTY h0 v U'.heap L ∧ FrameEnd U o U' L ({ frames := 1, cells := 0, slots := 0, locals := 12 } : Room).cells ({ frames := 1, cells := 0, slots := 0, locals := 12 } : Room).slots) := by
  refine MetFree.of_bodySF (plainFor_of_name pn_com_example_claim_claim_model_CredentialResult) hisR ?_
  intro p e s m args below meth c s₁ Bd hml0 hP hK
  obtain ⟨rfl, hZ, hh⟩ := hP
  have hx := Bd.exec
  have hby := Bd.bytes
  have hret := Bd.returns
  have hlk : meth.locks = false := Bd.notSynchronized
  have hml : c.maxLocals = 1 := hml0
  have hown : s.vm.findClass "com/example/claim/claim/model/CredentialResult" = some m.cls := findClass_of_methodNamed Bd.named
  have hnm := (name_of_methodNamed Bd.named Bd.method).1
  have X0 : Stand p l e ({ frames := 1, cells := 0, slots := 0, locals := 12 } : Room) s m #[(.ref a)] below meth c s₁ [] 0 0 := Stand.of_body Bd
  -- the walk
  have e0 : s₁.heap = h0 := by rw [← hh, Bd.state]; rfl
  have N0 := Fr.nil Z.heap.size
  show Go p e below (GO s (Q_rmPr Z a w_EMPTY h0) ({ frames := 1, cells := 0, slots := 0, locals := 12 } : Room).cells ({ frames := 1, cells := 0, slots := 0, locals := 12 } : Room).slots) (s₁.setTop (entryFrame m #[(.ref a)] 1))
  refine Go.st (fun t' k' => castTop (ef_rmPr m a) k') ?_
  show Go p e below _ (s₁.setTop (mkF m 0 #[.val (.ref a)] []))
  refine Go.st (fun t' k' => XS.aloadN X0.here hx rfl (hb hby d8_0) rfl rfl k') ?_
  show Go p e below _ (s₁.setTop (mkF m 1 #[.val (.ref a)] [(.ref a)]))
  obtain ⟨T1, X1, e1, st1⟩ := getF X0 hx hZ hown (host := "") (Or.inl (hw _ (List.mem_of_getElem? (i := 46) rfl))) Via.refl e0 Fp (g := (mkF m 1 #[.val (.ref a)] [(.ref a)])) rfl rfl (hb hby d8_1)
  refine Go.st st1 ?_
  show Go p e below _ (T1.setTop (mkF m 4 #[.val (.ref a)] [.null]))
  obtain ⟨_, _, ⟨T2, L2, k2, n2⟩, -, X2, ⟨Lc2, hQ2, l2, y2, z2⟩, st2⟩ := Jvm.LawKit.callS X1 hx (y := (⟨"java/util/Optional", "ofNullable", "(Ljava/lang/Object;)Ljava/util/Optional;"⟩ : MethodName)) hown (mvT hZ (hw _ (List.mem_of_getElem? (i := 60) rfl))) (mvT hZ (hw _ (List.mem_of_getElem? (i := 61) rfl))) (mvT hZ (hw _ (List.mem_of_getElem? (i := 62) rfl))) (mvT hZ (hw _ (List.mem_of_getElem? (i := 63) rfl))) (by decide) (backOf (W := 0) (rmOf0 l Z a0 hw [] w_EMPTY h0 O0 S_EMPTY) hZ (hw _ (List.mem_of_getElem? (i := 63) rfl)) (hw _ (List.mem_of_getElem? (i := 62) rfl)) (by decide) (by decide)) (g := (mkF m 4 #[.val (.ref a)] [.null])) rfl (by rw [hml]; rfl) (argsL := [.null]) (rest := []) (lenOf pd__Ljava_lang_Object__Ljava_util_Optional_ rfl) rfl (by show 2 * 0 + _ ≤ _; exact Nat.le_of_eq rfl) (hb hby d8_4) (fun _ _ => ⟨rfl, e1, (by decide : 0 + 0 ≤ _), (by decide : 0 + 0 ≤ _)⟩)
  dsimp only [Pt.U, Pt.locs, Pt.cells, Pt.slots] at X2 l2 y2 z2 st2 hQ2
  subst l2 y2 z2
  obtain ⟨rfl, rfl, e2⟩ := hQ2
  have N2 := Fr.app N0 (Fr.nil _)
  refine Go.st st2 ?_
  show Go p e below _ (T2.setTop (mkF m 7 #[.val (.ref a)] [(.ref w_EMPTY)]))
  exact Go.outR X2 hx hlk hret rfl rfl (hb hby d8_7) (Q := Q_rmPr Z a w_EMPTY h0) (by rw [e2]; exact ⟨rfl, rfl, rfl⟩) (by decide) (by decide)
theorem ef_rmRq (m : MethodId) (x0 : Addr) : entryFrame m #[(.ref x0)] 1 = mkF m 0 #[.val (.ref x0)] [] := by first | (simp [entryFrame, mkF, argsToLocals, Value.category]; done) | rfl
def Q_rmRq (Z : State) (a : Addr) (t : Addr) (h0 : Heap) (v : Option Value) (h : Heap) (L : List Loc) : Prop := ∃ b : Addr, v = some (.ref b) ∧ Fr Z.heap.size L ∧ Ext Z.heap h ∧ Keep h0 h [] ∧ Exa Z h b "java/util/Optional" ∧ Fld Z h b "java/util/Optional" "value" "Ljava/lang/Object;" (.ref t) ∧ Z.heap.size ≤ b ∧ h0.size ≤ b
theorem d11_0 : decode prog_43_method_6_code 0 = .ok (.aload_n 0, 1) := by decide +kernel
theorem d11_1 : decode prog_43_method_6_code 1 = .ok (.getfield 13, 3) := by decide +kernel
theorem d11_4 : decode prog_43_method_6_code 4 = .ok (.invokestatic 32, 3) := by decide +kernel
theorem d11_7 : decode prog_43_method_6_code 7 = .ok (.areturn, 1) := by decide +kernel
set_option maxRecDepth 65536 in
set_option maxHeartbeats 40000000 in
theorem rmRq (l : Launch) (Z : State) (a0 : Array Value) (hw : ∀ d ∈ tables_1, d.before a0 Z = true) (ws : List Jvm.Cond) (a : Addr) (t : Addr) (h0 : Heap) (O0 : Ext Z.heap h0) (Fq : Fld Z h0 a "com/example/claim/claim/model/CredentialResult" "refusal" "Lcom/example/claim/claim/model/CredentialRefusal;" (.ref t)) :
    MetFree l (⟨"com/example/claim/claim/model/CredentialResult", "refusal", "()Ljava/util/Optional;"⟩ : MethodName) (head1 (Jvm.Cond.code (⟨"com/example/claim/claim/model/CredentialResult", "refusal", "()Ljava/util/Optional;"⟩ : MethodName) prog_43_method_6_code 1 (some (.object "java/util/Optional")) :: ws) ({ frames := 3, cells := 1, slots := 1, locals := 40 } : Room)) (fun av' U => av' = #[(.ref a)] ∧ Z.Warmed39 U.vm ∧ U.heap = h0) (fun _ _ _ _ _ => True) (fun _ U o U' => ∃ v L, o = .returned v ∧ Q_rmRq Z a t h0 v U'.heap L ∧ FrameEnd U o U' L ({ frames := 3, cells := 1, slots := 1, locals := 40 } : Room).cells ({ frames := 3, cells := 1, slots := 1, locals := 40 } : Room).slots) := by
  refine MetFree.of_bodySF (plainFor_of_name pn_com_example_claim_claim_model_CredentialResult) hisR ?_
  intro p e s m args below meth c s₁ Bd hml0 hP hK
  obtain ⟨rfl, hZ, hh⟩ := hP
  have hx := Bd.exec
  have hby := Bd.bytes
  have hret := Bd.returns
  have hlk : meth.locks = false := Bd.notSynchronized
  have hml : c.maxLocals = 1 := hml0
  have hown : s.vm.findClass "com/example/claim/claim/model/CredentialResult" = some m.cls := findClass_of_methodNamed Bd.named
  have hnm := (name_of_methodNamed Bd.named Bd.method).1
  have X0 : Stand p l e ({ frames := 3, cells := 1, slots := 1, locals := 40 } : Room) s m #[(.ref a)] below meth c s₁ [] 0 0 := Stand.of_body Bd
  -- the walk
  have e0 : s₁.heap = h0 := by rw [← hh, Bd.state]; rfl
  have N0 := Fr.nil Z.heap.size
  have K0 := Keep.refl h0 []
  show Go p e below (GO s (Q_rmRq Z a t h0) ({ frames := 3, cells := 1, slots := 1, locals := 40 } : Room).cells ({ frames := 3, cells := 1, slots := 1, locals := 40 } : Room).slots) (s₁.setTop (entryFrame m #[(.ref a)] 1))
  refine Go.st (fun t' k' => castTop (ef_rmRq m a) k') ?_
  show Go p e below _ (s₁.setTop (mkF m 0 #[.val (.ref a)] []))
  refine Go.st (fun t' k' => XS.aloadN X0.here hx rfl (hb hby d11_0) rfl rfl k') ?_
  show Go p e below _ (s₁.setTop (mkF m 1 #[.val (.ref a)] [(.ref a)]))
  obtain ⟨T1, X1, e1, st1⟩ := getF X0 hx hZ hown (host := "") (Or.inl (hw _ (List.mem_of_getElem? (i := 48) rfl))) Via.refl e0 Fq (g := (mkF m 1 #[.val (.ref a)] [(.ref a)])) rfl rfl (hb hby d11_1)
  refine Go.st st1 ?_
  show Go p e below _ (T1.setTop (mkF m 4 #[.val (.ref a)] [(.ref t)]))
  obtain ⟨_, _, ⟨T2, L2, k2, n2⟩, -, X2, ⟨Lc2, hQ2, l2, y2, z2⟩, st2⟩ := Jvm.LawKit.callS X1 hx (y := (⟨"java/util/Optional", "ofNullable", "(Ljava/lang/Object;)Ljava/util/Optional;"⟩ : MethodName)) hown (mvT hZ (hw _ (List.mem_of_getElem? (i := 60) rfl))) (mvT hZ (hw _ (List.mem_of_getElem? (i := 61) rfl))) (mvT hZ (hw _ (List.mem_of_getElem? (i := 62) rfl))) (mvT hZ (hw _ (List.mem_of_getElem? (i := 63) rfl))) (by decide) (backOf (W := 0) (rmOf1 l Z a0 hw [] t h0 O0 ) hZ (hw _ (List.mem_of_getElem? (i := 63) rfl)) (hw _ (List.mem_of_getElem? (i := 62) rfl)) (by decide) (by decide)) (g := (mkF m 4 #[.val (.ref a)] [(.ref t)])) rfl (by rw [hml]; rfl) (argsL := [(.ref t)]) (rest := []) (lenOf pd__Ljava_lang_Object__Ljava_util_Optional_ rfl) rfl (by show 2 * 0 + _ ≤ _; exact Nat.le_of_eq rfl) (hb hby d11_4) (fun _ _ => ⟨rfl, e1, (by decide : 0 + 1 ≤ _), (by decide : 0 + 1 ≤ _)⟩)
  dsimp only [Pt.U, Pt.locs, Pt.cells, Pt.slots] at X2 l2 y2 z2 st2 hQ2
  subst l2 y2 z2
  obtain ⟨b_2, rfl, N2q, O2, Kc2, Eb_2, Pv_2, Gb_2, Sb_2⟩ := hQ2
  have N2 := Fr.app N0 N2q
  refine Go.st st2 ?_
  have Fq_h3 := Fq.keep Kc2 nin0
  have K2 := K0.trans Kc2 all0
  have ne_a_b_2 : a ≠ b_2 := Nat.ne_of_lt (Nat.lt_of_lt_of_le Fq.lt Sb_2)
  have sz_b_2 : h0.size ≤ b_2 := Nat.le_trans K0.1 Sb_2
  show Go p e below _ (T2.setTop (mkF m 7 #[.val (.ref a)] [(.ref b_2)]))
  exact Go.outR X2 hx hlk hret rfl rfl (hb hby d11_7) (Q := Q_rmRq Z a t h0) (⟨b_2, rfl, N2, O2, K2, Eb_2, Pv_2, Gb_2, sz_b_2⟩) (by decide) (by decide)
theorem ef_rmRs (m : MethodId) (x0 : Addr) : entryFrame m #[(.ref x0)] 1 = mkF m 0 #[.val (.ref x0)] [] := by first | (simp [entryFrame, mkF, argsToLocals, Value.category]; done) | rfl
def Q_rmRs (Z : State) (a : Addr) (t : Addr) (h0 : Heap) (v : Option Value) (h : Heap) (L : List Loc) : Prop := v = some (.ref t) ∧ L = [] ∧ h = h0
theorem d14_0 : decode prog_41_method_5_code 0 = .ok (.aload_n 0, 1) := by decide +kernel
theorem d14_1 : decode prog_41_method_5_code 1 = .ok (.getfield 15, 3) := by decide +kernel
theorem d14_4 : decode prog_41_method_5_code 4 = .ok (.areturn, 1) := by decide +kernel
set_option maxRecDepth 65536 in
set_option maxHeartbeats 40000000 in
theorem rmRs (l : Launch) (Z : State) (a0 : Array Value) (hw : ∀ d ∈ tables_1, d.before a0 Z = true) (ws : List Jvm.Cond) (a : Addr) (t : Addr) (h0 : Heap) (O0 : Ext Z.heap h0) (Frj : Fld Z h0 a "com/example/claim/claim/model/CredentialRefusal" "reason" "Lcom/example/claim/claim/model/CredentialRefusalReason;" (.ref t)) :
    MetFree l (⟨"com/example/claim/claim/model/CredentialRefusal", "reason", "()Lcom/example/claim/claim/model/CredentialRefusalReason;"⟩ : MethodName) (head1 (Jvm.Cond.code (⟨"com/example/claim/claim/model/CredentialRefusal", "reason", "()Lcom/example/claim/claim/model/CredentialRefusalReason;"⟩ : MethodName) prog_41_method_5_code 1 (some (.object "com/example/claim/claim/model/CredentialRefusalReason")) :: ws) ({ frames := 0, cells := 0, slots := 0, locals := 0 } : Room)) (fun av' U => av' = #[(.ref a)] ∧ Z.Warmed39 U.vm ∧ U.heap = h0) (fun _ _ _ _ _ => True) (fun _ U o U' => ∃ v L, o = .returned v ∧ Q_rmRs Z a t h0 v U'.heap L ∧ FrameEnd U o U' L ({ frames := 0, cells := 0, slots := 0, locals := 0 } : Room).cells ({ frames := 0, cells := 0, slots := 0, locals := 0 } : Room).slots) := by
  refine MetFree.of_bodySF (plainFor_of_name pn_com_example_claim_claim_model_CredentialRefusal) hisR ?_
  intro p e s m args below meth c s₁ Bd hml0 hP hK
  obtain ⟨rfl, hZ, hh⟩ := hP
  have hx := Bd.exec
  have hby := Bd.bytes
  have hret := Bd.returns
  have hlk : meth.locks = false := Bd.notSynchronized
  have hml : c.maxLocals = 1 := hml0
  have hown : s.vm.findClass "com/example/claim/claim/model/CredentialRefusal" = some m.cls := findClass_of_methodNamed Bd.named
  have hnm := (name_of_methodNamed Bd.named Bd.method).1
  have X0 : Stand p l e ({ frames := 0, cells := 0, slots := 0, locals := 0 } : Room) s m #[(.ref a)] below meth c s₁ [] 0 0 := Stand.of_body Bd
  -- the walk
  have e0 : s₁.heap = h0 := by rw [← hh, Bd.state]; rfl
  have N0 := Fr.nil Z.heap.size
  show Go p e below (GO s (Q_rmRs Z a t h0) ({ frames := 0, cells := 0, slots := 0, locals := 0 } : Room).cells ({ frames := 0, cells := 0, slots := 0, locals := 0 } : Room).slots) (s₁.setTop (entryFrame m #[(.ref a)] 1))
  refine Go.st (fun t' k' => castTop (ef_rmRs m a) k') ?_
  show Go p e below _ (s₁.setTop (mkF m 0 #[.val (.ref a)] []))
  refine Go.st (fun t' k' => XS.aloadN X0.here hx rfl (hb hby d14_0) rfl rfl k') ?_
  show Go p e below _ (s₁.setTop (mkF m 1 #[.val (.ref a)] [(.ref a)]))
  obtain ⟨T1, X1, e1, st1⟩ := getF X0 hx hZ hown (host := "") (Or.inl (hw _ (List.mem_of_getElem? (i := 30) rfl))) Via.refl e0 Frj (g := (mkF m 1 #[.val (.ref a)] [(.ref a)])) rfl rfl (hb hby d14_1)
  refine Go.st st1 ?_
  show Go p e below _ (T1.setTop (mkF m 4 #[.val (.ref a)] [(.ref t)]))
  exact Go.outR X1 hx hlk hret rfl rfl (hb hby d14_4) (Q := Q_rmRs Z a t h0) (by rw [e1]; exact ⟨rfl, rfl, rfl⟩) (by decide) (by decide)
theorem ef_rm0 (m : MethodId) (x0 : Int32) : entryFrame m #[(.int x0)] maxLocals = mkF m 0 #[.val (.int x0), .unset, .unset, .unset, .unset, .unset, .unset] [] := by first | (simp [entryFrame, mkF, argsToLocals, Value.category, maxLocals]; done) | rfl
def Q_rm0 (Z : State) (k : Int32) (w_UNAUTHENTICATED : Addr) (w_CREDENTIAL_REVOKED : Addr) (w_CREDENTIAL_EXPIRED : Addr) (w_EMPTY : Addr) (h0 : Heap) (v : Option Value) (h : Heap) (L : List Loc) : Prop := v = some (.int (1 : Int32)) ∧ Fr Z.heap.size L
theorem pn_com_example_claim_claim_model_CredentialResultRefusedPinLaw : plainName "com/example/claim/claim/model/CredentialResultRefusedPinLaw" = true := by first | (simp [plainName, overriddenIn]; done) | decide +kernel
theorem pd__Lcom_example_claim_claim_model_CredentialRefusalReason__V : parseMethodDescriptor "(Lcom/example/claim/claim/model/CredentialRefusalReason;)V" = some ⟨[(.object "com/example/claim/claim/model/CredentialRefusalReason")], none⟩ := by decide +kernel
theorem pd__Lcom_example_claim_claim_model_CredentialRefusal__Lcom_example_claim_claim_model_CredentialResult_ : parseMethodDescriptor "(Lcom/example/claim/claim/model/CredentialRefusal;)Lcom/example/claim/claim/model/CredentialResult;" = some ⟨[(.object "com/example/claim/claim/model/CredentialRefusal")], some (.object "com/example/claim/claim/model/CredentialResult")⟩ := by decide +kernel
theorem pd___Z : parseMethodDescriptor "()Z" = some ⟨[], some .boolean⟩ := by decide +kernel
theorem pd___Ljava_util_Optional_ : parseMethodDescriptor "()Ljava/util/Optional;" = some ⟨[], some (.object "java/util/Optional")⟩ := by decide +kernel
theorem pd___Ljava_lang_Object_ : parseMethodDescriptor "()Ljava/lang/Object;" = some ⟨[], some (.object "java/lang/Object")⟩ := by decide +kernel
theorem pd___Lcom_example_claim_claim_model_CredentialRefusalReason_ : parseMethodDescriptor "()Lcom/example/claim/claim/model/CredentialRefusalReason;" = some ⟨[], some (.object "com/example/claim/claim/model/CredentialRefusalReason")⟩ := by decide +kernel
set_option maxRecDepth 65536 in
set_option maxHeartbeats 40000000 in
theorem rm0 (l : Launch) (Z : State) (a0 : Array Value) (hw : ∀ d ∈ tables_1, d.before a0 Z = true) (ws : List Jvm.Cond) (k : Int32) (w_UNAUTHENTICATED : Addr) (w_CREDENTIAL_REVOKED : Addr) (w_CREDENTIAL_EXPIRED : Addr) (w_EMPTY : Addr) (h0 : Heap) (O0 : Ext Z.heap h0) (S_UNAUTHENTICATED : Sta Z Z.heap "com/example/claim/claim/model/CredentialRefusalReason" "UNAUTHENTICATED" "Lcom/example/claim/claim/model/CredentialRefusalReason;" (.ref w_UNAUTHENTICATED)) (S_CREDENTIAL_REVOKED : Sta Z Z.heap "com/example/claim/claim/model/CredentialRefusalReason" "CREDENTIAL_REVOKED" "Lcom/example/claim/claim/model/CredentialRefusalReason;" (.ref w_CREDENTIAL_REVOKED)) (S_CREDENTIAL_EXPIRED : Sta Z Z.heap "com/example/claim/claim/model/CredentialRefusalReason" "CREDENTIAL_EXPIRED" "Lcom/example/claim/claim/model/CredentialRefusalReason;" (.ref w_CREDENTIAL_EXPIRED)) (S_EMPTY : Sta Z Z.heap "java/util/Optional" "EMPTY" "Ljava/util/Optional;" (.ref w_EMPTY)) (E_EMPTY : Exa Z Z.heap w_EMPTY "java/util/Optional") (F_EMPTY_value : Fld Z Z.heap w_EMPTY "java/util/Optional" "value" "Ljava/lang/Object;" .null) :
    MetFree l x (head1 (Jvm.Cond.code x code maxLocals ret :: ws) room_1) (fun av' U => av' = #[(.int k)] ∧ Z.Warmed39 U.vm ∧ U.heap = h0) (fun _ _ _ _ _ => True) (fun _ U o U' => ∃ v L, o = .returned v ∧ Q_rm0 Z k w_UNAUTHENTICATED w_CREDENTIAL_REVOKED w_CREDENTIAL_EXPIRED w_EMPTY h0 v U'.heap L ∧ ReturnedEndW U o U' L room_1.cells room_1.slots) := by
  refine MetFree.of_bodySF (plainFor_of_name pn_com_example_claim_claim_model_CredentialResultRefusedPinLaw) hisR ?_
  intro p e s m args below meth c s₁ Bd hml0 hP hK
  obtain ⟨rfl, hZ, hh⟩ := hP
  have hx := Bd.exec
  have hby := Bd.bytes
  have hret := Bd.returns
  have hlk : meth.locks = false := Bd.notSynchronized
  have hml : c.maxLocals = 7 := hml0
  have hown : s.vm.findClass "com/example/claim/claim/model/CredentialResultRefusedPinLaw" = some m.cls := findClass_of_methodNamed Bd.named
  have hnm := (name_of_methodNamed Bd.named Bd.method).1
  have X0 : Stand p l e room_1 (s.setVm s.vm) m #[(.int k)] below meth c s₁ [] 0 0 := Stand.of_body Bd
  have hS0 : s.Since s.vm s.heap.size := (State.WarmedH.refl s).since _
  have hk0 : s.heap.size ≤ h0.size := Nat.le_of_eq (by rw [hh])
  -- the walk
  have e0 : s₁.heap = h0 := by rw [← hh, Bd.state]; rfl
  have N0 := Fr.nil Z.heap.size
  show Go p e below (GOW s (Q_rm0 Z k w_UNAUTHENTICATED w_CREDENTIAL_REVOKED w_CREDENTIAL_EXPIRED w_EMPTY h0) room_1.cells room_1.slots) (s₁.setTop (entryFrame m #[(.int k)] maxLocals))
  refine Go.st (fun t' k' => castTop (ef_rm0 m k) k') ?_
  show Go p e below _ (s₁.setTop (mkF m 0 #[.val (.int k), .unset, .unset, .unset, .unset, .unset, .unset] []))
  refine Go.st (fun t' k' => XS.iloadN X0.here hx rfl (hb hby at_0) rfl k') ?_
  show Go p e below _ (s₁.setTop (mkF m 1 #[.val (.int k), .unset, .unset, .unset, .unset, .unset, .unset] [(.int k)]))
  refine Go.st (X0.ldcInt hx hown (mvT hZ (hw _ (List.mem_of_getElem? (i := 0) rfl))) (g := (mkF m 1 #[.val (.int k), .unset, .unset, .unset, .unset, .unset, .unset] [(.int k)])) rfl (hb hby at_1)) ?_
  show Go p e below _ (s₁.setTop (mkF m 3 #[.val (.int k), .unset, .unset, .unset, .unset, .unset, .unset] [(.int (2147483647 : Int32)), (.int k)]))
  refine Go.st (fun t' k' => XS.iand X0.here hx rfl (hb hby at_3) rfl k') ?_
  show Go p e below _ (s₁.setTop (mkF m 4 #[.val (.int k), .unset, .unset, .unset, .unset, .unset, .unset] [(.int (k &&& (2147483647 : Int32)))]))
  refine Go.st (fun t' k' => XS.iconst X0.here hx rfl (hb hby at_4) k') ?_
  show Go p e below _ (s₁.setTop (mkF m 5 #[.val (.int k), .unset, .unset, .unset, .unset, .unset, .unset] [(.int (3 : Int32)), (.int (k &&& (2147483647 : Int32)))]))
  refine Go.st (fun t' k' => Jvm.RoadKit.iremM (g := (mkF m 5 #[.val (.int k), .unset, .unset, .unset, .unset, .unset, .unset] [(.int (3 : Int32)), (.int (k &&& (2147483647 : Int32)))])) X0 hx rfl (hb hby at_5) rfl (by decide) k') ?_
  show Go p e below _ (s₁.setTop (mkF m 6 #[.val (.int k), .unset, .unset, .unset, .unset, .unset, .unset] [(.int ((k &&& (2147483647 : Int32)) % (3 : Int32)))]))
  refine Go.st (fun t' k' => XS.istoreN X0.here hx rfl (hb hby at_6) rfl (l' := #[.val (.int k), .val (.int ((k &&& (2147483647 : Int32)) % (3 : Int32))), .unset, .unset, .unset, .unset, .unset]) rfl k') ?_
  show Go p e below _ (s₁.setTop (mkF m 7 #[.val (.int k), .val (.int ((k &&& (2147483647 : Int32)) % (3 : Int32))), .unset, .unset, .unset, .unset, .unset] []))
  refine Go.st (fun t' k' => XS.iloadN X0.here hx rfl (hb hby at_7) rfl k') ?_
  show Go p e below _ (s₁.setTop (mkF m 8 #[.val (.int k), .val (.int ((k &&& (2147483647 : Int32)) % (3 : Int32))), .unset, .unset, .unset, .unset, .unset] [(.int ((k &&& (2147483647 : Int32)) % (3 : Int32)))]))
  by_cases hc8_1 : ((k &&& (2147483647 : Int32)) % (3 : Int32)) = (0 : Int32)
  · refine Go.st (fun t' k' => XS.ifNo X0.here hx rfl (hb hby at_8) rfl ((if0 _ _).trans (teq hc8_1).2) k') ?_
    show Go p e below _ (s₁.setTop (mkF m 11 #[.val (.int k), .val (.int ((k &&& (2147483647 : Int32)) % (3 : Int32))), .unset, .unset, .unset, .unset, .unset] []))
    obtain ⟨T2, X2, e2, st2⟩ := getS2 X0 hx hZ hown (host := "") (Or.inl (hw _ (List.mem_of_getElem? (i := 1) rfl))) Via.refl e0 (S_UNAUTHENTICATED.ext O0) (g := (mkF m 11 #[.val (.int k), .val (.int ((k &&& (2147483647 : Int32)) % (3 : Int32))), .unset, .unset, .unset, .unset, .unset] [])) rfl (hb hby at_11)
    refine Go.st st2 ?_
    show Go p e below _ (T2.setTop (mkF m 14 #[.val (.int k), .val (.int ((k &&& (2147483647 : Int32)) % (3 : Int32))), .unset, .unset, .unset, .unset, .unset] [(.ref w_UNAUTHENTICATED)]))
    refine Go.st (fun t' k' => XS.astoreN X2.here hx rfl (hb hby at_14) rfl rfl (l' := #[.val (.int k), .val (.int ((k &&& (2147483647 : Int32)) % (3 : Int32))), .val (.ref w_UNAUTHENTICATED), .unset, .unset, .unset, .unset]) rfl k') ?_
    show Go p e below _ (T2.setTop (mkF m 15 #[.val (.int k), .val (.int ((k &&& (2147483647 : Int32)) % (3 : Int32))), .val (.ref w_UNAUTHENTICATED), .unset, .unset, .unset, .unset] []))
    refine Go.st (fun t' k' => XS.goto X2.here hx rfl (pc0 := 15) (pc' := 34) rfl (hb hby at_15) (by decide) (by decide) k') ?_
    show Go p e below _ (T2.setTop (mkF m 34 #[.val (.int k), .val (.int ((k &&& (2147483647 : Int32)) % (3 : Int32))), .val (.ref w_UNAUTHENTICATED), .unset, .unset, .unset, .unset] []))
    obtain ⟨T3, h3, X3, e3, E3, A3, D3, -, st3⟩ := newO X2 hx hZ hown (hw _ (List.mem_of_getElem? (i := 4) rfl)) (hw _ (List.mem_of_getElem? (i := 5) rfl)) (hw _ (List.mem_of_getElem? (i := 6) rfl)) e2 (g := (mkF m 34 #[.val (.int k), .val (.int ((k &&& (2147483647 : Int32)) % (3 : Int32))), .val (.ref w_UNAUTHENTICATED), .unset, .unset, .unset, .unset] [])) rfl (hb hby at_34) (by decide) (by decide)
    obtain ⟨b3, g3⟩ : ∃ z, z = h0.size := ⟨_, rfl⟩
    rw [← g3] at A3 D3 st3
    refine Go.st st3 ?_
    have ne_w_EMPTY_b3 : w_EMPTY ≠ b3 := Nat.ne_of_lt (Nat.lt_of_lt_of_le (E_EMPTY.ext O0).lt (Nat.le_of_eq g3.symm))
    have g_b3 : Z.heap.size ≤ b3 := Nat.le_trans O0.1 (Nat.le_of_eq g3.symm)
    have hk3 := Nat.le_trans hk0 E3.1
    have O3 := own_ext_trans O0 E3
    have F_reason_b3 : Fld Z h3 b3 "com/example/claim/claim/model/CredentialRefusal" "reason" "Lcom/example/claim/claim/model/CredentialRefusalReason;" .null := D3 (Or.inr (hw _ (List.mem_of_getElem? (i := 31) rfl))) (ty := (.object "com/example/claim/claim/model/CredentialRefusalReason")) (by decide)
    show Go p e below _ (T3.setTop (mkF m 37 #[.val (.int k), .val (.int ((k &&& (2147483647 : Int32)) % (3 : Int32))), .val (.ref w_UNAUTHENTICATED), .unset, .unset, .unset, .unset] [(.ref b3)]))
    refine Go.st (fun t' k' => XS.dup X3.here hx rfl (hb hby at_37) rfl rfl k') ?_
    show Go p e below _ (T3.setTop (mkF m 38 #[.val (.int k), .val (.int ((k &&& (2147483647 : Int32)) % (3 : Int32))), .val (.ref w_UNAUTHENTICATED), .unset, .unset, .unset, .unset] [(.ref b3), (.ref b3)]))
    refine Go.st (fun t' k' => XS.aloadN X3.here hx rfl (hb hby at_38) rfl rfl k') ?_
    show Go p e below _ (T3.setTop (mkF m 39 #[.val (.int k), .val (.int ((k &&& (2147483647 : Int32)) % (3 : Int32))), .val (.ref w_UNAUTHENTICATED), .unset, .unset, .unset, .unset] [(.ref w_UNAUTHENTICATED), (.ref b3), (.ref b3)]))
    obtain ⟨_, _, ⟨T5, L5, k5, n5⟩, -, X5, hs5, gr5, ⟨Lc5, hQ5, l5, y5, z5⟩, st5⟩ := X3.specialBackS hx (y := (⟨"com/example/claim/claim/model/CredentialRefusal", "<init>", "(Lcom/example/claim/claim/model/CredentialRefusalReason;)V"⟩ : MethodName)) rfl hown (mvT hZ (hw _ (List.mem_of_getElem? (i := 7) rfl))) (mvT hZ (hw _ (List.mem_of_getElem? (i := 8) rfl))) (mvT hZ (hw _ (List.mem_of_getElem? (i := 9) rfl))) (by decide) (backOfS (W := 1) (rmCR l Z a0 hw [] b3 w_UNAUTHENTICATED h3 O3 A3 g_b3 F_reason_b3) hZ (hw _ (List.mem_of_getElem? (i := 9) rfl)) (hw _ (List.mem_of_getElem? (i := 6) rfl)) (by decide) (by decide)) (g := (mkF m 39 #[.val (.int k), .val (.int ((k &&& (2147483647 : Int32)) % (3 : Int32))), .val (.ref w_UNAUTHENTICATED), .unset, .unset, .unset, .unset] [(.ref w_UNAUTHENTICATED), (.ref b3), (.ref b3)])) rfl (by rw [hml]; rfl) (Steps.refl _) (a := b3) (argsL := [(.ref w_UNAUTHENTICATED)]) (rest := [(.ref b3)]) (lenOf pd__Lcom_example_claim_claim_model_CredentialRefusalReason__V rfl) rfl (by show 2 * 0 + _ ≤ _; exact Nat.le_of_eq rfl) (hb hby at_39) (fun _ _ => ⟨rfl, e3, (by decide : 1 + 2 ≤ _), (by decide : 1 + 28 ≤ _)⟩)
    dsimp only [Pt.U, Pt.locs, Pt.cells, Pt.slots] at X5 l5 y5 z5 st5 hQ5 hs5 gr5
    subst l5 y5 z5
    obtain ⟨rfl, N5q, O5, Kc5, Pr_5⟩ := hQ5
    have N5 := Fr.app N0 N5q
    refine Go.tr st5 ?_
    obtain ⟨X5r, hS5, hZ5, hown5⟩ := rebS hS0 (by rw [e3]; exact hk3) X5 hs5 gr5 hZ hown
    have A3_h6 := A3.keep Kc5
    show Go p e below _ (T5.setTop (mkF m 42 #[.val (.int k), .val (.int ((k &&& (2147483647 : Int32)) % (3 : Int32))), .val (.ref w_UNAUTHENTICATED), .unset, .unset, .unset, .unset] [(.ref b3)]))
    refine Go.st (fun t' k' => XS.astoreN X5r.here hx rfl (hb hby at_42) rfl rfl (l' := #[.val (.int k), .val (.int ((k &&& (2147483647 : Int32)) % (3 : Int32))), .val (.ref w_UNAUTHENTICATED), .val (.ref b3), .unset, .unset, .unset]) rfl k') ?_
    show Go p e below _ (T5.setTop (mkF m 43 #[.val (.int k), .val (.int ((k &&& (2147483647 : Int32)) % (3 : Int32))), .val (.ref w_UNAUTHENTICATED), .val (.ref b3), .unset, .unset, .unset] []))
    refine Go.st (fun t' k' => XS.aloadN X5r.here hx rfl (hb hby at_43) rfl rfl k') ?_
    show Go p e below _ (T5.setTop (mkF m 44 #[.val (.int k), .val (.int ((k &&& (2147483647 : Int32)) % (3 : Int32))), .val (.ref w_UNAUTHENTICATED), .val (.ref b3), .unset, .unset, .unset] [(.ref b3)]))
    obtain ⟨_, _, ⟨T7, L7, k7, n7⟩, -, X7, hs7, gr7, ⟨Lc7, hQ7, l7, y7, z7⟩, st7⟩ := Jvm.RoadKit.callSS X5r hx (y := (⟨"com/example/claim/claim/model/CredentialResult", "refused", "(Lcom/example/claim/claim/model/CredentialRefusal;)Lcom/example/claim/claim/model/CredentialResult;"⟩ : MethodName)) hown5 (mvT hZ5 (hw _ (List.mem_of_getElem? (i := 32) rfl))) (mvT hZ5 (hw _ (List.mem_of_getElem? (i := 33) rfl))) (mvT hZ5 (hw _ (List.mem_of_getElem? (i := 34) rfl))) (mvT hZ5 (hw _ (List.mem_of_getElem? (i := 35) rfl))) (by decide) (backOfS (W := 0) (rmRF l Z a0 hw [] b3 T5.heap O5 A3_h6) hZ5 (hw _ (List.mem_of_getElem? (i := 35) rfl)) (hw _ (List.mem_of_getElem? (i := 34) rfl)) (by decide) (by decide)) (g := (mkF m 44 #[.val (.int k), .val (.int ((k &&& (2147483647 : Int32)) % (3 : Int32))), .val (.ref w_UNAUTHENTICATED), .val (.ref b3), .unset, .unset, .unset] [(.ref b3)])) rfl (by rw [hml]; rfl) (argsL := [(.ref b3)]) (rest := []) (lenOf pd__Lcom_example_claim_claim_model_CredentialRefusal__Lcom_example_claim_claim_model_CredentialResult_ rfl) rfl (by show 2 * 0 + _ ≤ _; exact Nat.le_of_eq rfl) (hb hby at_44) (fun _ _ => ⟨rfl, rfl, (by decide : 3 + 3 ≤ _), (by decide : 29 + 34 ≤ _)⟩)
    dsimp only [Pt.U, Pt.locs, Pt.cells, Pt.slots] at X7 l7 y7 z7 st7 hQ7 hs7 gr7
    subst l7 y7 z7
    obtain ⟨b_7, rfl, N7q, O7, Kc7, Eb_7, Pp_7, Pq_7, Gb_7, Sb_7⟩ := hQ7
    have N7 := Fr.app N5 N7q
    refine Go.tr st7 ?_
    obtain ⟨X7r, hS7, hZ7, hown7⟩ := rebS hS5 (Nat.le_refl _) X7 hs7 gr7 hZ5 hown5
    have A3_h8 := A3_h6.keep Kc7
    have Pr_5_h8 := Pr_5.keep Kc7 nin0
    have ne_w_EMPTY_b_7 : w_EMPTY ≠ b_7 := Nat.ne_of_lt (Nat.lt_of_lt_of_le (E_EMPTY.ext O5).lt Sb_7)
    have ne_b3_b_7 : b3 ≠ b_7 := Nat.ne_of_lt (Nat.lt_of_lt_of_le A3_h6.lt Sb_7)
    show Go p e below _ (T7.setTop (mkF m 47 #[.val (.int k), .val (.int ((k &&& (2147483647 : Int32)) % (3 : Int32))), .val (.ref w_UNAUTHENTICATED), .val (.ref b3), .unset, .unset, .unset] [(.ref b_7)]))
    refine Go.st (fun t' k' => XS.astore X7r.here hx rfl (hb hby at_47) rfl rfl (l' := #[.val (.int k), .val (.int ((k &&& (2147483647 : Int32)) % (3 : Int32))), .val (.ref w_UNAUTHENTICATED), .val (.ref b3), .val (.ref b_7), .unset, .unset]) rfl k') ?_
    show Go p e below _ (T7.setTop (mkF m 49 #[.val (.int k), .val (.int ((k &&& (2147483647 : Int32)) % (3 : Int32))), .val (.ref w_UNAUTHENTICATED), .val (.ref b3), .val (.ref b_7), .unset, .unset] []))
    refine Go.st (fun t' k' => XS.aload X7r.here hx rfl (hb hby at_49) rfl rfl k') ?_
    show Go p e below _ (T7.setTop (mkF m 51 #[.val (.int k), .val (.int ((k &&& (2147483647 : Int32)) % (3 : Int32))), .val (.ref w_UNAUTHENTICATED), .val (.ref b3), .val (.ref b_7), .unset, .unset] [(.ref b_7)]))
    refine Go.st (fun t' k' => XS.ifnonnullYes X7r.here hx rfl (pc0 := 51) (pc' := 56) rfl (hb hby at_51) rfl (by decide) (by decide) k') ?_
    show Go p e below _ (T7.setTop (mkF m 56 #[.val (.int k), .val (.int ((k &&& (2147483647 : Int32)) % (3 : Int32))), .val (.ref w_UNAUTHENTICATED), .val (.ref b3), .val (.ref b_7), .unset, .unset] []))
    refine Go.st (fun t' k' => XS.aload X7r.here hx rfl (hb hby at_56) rfl rfl k') ?_
    show Go p e below _ (T7.setTop (mkF m 58 #[.val (.int k), .val (.int ((k &&& (2147483647 : Int32)) % (3 : Int32))), .val (.ref w_UNAUTHENTICATED), .val (.ref b3), .val (.ref b_7), .unset, .unset] [(.ref b_7)]))
    obtain ⟨cq9, kq9, q9a, q9b, q9c⟩ := isOf hZ7 rfl Eb_7
    obtain ⟨_, _, ⟨T9, L9, k9, n9⟩, -, X9, ⟨Lc9, hQ9, l9, y9, z9⟩, st9⟩ := X7r.virtualBack hx (y := (⟨"com/example/claim/claim/model/CredentialResult", "isAccepted", "()Z"⟩ : MethodName)) (z := (⟨"com/example/claim/claim/model/CredentialResult", "isAccepted", "()Z"⟩ : MethodName)) hown7 (mvT hZ7 (hw _ (List.mem_of_getElem? (i := 50) rfl))) (mvT hZ7 (hw _ (List.mem_of_getElem? (i := 51) rfl))) (notFace_of_selects (args := #[]) (mvT hZ7 (hw _ (List.mem_of_getElem? (i := 53) rfl)))) (mvT hZ7 (hw _ (List.mem_of_getElem? (i := 53) rfl))) (mvT hZ7 (hw _ (List.mem_of_getElem? (i := 52) rfl))) (by decide) (backOf (W := 0) (rmIA l Z a0 hw [] b_7 T7.heap O7 Pp_7) hZ7 (hw _ (List.mem_of_getElem? (i := 54) rfl)) (hw _ (List.mem_of_getElem? (i := 34) rfl)) (by decide) (by decide)) q9a q9c (g := (mkF m 58 #[.val (.int k), .val (.int ((k &&& (2147483647 : Int32)) % (3 : Int32))), .val (.ref w_UNAUTHENTICATED), .val (.ref b3), .val (.ref b_7), .unset, .unset] [(.ref b_7)])) rfl (by rw [hml]; rfl) (Steps.refl _) (argsL := []) (rest := []) (lenOf pd___Z rfl) rfl (by show 2 * 0 + _ ≤ _; exact Nat.le_of_eq rfl) (hb hby at_58) (fun _ _ => ⟨rfl, rfl, (by decide : 6 + 0 ≤ _), (by decide : 63 + 0 ≤ _)⟩)
    dsimp only [Pt.U, Pt.locs, Pt.cells, Pt.slots] at X9 l9 y9 z9 st9 hQ9
    subst l9 y9 z9
    obtain ⟨rfl, rfl, e9⟩ := hQ9
    have N9 := Fr.app N7 (Fr.nil _)
    refine Go.tr st9 ?_
    show Go p e below _ (T9.setTop (mkF m 61 #[.val (.int k), .val (.int ((k &&& (2147483647 : Int32)) % (3 : Int32))), .val (.ref w_UNAUTHENTICATED), .val (.ref b3), .val (.ref b_7), .unset, .unset] [(.int (0 : Int32))]))
    refine Go.st (fun t' k' => XS.ifYes X9.here hx rfl (pc0 := 61) (pc' := 66) rfl (hb hby at_61) rfl ((if0 _ _).trans (teq (by decide : (0 : Int32) = (0 : Int32))).1) (by decide) (by decide) k') ?_
    show Go p e below _ (T9.setTop (mkF m 66 #[.val (.int k), .val (.int ((k &&& (2147483647 : Int32)) % (3 : Int32))), .val (.ref w_UNAUTHENTICATED), .val (.ref b3), .val (.ref b_7), .unset, .unset] []))
    refine Go.st (fun t' k' => XS.aload X9.here hx rfl (hb hby at_66) rfl rfl k') ?_
    show Go p e below _ (T9.setTop (mkF m 68 #[.val (.int k), .val (.int ((k &&& (2147483647 : Int32)) % (3 : Int32))), .val (.ref w_UNAUTHENTICATED), .val (.ref b3), .val (.ref b_7), .unset, .unset] [(.ref b_7)]))
    obtain ⟨cq10, kq10, q10a, q10b, q10c⟩ := isOf hZ7 e9 Eb_7
    obtain ⟨_, _, ⟨T10, L10, k10, n10⟩, -, X10, ⟨Lc10, hQ10, l10, y10, z10⟩, st10⟩ := X9.virtualBack hx (y := (⟨"com/example/claim/claim/model/CredentialResult", "principal", "()Ljava/util/Optional;"⟩ : MethodName)) (z := (⟨"com/example/claim/claim/model/CredentialResult", "principal", "()Ljava/util/Optional;"⟩ : MethodName)) hown7 (mvT hZ7 (hw _ (List.mem_of_getElem? (i := 55) rfl))) (mvT hZ7 (hw _ (List.mem_of_getElem? (i := 56) rfl))) (notFace_of_selects (args := #[]) (mvT hZ7 (hw _ (List.mem_of_getElem? (i := 58) rfl)))) (mvT hZ7 (hw _ (List.mem_of_getElem? (i := 58) rfl))) (mvT hZ7 (hw _ (List.mem_of_getElem? (i := 57) rfl))) (by decide) (backOf (W := 0) (rmPr l Z a0 hw [] b_7 w_EMPTY T7.heap O7 S_EMPTY Pp_7) hZ7 (hw _ (List.mem_of_getElem? (i := 59) rfl)) (hw _ (List.mem_of_getElem? (i := 34) rfl)) (by decide) (by decide)) q10a q10c (g := (mkF m 68 #[.val (.int k), .val (.int ((k &&& (2147483647 : Int32)) % (3 : Int32))), .val (.ref w_UNAUTHENTICATED), .val (.ref b3), .val (.ref b_7), .unset, .unset] [(.ref b_7)])) rfl (by rw [hml]; rfl) (Steps.refl _) (argsL := []) (rest := []) (lenOf pd___Ljava_util_Optional_ rfl) rfl (by show 2 * 0 + _ ≤ _; exact Nat.le_of_eq rfl) (hb hby at_68) (fun _ _ => ⟨rfl, e9, (by decide : 6 + 0 ≤ _), (by decide : 63 + 0 ≤ _)⟩)
    dsimp only [Pt.U, Pt.locs, Pt.cells, Pt.slots] at X10 l10 y10 z10 st10 hQ10
    subst l10 y10 z10
    obtain ⟨rfl, rfl, e10⟩ := hQ10
    have N10 := Fr.app N9 (Fr.nil _)
    refine Go.tr st10 ?_
    show Go p e below _ (T10.setTop (mkF m 71 #[.val (.int k), .val (.int ((k &&& (2147483647 : Int32)) % (3 : Int32))), .val (.ref w_UNAUTHENTICATED), .val (.ref b3), .val (.ref b_7), .unset, .unset] [(.ref w_EMPTY)]))
    obtain ⟨cq11, kq11, q11a, q11b, q11c⟩ := isOf hZ7 e10 (E_EMPTY.ext O7)
    obtain ⟨_, _, ⟨T11, L11, k11, n11⟩, -, X11, ⟨Lc11, hQ11, l11, y11, z11⟩, st11⟩ := X10.virtualBack hx (y := (⟨"java/util/Optional", "isPresent", "()Z"⟩ : MethodName)) (z := (⟨"java/util/Optional", "isPresent", "()Z"⟩ : MethodName)) hown7 (mvT hZ7 (hw _ (List.mem_of_getElem? (i := 65) rfl))) (mvT hZ7 (hw _ (List.mem_of_getElem? (i := 66) rfl))) (notFace_of_selects (args := #[]) (mvT hZ7 (hw _ (List.mem_of_getElem? (i := 68) rfl)))) (mvT hZ7 (hw _ (List.mem_of_getElem? (i := 68) rfl))) (mvT hZ7 (hw _ (List.mem_of_getElem? (i := 67) rfl))) (by decide) (backOf (W := 0) (rmIs0 l Z a0 hw [] w_EMPTY T7.heap O7 (F_EMPTY_value.ext O7)) hZ7 (hw _ (List.mem_of_getElem? (i := 69) rfl)) (hw _ (List.mem_of_getElem? (i := 62) rfl)) (by decide) (by decide)) q11a q11c (g := (mkF m 71 #[.val (.int k), .val (.int ((k &&& (2147483647 : Int32)) % (3 : Int32))), .val (.ref w_UNAUTHENTICATED), .val (.ref b3), .val (.ref b_7), .unset, .unset] [(.ref w_EMPTY)])) rfl (by rw [hml]; rfl) (Steps.refl _) (argsL := []) (rest := []) (lenOf pd___Z rfl) rfl (by show 2 * 0 + _ ≤ _; exact Nat.le_of_eq rfl) (hb hby at_71) (fun _ _ => ⟨rfl, e10, (by decide : 6 + 0 ≤ _), (by decide : 63 + 0 ≤ _)⟩)
    dsimp only [Pt.U, Pt.locs, Pt.cells, Pt.slots] at X11 l11 y11 z11 st11 hQ11
    subst l11 y11 z11
    obtain ⟨rfl, rfl, e11⟩ := hQ11
    have N11 := Fr.app N10 (Fr.nil _)
    refine Go.tr st11 ?_
    show Go p e below _ (T11.setTop (mkF m 74 #[.val (.int k), .val (.int ((k &&& (2147483647 : Int32)) % (3 : Int32))), .val (.ref w_UNAUTHENTICATED), .val (.ref b3), .val (.ref b_7), .unset, .unset] [(.int (0 : Int32))]))
    refine Go.st (fun t' k' => XS.ifYes X11.here hx rfl (pc0 := 74) (pc' := 79) rfl (hb hby at_74) rfl ((if0 _ _).trans (teq (by decide : (0 : Int32) = (0 : Int32))).1) (by decide) (by decide) k') ?_
    show Go p e below _ (T11.setTop (mkF m 79 #[.val (.int k), .val (.int ((k &&& (2147483647 : Int32)) % (3 : Int32))), .val (.ref w_UNAUTHENTICATED), .val (.ref b3), .val (.ref b_7), .unset, .unset] []))
    refine Go.st (fun t' k' => XS.aload X11.here hx rfl (hb hby at_79) rfl rfl k') ?_
    show Go p e below _ (T11.setTop (mkF m 81 #[.val (.int k), .val (.int ((k &&& (2147483647 : Int32)) % (3 : Int32))), .val (.ref w_UNAUTHENTICATED), .val (.ref b3), .val (.ref b_7), .unset, .unset] [(.ref b_7)]))
    obtain ⟨cq12, kq12, q12a, q12b, q12c⟩ := isOf hZ7 e11 Eb_7
    obtain ⟨_, _, ⟨T12, L12, k12, n12⟩, -, X12, ⟨Lc12, hQ12, l12, y12, z12⟩, st12⟩ := X11.virtualBack hx (y := (⟨"com/example/claim/claim/model/CredentialResult", "refusal", "()Ljava/util/Optional;"⟩ : MethodName)) (z := (⟨"com/example/claim/claim/model/CredentialResult", "refusal", "()Ljava/util/Optional;"⟩ : MethodName)) hown7 (mvT hZ7 (hw _ (List.mem_of_getElem? (i := 72) rfl))) (mvT hZ7 (hw _ (List.mem_of_getElem? (i := 73) rfl))) (notFace_of_selects (args := #[]) (mvT hZ7 (hw _ (List.mem_of_getElem? (i := 75) rfl)))) (mvT hZ7 (hw _ (List.mem_of_getElem? (i := 75) rfl))) (mvT hZ7 (hw _ (List.mem_of_getElem? (i := 74) rfl))) (by decide) (backOf (W := 0) (rmRq l Z a0 hw [] b_7 b3 T7.heap O7 Pq_7) hZ7 (hw _ (List.mem_of_getElem? (i := 76) rfl)) (hw _ (List.mem_of_getElem? (i := 34) rfl)) (by decide) (by decide)) q12a q12c (g := (mkF m 81 #[.val (.int k), .val (.int ((k &&& (2147483647 : Int32)) % (3 : Int32))), .val (.ref w_UNAUTHENTICATED), .val (.ref b3), .val (.ref b_7), .unset, .unset] [(.ref b_7)])) rfl (by rw [hml]; rfl) (Steps.refl _) (argsL := []) (rest := []) (lenOf pd___Ljava_util_Optional_ rfl) rfl (by show 2 * 0 + _ ≤ _; exact Nat.le_of_eq rfl) (hb hby at_81) (fun _ _ => ⟨rfl, e11, (by decide : 6 + 1 ≤ _), (by decide : 63 + 1 ≤ _)⟩)
    dsimp only [Pt.U, Pt.locs, Pt.cells, Pt.slots] at X12 l12 y12 z12 st12 hQ12
    subst l12 y12 z12
    obtain ⟨b_12, rfl, N12q, O12, Kc12, Eb_12, Pv_12, Gb_12, Sb_12⟩ := hQ12
    have N12 := Fr.app N11 N12q
    refine Go.tr st12 ?_
    have hk12 := Nat.le_trans (Nat.le_refl _) Kc12.1
    have A3_h13 := A3_h8.keep Kc12
    have Pr_5_h13 := Pr_5_h8.keep Kc12 nin0
    have Eb_7_h13 := Eb_7.keep Kc12
    have Pp_7_h13 := Pp_7.keep Kc12 nin0
    have Pq_7_h13 := Pq_7.keep Kc12 nin0
    have ne_w_EMPTY_b_12 : w_EMPTY ≠ b_12 := Nat.ne_of_lt (Nat.lt_of_lt_of_le (E_EMPTY.ext O7).lt Sb_12)
    have ne_b3_b_12 : b3 ≠ b_12 := Nat.ne_of_lt (Nat.lt_of_lt_of_le A3_h8.lt Sb_12)
    have ne_b_7_b_12 : b_7 ≠ b_12 := Nat.ne_of_lt (Nat.lt_of_lt_of_le Eb_7.lt Sb_12)
    show Go p e below _ (T12.setTop (mkF m 84 #[.val (.int k), .val (.int ((k &&& (2147483647 : Int32)) % (3 : Int32))), .val (.ref w_UNAUTHENTICATED), .val (.ref b3), .val (.ref b_7), .unset, .unset] [(.ref b_12)]))
    refine Go.st (fun t' k' => XS.astore X12.here hx rfl (hb hby at_84) rfl rfl (l' := #[.val (.int k), .val (.int ((k &&& (2147483647 : Int32)) % (3 : Int32))), .val (.ref w_UNAUTHENTICATED), .val (.ref b3), .val (.ref b_7), .val (.ref b_12), .unset]) rfl k') ?_
    show Go p e below _ (T12.setTop (mkF m 86 #[.val (.int k), .val (.int ((k &&& (2147483647 : Int32)) % (3 : Int32))), .val (.ref w_UNAUTHENTICATED), .val (.ref b3), .val (.ref b_7), .val (.ref b_12), .unset] []))
    refine Go.st (fun t' k' => XS.aload X12.here hx rfl (hb hby at_86) rfl rfl k') ?_
    show Go p e below _ (T12.setTop (mkF m 88 #[.val (.int k), .val (.int ((k &&& (2147483647 : Int32)) % (3 : Int32))), .val (.ref w_UNAUTHENTICATED), .val (.ref b3), .val (.ref b_7), .val (.ref b_12), .unset] [(.ref b_12)]))
    obtain ⟨cq14, kq14, q14a, q14b, q14c⟩ := isOf hZ7 rfl Eb_12
    obtain ⟨_, _, ⟨T14, L14, k14, n14⟩, -, X14, ⟨Lc14, hQ14, l14, y14, z14⟩, st14⟩ := X12.virtualBack hx (y := (⟨"java/util/Optional", "isPresent", "()Z"⟩ : MethodName)) (z := (⟨"java/util/Optional", "isPresent", "()Z"⟩ : MethodName)) hown7 (mvT hZ7 (hw _ (List.mem_of_getElem? (i := 65) rfl))) (mvT hZ7 (hw _ (List.mem_of_getElem? (i := 66) rfl))) (notFace_of_selects (args := #[]) (mvT hZ7 (hw _ (List.mem_of_getElem? (i := 68) rfl)))) (mvT hZ7 (hw _ (List.mem_of_getElem? (i := 68) rfl))) (mvT hZ7 (hw _ (List.mem_of_getElem? (i := 67) rfl))) (by decide) (backOf (W := 0) (rmIs1 l Z a0 hw [] b_12 b3 T12.heap O12 Pv_12) hZ7 (hw _ (List.mem_of_getElem? (i := 69) rfl)) (hw _ (List.mem_of_getElem? (i := 62) rfl)) (by decide) (by decide)) q14a q14c (g := (mkF m 88 #[.val (.int k), .val (.int ((k &&& (2147483647 : Int32)) % (3 : Int32))), .val (.ref w_UNAUTHENTICATED), .val (.ref b3), .val (.ref b_7), .val (.ref b_12), .unset] [(.ref b_12)])) rfl (by rw [hml]; rfl) (Steps.refl _) (argsL := []) (rest := []) (lenOf pd___Z rfl) rfl (by show 2 * 0 + _ ≤ _; exact Nat.le_of_eq rfl) (hb hby at_88) (fun _ _ => ⟨rfl, rfl, (by decide : 7 + 0 ≤ _), (by decide : 64 + 0 ≤ _)⟩)
    dsimp only [Pt.U, Pt.locs, Pt.cells, Pt.slots] at X14 l14 y14 z14 st14 hQ14
    subst l14 y14 z14
    obtain ⟨rfl, rfl, e14⟩ := hQ14
    have N14 := Fr.app N12 (Fr.nil _)
    refine Go.tr st14 ?_
    show Go p e below _ (T14.setTop (mkF m 91 #[.val (.int k), .val (.int ((k &&& (2147483647 : Int32)) % (3 : Int32))), .val (.ref w_UNAUTHENTICATED), .val (.ref b3), .val (.ref b_7), .val (.ref b_12), .unset] [(.int (1 : Int32))]))
    refine Go.st (fun t' k' => XS.ifYes X14.here hx rfl (pc0 := 91) (pc' := 96) rfl (hb hby at_91) rfl ((if0 _ _).trans (feq (by decide : ¬ ((1 : Int32) = (0 : Int32)))).2) (by decide) (by decide) k') ?_
    show Go p e below _ (T14.setTop (mkF m 96 #[.val (.int k), .val (.int ((k &&& (2147483647 : Int32)) % (3 : Int32))), .val (.ref w_UNAUTHENTICATED), .val (.ref b3), .val (.ref b_7), .val (.ref b_12), .unset] []))
    refine Go.st (fun t' k' => XS.aload X14.here hx rfl (hb hby at_96) rfl rfl k') ?_
    show Go p e below _ (T14.setTop (mkF m 98 #[.val (.int k), .val (.int ((k &&& (2147483647 : Int32)) % (3 : Int32))), .val (.ref w_UNAUTHENTICATED), .val (.ref b3), .val (.ref b_7), .val (.ref b_12), .unset] [(.ref b_12)]))
    obtain ⟨cq15, kq15, q15a, q15b, q15c⟩ := isOf hZ7 e14 Eb_12
    obtain ⟨_, _, ⟨T15, L15, k15, n15⟩, -, X15, ⟨Lc15, hQ15, l15, y15, z15⟩, st15⟩ := X14.virtualBack hx (y := (⟨"java/util/Optional", "get", "()Ljava/lang/Object;"⟩ : MethodName)) (z := (⟨"java/util/Optional", "get", "()Ljava/lang/Object;"⟩ : MethodName)) hown7 (mvT hZ7 (hw _ (List.mem_of_getElem? (i := 84) rfl))) (mvT hZ7 (hw _ (List.mem_of_getElem? (i := 85) rfl))) (notFace_of_selects (args := #[]) (mvT hZ7 (hw _ (List.mem_of_getElem? (i := 87) rfl)))) (mvT hZ7 (hw _ (List.mem_of_getElem? (i := 87) rfl))) (mvT hZ7 (hw _ (List.mem_of_getElem? (i := 86) rfl))) (by decide) (backOf (W := 0) (rmGet l Z a0 hw [] b_12 b3 T12.heap O12 Pv_12) hZ7 (hw _ (List.mem_of_getElem? (i := 88) rfl)) (hw _ (List.mem_of_getElem? (i := 62) rfl)) (by decide) (by decide)) q15a q15c (g := (mkF m 98 #[.val (.int k), .val (.int ((k &&& (2147483647 : Int32)) % (3 : Int32))), .val (.ref w_UNAUTHENTICATED), .val (.ref b3), .val (.ref b_7), .val (.ref b_12), .unset] [(.ref b_12)])) rfl (by rw [hml]; rfl) (Steps.refl _) (argsL := []) (rest := []) (lenOf pd___Ljava_lang_Object_ rfl) rfl (by show 2 * 0 + _ ≤ _; exact Nat.le_of_eq rfl) (hb hby at_98) (fun _ _ => ⟨rfl, e14, (by decide : 7 + 0 ≤ _), (by decide : 64 + 0 ≤ _)⟩)
    dsimp only [Pt.U, Pt.locs, Pt.cells, Pt.slots] at X15 l15 y15 z15 st15 hQ15
    subst l15 y15 z15
    obtain ⟨rfl, rfl, e15⟩ := hQ15
    have N15 := Fr.app N14 (Fr.nil _)
    refine Go.tr st15 ?_
    show Go p e below _ (T15.setTop (mkF m 101 #[.val (.int k), .val (.int ((k &&& (2147483647 : Int32)) % (3 : Int32))), .val (.ref w_UNAUTHENTICATED), .val (.ref b3), .val (.ref b_7), .val (.ref b_12), .unset] [(.ref b3)]))
    obtain ⟨T16, X16, e16, st16⟩ := castY X15 hx hZ7 hown7 (hw _ (List.mem_of_getElem? (i := 4) rfl)) e15 (Ins.self A3_h13) (g := (mkF m 101 #[.val (.int k), .val (.int ((k &&& (2147483647 : Int32)) % (3 : Int32))), .val (.ref w_UNAUTHENTICATED), .val (.ref b3), .val (.ref b_7), .val (.ref b_12), .unset] [(.ref b3)])) rfl rfl (hb hby at_101)
    refine Go.st st16 ?_
    show Go p e below _ (T16.setTop (mkF m 104 #[.val (.int k), .val (.int ((k &&& (2147483647 : Int32)) % (3 : Int32))), .val (.ref w_UNAUTHENTICATED), .val (.ref b3), .val (.ref b_7), .val (.ref b_12), .unset] [(.ref b3)]))
    refine Go.st (fun t' k' => XS.astore X16.here hx rfl (hb hby at_104) rfl rfl (l' := #[.val (.int k), .val (.int ((k &&& (2147483647 : Int32)) % (3 : Int32))), .val (.ref w_UNAUTHENTICATED), .val (.ref b3), .val (.ref b_7), .val (.ref b_12), .val (.ref b3)]) rfl k') ?_
    show Go p e below _ (T16.setTop (mkF m 106 #[.val (.int k), .val (.int ((k &&& (2147483647 : Int32)) % (3 : Int32))), .val (.ref w_UNAUTHENTICATED), .val (.ref b3), .val (.ref b_7), .val (.ref b_12), .val (.ref b3)] []))
    refine Go.st (fun t' k' => XS.aload X16.here hx rfl (hb hby at_106) rfl rfl k') ?_
    show Go p e below _ (T16.setTop (mkF m 108 #[.val (.int k), .val (.int ((k &&& (2147483647 : Int32)) % (3 : Int32))), .val (.ref w_UNAUTHENTICATED), .val (.ref b3), .val (.ref b_7), .val (.ref b_12), .val (.ref b3)] [(.ref b3)]))
    refine Go.st (fun t' k' => XS.aloadN X16.here hx rfl (hb hby at_108) rfl rfl k') ?_
    show Go p e below _ (T16.setTop (mkF m 109 #[.val (.int k), .val (.int ((k &&& (2147483647 : Int32)) % (3 : Int32))), .val (.ref w_UNAUTHENTICATED), .val (.ref b3), .val (.ref b_7), .val (.ref b_12), .val (.ref b3)] [(.ref b3), (.ref b3)]))
    refine Go.st (fun t' k' => Jvm.RoadKit.acmp (g := (mkF m 109 #[.val (.int k), .val (.int ((k &&& (2147483647 : Int32)) % (3 : Int32))), .val (.ref w_UNAUTHENTICATED), .val (.ref b3), .val (.ref b_7), .val (.ref b_12), .val (.ref b3)] [(.ref b3), (.ref b3)])) X16 hx rfl rfl rfl (pc0 := 109) (pc' := 112) (same := true) rfl (hb hby at_109) rfl (decide_eq_true rfl) (by decide) (by decide) k') ?_
    show Go p e below _ (T16.setTop (mkF m 112 #[.val (.int k), .val (.int ((k &&& (2147483647 : Int32)) % (3 : Int32))), .val (.ref w_UNAUTHENTICATED), .val (.ref b3), .val (.ref b_7), .val (.ref b_12), .val (.ref b3)] []))
    refine Go.st (fun t' k' => XS.aload X16.here hx rfl (hb hby at_112) rfl rfl k') ?_
    show Go p e below _ (T16.setTop (mkF m 114 #[.val (.int k), .val (.int ((k &&& (2147483647 : Int32)) % (3 : Int32))), .val (.ref w_UNAUTHENTICATED), .val (.ref b3), .val (.ref b_7), .val (.ref b_12), .val (.ref b3)] [(.ref b3)]))
    obtain ⟨cq17, kq17, q17a, q17b, q17c⟩ := isOf hZ7 e16 A3_h13
    obtain ⟨_, _, ⟨T17, L17, k17, n17⟩, -, X17, ⟨Lc17, hQ17, l17, y17, z17⟩, st17⟩ := X16.virtualBack hx (y := (⟨"com/example/claim/claim/model/CredentialRefusal", "reason", "()Lcom/example/claim/claim/model/CredentialRefusalReason;"⟩ : MethodName)) (z := (⟨"com/example/claim/claim/model/CredentialRefusal", "reason", "()Lcom/example/claim/claim/model/CredentialRefusalReason;"⟩ : MethodName)) hown7 (mvT hZ7 (hw _ (List.mem_of_getElem? (i := 89) rfl))) (mvT hZ7 (hw _ (List.mem_of_getElem? (i := 90) rfl))) (notFace_of_selects (args := #[]) (mvT hZ7 (hw _ (List.mem_of_getElem? (i := 92) rfl)))) (mvT hZ7 (hw _ (List.mem_of_getElem? (i := 92) rfl))) (mvT hZ7 (hw _ (List.mem_of_getElem? (i := 91) rfl))) (by decide) (backOf (W := 0) (rmRs l Z a0 hw [] b3 w_UNAUTHENTICATED T12.heap O12 Pr_5_h13) hZ7 (hw _ (List.mem_of_getElem? (i := 93) rfl)) (hw _ (List.mem_of_getElem? (i := 6) rfl)) (by decide) (by decide)) q17a q17c (g := (mkF m 114 #[.val (.int k), .val (.int ((k &&& (2147483647 : Int32)) % (3 : Int32))), .val (.ref w_UNAUTHENTICATED), .val (.ref b3), .val (.ref b_7), .val (.ref b_12), .val (.ref b3)] [(.ref b3)])) rfl (by rw [hml]; rfl) (Steps.refl _) (argsL := []) (rest := []) (lenOf pd___Lcom_example_claim_claim_model_CredentialRefusalReason_ rfl) rfl (by show 2 * 0 + _ ≤ _; exact Nat.le_of_eq rfl) (hb hby at_114) (fun _ _ => ⟨rfl, e16, (by decide : 7 + 0 ≤ _), (by decide : 64 + 0 ≤ _)⟩)
    dsimp only [Pt.U, Pt.locs, Pt.cells, Pt.slots] at X17 l17 y17 z17 st17 hQ17
    subst l17 y17 z17
    obtain ⟨rfl, rfl, e17⟩ := hQ17
    have N17 := Fr.app N15 (Fr.nil _)
    refine Go.tr st17 ?_
    show Go p e below _ (T17.setTop (mkF m 117 #[.val (.int k), .val (.int ((k &&& (2147483647 : Int32)) % (3 : Int32))), .val (.ref w_UNAUTHENTICATED), .val (.ref b3), .val (.ref b_7), .val (.ref b_12), .val (.ref b3)] [(.ref w_UNAUTHENTICATED)]))
    refine Go.st (fun t' k' => XS.aloadN X17.here hx rfl (hb hby at_117) rfl rfl k') ?_
    show Go p e below _ (T17.setTop (mkF m 118 #[.val (.int k), .val (.int ((k &&& (2147483647 : Int32)) % (3 : Int32))), .val (.ref w_UNAUTHENTICATED), .val (.ref b3), .val (.ref b_7), .val (.ref b_12), .val (.ref b3)] [(.ref w_UNAUTHENTICATED), (.ref w_UNAUTHENTICATED)]))
    refine Go.st (fun t' k' => Jvm.RoadKit.acmp (g := (mkF m 118 #[.val (.int k), .val (.int ((k &&& (2147483647 : Int32)) % (3 : Int32))), .val (.ref w_UNAUTHENTICATED), .val (.ref b3), .val (.ref b_7), .val (.ref b_12), .val (.ref b3)] [(.ref w_UNAUTHENTICATED), (.ref w_UNAUTHENTICATED)])) X17 hx rfl rfl rfl (pc0 := 118) (pc' := 121) (same := true) rfl (hb hby at_118) rfl (decide_eq_true rfl) (by decide) (by decide) k') ?_
    show Go p e below _ (T17.setTop (mkF m 121 #[.val (.int k), .val (.int ((k &&& (2147483647 : Int32)) % (3 : Int32))), .val (.ref w_UNAUTHENTICATED), .val (.ref b3), .val (.ref b_7), .val (.ref b_12), .val (.ref b3)] []))
    refine Go.st (fun t' k' => XS.iconst X17.here hx rfl (hb hby at_121) k') ?_
    show Go p e below _ (T17.setTop (mkF m 122 #[.val (.int k), .val (.int ((k &&& (2147483647 : Int32)) % (3 : Int32))), .val (.ref w_UNAUTHENTICATED), .val (.ref b3), .val (.ref b_7), .val (.ref b_12), .val (.ref b3)] [(.int (1 : Int32))]))
    refine Go.st (fun t' k' => XS.goto X17.here hx rfl (pc0 := 122) (pc' := 126) rfl (hb hby at_122) (by decide) (by decide) k') ?_
    show Go p e below _ (T17.setTop (mkF m 126 #[.val (.int k), .val (.int ((k &&& (2147483647 : Int32)) % (3 : Int32))), .val (.ref w_UNAUTHENTICATED), .val (.ref b3), .val (.ref b_7), .val (.ref b_12), .val (.ref b3)] [(.int (1 : Int32))]))
    exact Go.outW X17 hS7 (by rw [e17]; exact hk12) (v := (some (.int (1 : Int32)))) (fun h => by rw [hret] at h; cases h) hlk (fun fs hr => retN X17 hx (t := .boolean) hret (by simp) (hb hby at_126) hr) (Q := Q_rm0 Z k w_UNAUTHENTICATED w_CREDENTIAL_REVOKED w_CREDENTIAL_EXPIRED w_EMPTY h0) (by rw [e17]; exact ⟨rfl, N17⟩) (by decide) (by decide)
  · refine Go.st (fun t' k' => XS.ifYes X0.here hx rfl (pc0 := 8) (pc' := 18) rfl (hb hby at_8) rfl ((if0 _ _).trans (feq hc8_1).2) (by decide) (by decide) k') ?_
    show Go p e below _ (s₁.setTop (mkF m 18 #[.val (.int k), .val (.int ((k &&& (2147483647 : Int32)) % (3 : Int32))), .unset, .unset, .unset, .unset, .unset] []))
    refine Go.st (fun t' k' => XS.iloadN X0.here hx rfl (hb hby at_18) rfl k') ?_
    show Go p e below _ (s₁.setTop (mkF m 19 #[.val (.int k), .val (.int ((k &&& (2147483647 : Int32)) % (3 : Int32))), .unset, .unset, .unset, .unset, .unset] [(.int ((k &&& (2147483647 : Int32)) % (3 : Int32)))]))
    refine Go.st (fun t' k' => XS.iconst X0.here hx rfl (hb hby at_19) k') ?_
    show Go p e below _ (s₁.setTop (mkF m 20 #[.val (.int k), .val (.int ((k &&& (2147483647 : Int32)) % (3 : Int32))), .unset, .unset, .unset, .unset, .unset] [(.int (1 : Int32)), (.int ((k &&& (2147483647 : Int32)) % (3 : Int32)))]))
    by_cases hc20_18 : ((k &&& (2147483647 : Int32)) % (3 : Int32)) = (1 : Int32)
    · refine Go.st (fun t' k' => XS.icmpNo X0.here hx rfl (hb hby at_20) rfl (teq hc20_18).2 k') ?_
      show Go p e below _ (s₁.setTop (mkF m 23 #[.val (.int k), .val (.int ((k &&& (2147483647 : Int32)) % (3 : Int32))), .unset, .unset, .unset, .unset, .unset] []))
      obtain ⟨T19, X19, e19, st19⟩ := getS2 X0 hx hZ hown (host := "") (Or.inl (hw _ (List.mem_of_getElem? (i := 96) rfl))) Via.refl e0 (S_CREDENTIAL_REVOKED.ext O0) (g := (mkF m 23 #[.val (.int k), .val (.int ((k &&& (2147483647 : Int32)) % (3 : Int32))), .unset, .unset, .unset, .unset, .unset] [])) rfl (hb hby at_23)
      refine Go.st st19 ?_
      show Go p e below _ (T19.setTop (mkF m 26 #[.val (.int k), .val (.int ((k &&& (2147483647 : Int32)) % (3 : Int32))), .unset, .unset, .unset, .unset, .unset] [(.ref w_CREDENTIAL_REVOKED)]))
      refine Go.st (fun t' k' => XS.astoreN X19.here hx rfl (hb hby at_26) rfl rfl (l' := #[.val (.int k), .val (.int ((k &&& (2147483647 : Int32)) % (3 : Int32))), .val (.ref w_CREDENTIAL_REVOKED), .unset, .unset, .unset, .unset]) rfl k') ?_
      show Go p e below _ (T19.setTop (mkF m 27 #[.val (.int k), .val (.int ((k &&& (2147483647 : Int32)) % (3 : Int32))), .val (.ref w_CREDENTIAL_REVOKED), .unset, .unset, .unset, .unset] []))
      refine Go.st (fun t' k' => XS.goto X19.here hx rfl (pc0 := 27) (pc' := 34) rfl (hb hby at_27) (by decide) (by decide) k') ?_
      show Go p e below _ (T19.setTop (mkF m 34 #[.val (.int k), .val (.int ((k &&& (2147483647 : Int32)) % (3 : Int32))), .val (.ref w_CREDENTIAL_REVOKED), .unset, .unset, .unset, .unset] []))
      obtain ⟨T20, h20, X20, e20, E20, A20, D20, -, st20⟩ := newO X19 hx hZ hown (hw _ (List.mem_of_getElem? (i := 4) rfl)) (hw _ (List.mem_of_getElem? (i := 5) rfl)) (hw _ (List.mem_of_getElem? (i := 6) rfl)) e19 (g := (mkF m 34 #[.val (.int k), .val (.int ((k &&& (2147483647 : Int32)) % (3 : Int32))), .val (.ref w_CREDENTIAL_REVOKED), .unset, .unset, .unset, .unset] [])) rfl (hb hby at_34) (by decide) (by decide)
      obtain ⟨b20, g20⟩ : ∃ z, z = h0.size := ⟨_, rfl⟩
      rw [← g20] at A20 D20 st20
      refine Go.st st20 ?_
      have ne_w_EMPTY_b20 : w_EMPTY ≠ b20 := Nat.ne_of_lt (Nat.lt_of_lt_of_le (E_EMPTY.ext O0).lt (Nat.le_of_eq g20.symm))
      have g_b20 : Z.heap.size ≤ b20 := Nat.le_trans O0.1 (Nat.le_of_eq g20.symm)
      have hk20 := Nat.le_trans hk0 E20.1
      have O20 := own_ext_trans O0 E20
      have F_reason_b20 : Fld Z h20 b20 "com/example/claim/claim/model/CredentialRefusal" "reason" "Lcom/example/claim/claim/model/CredentialRefusalReason;" .null := D20 (Or.inr (hw _ (List.mem_of_getElem? (i := 31) rfl))) (ty := (.object "com/example/claim/claim/model/CredentialRefusalReason")) (by decide)
      show Go p e below _ (T20.setTop (mkF m 37 #[.val (.int k), .val (.int ((k &&& (2147483647 : Int32)) % (3 : Int32))), .val (.ref w_CREDENTIAL_REVOKED), .unset, .unset, .unset, .unset] [(.ref b20)]))
      refine Go.st (fun t' k' => XS.dup X20.here hx rfl (hb hby at_37) rfl rfl k') ?_
      show Go p e below _ (T20.setTop (mkF m 38 #[.val (.int k), .val (.int ((k &&& (2147483647 : Int32)) % (3 : Int32))), .val (.ref w_CREDENTIAL_REVOKED), .unset, .unset, .unset, .unset] [(.ref b20), (.ref b20)]))
      refine Go.st (fun t' k' => XS.aloadN X20.here hx rfl (hb hby at_38) rfl rfl k') ?_
      show Go p e below _ (T20.setTop (mkF m 39 #[.val (.int k), .val (.int ((k &&& (2147483647 : Int32)) % (3 : Int32))), .val (.ref w_CREDENTIAL_REVOKED), .unset, .unset, .unset, .unset] [(.ref w_CREDENTIAL_REVOKED), (.ref b20), (.ref b20)]))
      obtain ⟨_, _, ⟨T22, L22, k22, n22⟩, -, X22, hs22, gr22, ⟨Lc22, hQ22, l22, y22, z22⟩, st22⟩ := X20.specialBackS hx (y := (⟨"com/example/claim/claim/model/CredentialRefusal", "<init>", "(Lcom/example/claim/claim/model/CredentialRefusalReason;)V"⟩ : MethodName)) rfl hown (mvT hZ (hw _ (List.mem_of_getElem? (i := 7) rfl))) (mvT hZ (hw _ (List.mem_of_getElem? (i := 8) rfl))) (mvT hZ (hw _ (List.mem_of_getElem? (i := 9) rfl))) (by decide) (backOfS (W := 1) (rmCR l Z a0 hw [] b20 w_CREDENTIAL_REVOKED h20 O20 A20 g_b20 F_reason_b20) hZ (hw _ (List.mem_of_getElem? (i := 9) rfl)) (hw _ (List.mem_of_getElem? (i := 6) rfl)) (by decide) (by decide)) (g := (mkF m 39 #[.val (.int k), .val (.int ((k &&& (2147483647 : Int32)) % (3 : Int32))), .val (.ref w_CREDENTIAL_REVOKED), .unset, .unset, .unset, .unset] [(.ref w_CREDENTIAL_REVOKED), (.ref b20), (.ref b20)])) rfl (by rw [hml]; rfl) (Steps.refl _) (a := b20) (argsL := [(.ref w_CREDENTIAL_REVOKED)]) (rest := [(.ref b20)]) (lenOf pd__Lcom_example_claim_claim_model_CredentialRefusalReason__V rfl) rfl (by show 2 * 0 + _ ≤ _; exact Nat.le_of_eq rfl) (hb hby at_39) (fun _ _ => ⟨rfl, e20, (by decide : 1 + 2 ≤ _), (by decide : 1 + 28 ≤ _)⟩)
      dsimp only [Pt.U, Pt.locs, Pt.cells, Pt.slots] at X22 l22 y22 z22 st22 hQ22 hs22 gr22
      subst l22 y22 z22
      obtain ⟨rfl, N22q, O22, Kc22, Pr_22⟩ := hQ22
      have N22 := Fr.app N0 N22q
      refine Go.tr st22 ?_
      obtain ⟨X22r, hS22, hZ22, hown22⟩ := rebS hS0 (by rw [e20]; exact hk20) X22 hs22 gr22 hZ hown
      have A20_h23 := A20.keep Kc22
      show Go p e below _ (T22.setTop (mkF m 42 #[.val (.int k), .val (.int ((k &&& (2147483647 : Int32)) % (3 : Int32))), .val (.ref w_CREDENTIAL_REVOKED), .unset, .unset, .unset, .unset] [(.ref b20)]))
      refine Go.st (fun t' k' => XS.astoreN X22r.here hx rfl (hb hby at_42) rfl rfl (l' := #[.val (.int k), .val (.int ((k &&& (2147483647 : Int32)) % (3 : Int32))), .val (.ref w_CREDENTIAL_REVOKED), .val (.ref b20), .unset, .unset, .unset]) rfl k') ?_
      show Go p e below _ (T22.setTop (mkF m 43 #[.val (.int k), .val (.int ((k &&& (2147483647 : Int32)) % (3 : Int32))), .val (.ref w_CREDENTIAL_REVOKED), .val (.ref b20), .unset, .unset, .unset] []))
      refine Go.st (fun t' k' => XS.aloadN X22r.here hx rfl (hb hby at_43) rfl rfl k') ?_
      show Go p e below _ (T22.setTop (mkF m 44 #[.val (.int k), .val (.int ((k &&& (2147483647 : Int32)) % (3 : Int32))), .val (.ref w_CREDENTIAL_REVOKED), .val (.ref b20), .unset, .unset, .unset] [(.ref b20)]))
      obtain ⟨_, _, ⟨T24, L24, k24, n24⟩, -, X24, hs24, gr24, ⟨Lc24, hQ24, l24, y24, z24⟩, st24⟩ := Jvm.RoadKit.callSS X22r hx (y := (⟨"com/example/claim/claim/model/CredentialResult", "refused", "(Lcom/example/claim/claim/model/CredentialRefusal;)Lcom/example/claim/claim/model/CredentialResult;"⟩ : MethodName)) hown22 (mvT hZ22 (hw _ (List.mem_of_getElem? (i := 32) rfl))) (mvT hZ22 (hw _ (List.mem_of_getElem? (i := 33) rfl))) (mvT hZ22 (hw _ (List.mem_of_getElem? (i := 34) rfl))) (mvT hZ22 (hw _ (List.mem_of_getElem? (i := 35) rfl))) (by decide) (backOfS (W := 0) (rmRF l Z a0 hw [] b20 T22.heap O22 A20_h23) hZ22 (hw _ (List.mem_of_getElem? (i := 35) rfl)) (hw _ (List.mem_of_getElem? (i := 34) rfl)) (by decide) (by decide)) (g := (mkF m 44 #[.val (.int k), .val (.int ((k &&& (2147483647 : Int32)) % (3 : Int32))), .val (.ref w_CREDENTIAL_REVOKED), .val (.ref b20), .unset, .unset, .unset] [(.ref b20)])) rfl (by rw [hml]; rfl) (argsL := [(.ref b20)]) (rest := []) (lenOf pd__Lcom_example_claim_claim_model_CredentialRefusal__Lcom_example_claim_claim_model_CredentialResult_ rfl) rfl (by show 2 * 0 + _ ≤ _; exact Nat.le_of_eq rfl) (hb hby at_44) (fun _ _ => ⟨rfl, rfl, (by decide : 3 + 3 ≤ _), (by decide : 29 + 34 ≤ _)⟩)
      dsimp only [Pt.U, Pt.locs, Pt.cells, Pt.slots] at X24 l24 y24 z24 st24 hQ24 hs24 gr24
      subst l24 y24 z24
      obtain ⟨b_24, rfl, N24q, O24, Kc24, Eb_24, Pp_24, Pq_24, Gb_24, Sb_24⟩ := hQ24
      have N24 := Fr.app N22 N24q
      refine Go.tr st24 ?_
      obtain ⟨X24r, hS24, hZ24, hown24⟩ := rebS hS22 (Nat.le_refl _) X24 hs24 gr24 hZ22 hown22
      have A20_h25 := A20_h23.keep Kc24
      have Pr_22_h25 := Pr_22.keep Kc24 nin0
      have ne_w_EMPTY_b_24 : w_EMPTY ≠ b_24 := Nat.ne_of_lt (Nat.lt_of_lt_of_le (E_EMPTY.ext O22).lt Sb_24)
      have ne_b20_b_24 : b20 ≠ b_24 := Nat.ne_of_lt (Nat.lt_of_lt_of_le A20_h23.lt Sb_24)
      show Go p e below _ (T24.setTop (mkF m 47 #[.val (.int k), .val (.int ((k &&& (2147483647 : Int32)) % (3 : Int32))), .val (.ref w_CREDENTIAL_REVOKED), .val (.ref b20), .unset, .unset, .unset] [(.ref b_24)]))
      refine Go.st (fun t' k' => XS.astore X24r.here hx rfl (hb hby at_47) rfl rfl (l' := #[.val (.int k), .val (.int ((k &&& (2147483647 : Int32)) % (3 : Int32))), .val (.ref w_CREDENTIAL_REVOKED), .val (.ref b20), .val (.ref b_24), .unset, .unset]) rfl k') ?_
      show Go p e below _ (T24.setTop (mkF m 49 #[.val (.int k), .val (.int ((k &&& (2147483647 : Int32)) % (3 : Int32))), .val (.ref w_CREDENTIAL_REVOKED), .val (.ref b20), .val (.ref b_24), .unset, .unset] []))
      refine Go.st (fun t' k' => XS.aload X24r.here hx rfl (hb hby at_49) rfl rfl k') ?_
      show Go p e below _ (T24.setTop (mkF m 51 #[.val (.int k), .val (.int ((k &&& (2147483647 : Int32)) % (3 : Int32))), .val (.ref w_CREDENTIAL_REVOKED), .val (.ref b20), .val (.ref b_24), .unset, .unset] [(.ref b_24)]))
      refine Go.st (fun t' k' => XS.ifnonnullYes X24r.here hx rfl (pc0 := 51) (pc' := 56) rfl (hb hby at_51) rfl (by decide) (by decide) k') ?_
      show Go p e below _ (T24.setTop (mkF m 56 #[.val (.int k), .val (.int ((k &&& (2147483647 : Int32)) % (3 : Int32))), .val (.ref w_CREDENTIAL_REVOKED), .val (.ref b20), .val (.ref b_24), .unset, .unset] []))
      refine Go.st (fun t' k' => XS.aload X24r.here hx rfl (hb hby at_56) rfl rfl k') ?_
      show Go p e below _ (T24.setTop (mkF m 58 #[.val (.int k), .val (.int ((k &&& (2147483647 : Int32)) % (3 : Int32))), .val (.ref w_CREDENTIAL_REVOKED), .val (.ref b20), .val (.ref b_24), .unset, .unset] [(.ref b_24)]))
      obtain ⟨cq26, kq26, q26a, q26b, q26c⟩ := isOf hZ24 rfl Eb_24
      obtain ⟨_, _, ⟨T26, L26, k26, n26⟩, -, X26, ⟨Lc26, hQ26, l26, y26, z26⟩, st26⟩ := X24r.virtualBack hx (y := (⟨"com/example/claim/claim/model/CredentialResult", "isAccepted", "()Z"⟩ : MethodName)) (z := (⟨"com/example/claim/claim/model/CredentialResult", "isAccepted", "()Z"⟩ : MethodName)) hown24 (mvT hZ24 (hw _ (List.mem_of_getElem? (i := 50) rfl))) (mvT hZ24 (hw _ (List.mem_of_getElem? (i := 51) rfl))) (notFace_of_selects (args := #[]) (mvT hZ24 (hw _ (List.mem_of_getElem? (i := 53) rfl)))) (mvT hZ24 (hw _ (List.mem_of_getElem? (i := 53) rfl))) (mvT hZ24 (hw _ (List.mem_of_getElem? (i := 52) rfl))) (by decide) (backOf (W := 0) (rmIA l Z a0 hw [] b_24 T24.heap O24 Pp_24) hZ24 (hw _ (List.mem_of_getElem? (i := 54) rfl)) (hw _ (List.mem_of_getElem? (i := 34) rfl)) (by decide) (by decide)) q26a q26c (g := (mkF m 58 #[.val (.int k), .val (.int ((k &&& (2147483647 : Int32)) % (3 : Int32))), .val (.ref w_CREDENTIAL_REVOKED), .val (.ref b20), .val (.ref b_24), .unset, .unset] [(.ref b_24)])) rfl (by rw [hml]; rfl) (Steps.refl _) (argsL := []) (rest := []) (lenOf pd___Z rfl) rfl (by show 2 * 0 + _ ≤ _; exact Nat.le_of_eq rfl) (hb hby at_58) (fun _ _ => ⟨rfl, rfl, (by decide : 6 + 0 ≤ _), (by decide : 63 + 0 ≤ _)⟩)
      dsimp only [Pt.U, Pt.locs, Pt.cells, Pt.slots] at X26 l26 y26 z26 st26 hQ26
      subst l26 y26 z26
      obtain ⟨rfl, rfl, e26⟩ := hQ26
      have N26 := Fr.app N24 (Fr.nil _)
      refine Go.tr st26 ?_
      show Go p e below _ (T26.setTop (mkF m 61 #[.val (.int k), .val (.int ((k &&& (2147483647 : Int32)) % (3 : Int32))), .val (.ref w_CREDENTIAL_REVOKED), .val (.ref b20), .val (.ref b_24), .unset, .unset] [(.int (0 : Int32))]))
      refine Go.st (fun t' k' => XS.ifYes X26.here hx rfl (pc0 := 61) (pc' := 66) rfl (hb hby at_61) rfl ((if0 _ _).trans (teq (by decide : (0 : Int32) = (0 : Int32))).1) (by decide) (by decide) k') ?_
      show Go p e below _ (T26.setTop (mkF m 66 #[.val (.int k), .val (.int ((k &&& (2147483647 : Int32)) % (3 : Int32))), .val (.ref w_CREDENTIAL_REVOKED), .val (.ref b20), .val (.ref b_24), .unset, .unset] []))
      refine Go.st (fun t' k' => XS.aload X26.here hx rfl (hb hby at_66) rfl rfl k') ?_
      show Go p e below _ (T26.setTop (mkF m 68 #[.val (.int k), .val (.int ((k &&& (2147483647 : Int32)) % (3 : Int32))), .val (.ref w_CREDENTIAL_REVOKED), .val (.ref b20), .val (.ref b_24), .unset, .unset] [(.ref b_24)]))
      obtain ⟨cq27, kq27, q27a, q27b, q27c⟩ := isOf hZ24 e26 Eb_24
      obtain ⟨_, _, ⟨T27, L27, k27, n27⟩, -, X27, ⟨Lc27, hQ27, l27, y27, z27⟩, st27⟩ := X26.virtualBack hx (y := (⟨"com/example/claim/claim/model/CredentialResult", "principal", "()Ljava/util/Optional;"⟩ : MethodName)) (z := (⟨"com/example/claim/claim/model/CredentialResult", "principal", "()Ljava/util/Optional;"⟩ : MethodName)) hown24 (mvT hZ24 (hw _ (List.mem_of_getElem? (i := 55) rfl))) (mvT hZ24 (hw _ (List.mem_of_getElem? (i := 56) rfl))) (notFace_of_selects (args := #[]) (mvT hZ24 (hw _ (List.mem_of_getElem? (i := 58) rfl)))) (mvT hZ24 (hw _ (List.mem_of_getElem? (i := 58) rfl))) (mvT hZ24 (hw _ (List.mem_of_getElem? (i := 57) rfl))) (by decide) (backOf (W := 0) (rmPr l Z a0 hw [] b_24 w_EMPTY T24.heap O24 S_EMPTY Pp_24) hZ24 (hw _ (List.mem_of_getElem? (i := 59) rfl)) (hw _ (List.mem_of_getElem? (i := 34) rfl)) (by decide) (by decide)) q27a q27c (g := (mkF m 68 #[.val (.int k), .val (.int ((k &&& (2147483647 : Int32)) % (3 : Int32))), .val (.ref w_CREDENTIAL_REVOKED), .val (.ref b20), .val (.ref b_24), .unset, .unset] [(.ref b_24)])) rfl (by rw [hml]; rfl) (Steps.refl _) (argsL := []) (rest := []) (lenOf pd___Ljava_util_Optional_ rfl) rfl (by show 2 * 0 + _ ≤ _; exact Nat.le_of_eq rfl) (hb hby at_68) (fun _ _ => ⟨rfl, e26, (by decide : 6 + 0 ≤ _), (by decide : 63 + 0 ≤ _)⟩)
      dsimp only [Pt.U, Pt.locs, Pt.cells, Pt.slots] at X27 l27 y27 z27 st27 hQ27
      subst l27 y27 z27
      obtain ⟨rfl, rfl, e27⟩ := hQ27
      have N27 := Fr.app N26 (Fr.nil _)
      refine Go.tr st27 ?_
      show Go p e below _ (T27.setTop (mkF m 71 #[.val (.int k), .val (.int ((k &&& (2147483647 : Int32)) % (3 : Int32))), .val (.ref w_CREDENTIAL_REVOKED), .val (.ref b20), .val (.ref b_24), .unset, .unset] [(.ref w_EMPTY)]))
      obtain ⟨cq28, kq28, q28a, q28b, q28c⟩ := isOf hZ24 e27 (E_EMPTY.ext O24)
      obtain ⟨_, _, ⟨T28, L28, k28, n28⟩, -, X28, ⟨Lc28, hQ28, l28, y28, z28⟩, st28⟩ := X27.virtualBack hx (y := (⟨"java/util/Optional", "isPresent", "()Z"⟩ : MethodName)) (z := (⟨"java/util/Optional", "isPresent", "()Z"⟩ : MethodName)) hown24 (mvT hZ24 (hw _ (List.mem_of_getElem? (i := 65) rfl))) (mvT hZ24 (hw _ (List.mem_of_getElem? (i := 66) rfl))) (notFace_of_selects (args := #[]) (mvT hZ24 (hw _ (List.mem_of_getElem? (i := 68) rfl)))) (mvT hZ24 (hw _ (List.mem_of_getElem? (i := 68) rfl))) (mvT hZ24 (hw _ (List.mem_of_getElem? (i := 67) rfl))) (by decide) (backOf (W := 0) (rmIs0 l Z a0 hw [] w_EMPTY T24.heap O24 (F_EMPTY_value.ext O24)) hZ24 (hw _ (List.mem_of_getElem? (i := 69) rfl)) (hw _ (List.mem_of_getElem? (i := 62) rfl)) (by decide) (by decide)) q28a q28c (g := (mkF m 71 #[.val (.int k), .val (.int ((k &&& (2147483647 : Int32)) % (3 : Int32))), .val (.ref w_CREDENTIAL_REVOKED), .val (.ref b20), .val (.ref b_24), .unset, .unset] [(.ref w_EMPTY)])) rfl (by rw [hml]; rfl) (Steps.refl _) (argsL := []) (rest := []) (lenOf pd___Z rfl) rfl (by show 2 * 0 + _ ≤ _; exact Nat.le_of_eq rfl) (hb hby at_71) (fun _ _ => ⟨rfl, e27, (by decide : 6 + 0 ≤ _), (by decide : 63 + 0 ≤ _)⟩)
      dsimp only [Pt.U, Pt.locs, Pt.cells, Pt.slots] at X28 l28 y28 z28 st28 hQ28
      subst l28 y28 z28
      obtain ⟨rfl, rfl, e28⟩ := hQ28
      have N28 := Fr.app N27 (Fr.nil _)
      refine Go.tr st28 ?_
      show Go p e below _ (T28.setTop (mkF m 74 #[.val (.int k), .val (.int ((k &&& (2147483647 : Int32)) % (3 : Int32))), .val (.ref w_CREDENTIAL_REVOKED), .val (.ref b20), .val (.ref b_24), .unset, .unset] [(.int (0 : Int32))]))
      refine Go.st (fun t' k' => XS.ifYes X28.here hx rfl (pc0 := 74) (pc' := 79) rfl (hb hby at_74) rfl ((if0 _ _).trans (teq (by decide : (0 : Int32) = (0 : Int32))).1) (by decide) (by decide) k') ?_
      show Go p e below _ (T28.setTop (mkF m 79 #[.val (.int k), .val (.int ((k &&& (2147483647 : Int32)) % (3 : Int32))), .val (.ref w_CREDENTIAL_REVOKED), .val (.ref b20), .val (.ref b_24), .unset, .unset] []))
      refine Go.st (fun t' k' => XS.aload X28.here hx rfl (hb hby at_79) rfl rfl k') ?_
      show Go p e below _ (T28.setTop (mkF m 81 #[.val (.int k), .val (.int ((k &&& (2147483647 : Int32)) % (3 : Int32))), .val (.ref w_CREDENTIAL_REVOKED), .val (.ref b20), .val (.ref b_24), .unset, .unset] [(.ref b_24)]))
      obtain ⟨cq29, kq29, q29a, q29b, q29c⟩ := isOf hZ24 e28 Eb_24
      obtain ⟨_, _, ⟨T29, L29, k29, n29⟩, -, X29, ⟨Lc29, hQ29, l29, y29, z29⟩, st29⟩ := X28.virtualBack hx (y := (⟨"com/example/claim/claim/model/CredentialResult", "refusal", "()Ljava/util/Optional;"⟩ : MethodName)) (z := (⟨"com/example/claim/claim/model/CredentialResult", "refusal", "()Ljava/util/Optional;"⟩ : MethodName)) hown24 (mvT hZ24 (hw _ (List.mem_of_getElem? (i := 72) rfl))) (mvT hZ24 (hw _ (List.mem_of_getElem? (i := 73) rfl))) (notFace_of_selects (args := #[]) (mvT hZ24 (hw _ (List.mem_of_getElem? (i := 75) rfl)))) (mvT hZ24 (hw _ (List.mem_of_getElem? (i := 75) rfl))) (mvT hZ24 (hw _ (List.mem_of_getElem? (i := 74) rfl))) (by decide) (backOf (W := 0) (rmRq l Z a0 hw [] b_24 b20 T24.heap O24 Pq_24) hZ24 (hw _ (List.mem_of_getElem? (i := 76) rfl)) (hw _ (List.mem_of_getElem? (i := 34) rfl)) (by decide) (by decide)) q29a q29c (g := (mkF m 81 #[.val (.int k), .val (.int ((k &&& (2147483647 : Int32)) % (3 : Int32))), .val (.ref w_CREDENTIAL_REVOKED), .val (.ref b20), .val (.ref b_24), .unset, .unset] [(.ref b_24)])) rfl (by rw [hml]; rfl) (Steps.refl _) (argsL := []) (rest := []) (lenOf pd___Ljava_util_Optional_ rfl) rfl (by show 2 * 0 + _ ≤ _; exact Nat.le_of_eq rfl) (hb hby at_81) (fun _ _ => ⟨rfl, e28, (by decide : 6 + 1 ≤ _), (by decide : 63 + 1 ≤ _)⟩)
      dsimp only [Pt.U, Pt.locs, Pt.cells, Pt.slots] at X29 l29 y29 z29 st29 hQ29
      subst l29 y29 z29
      obtain ⟨b_29, rfl, N29q, O29, Kc29, Eb_29, Pv_29, Gb_29, Sb_29⟩ := hQ29
      have N29 := Fr.app N28 N29q
      refine Go.tr st29 ?_
      have hk29 := Nat.le_trans (Nat.le_refl _) Kc29.1
      have A20_h30 := A20_h25.keep Kc29
      have Pr_22_h30 := Pr_22_h25.keep Kc29 nin0
      have Eb_24_h30 := Eb_24.keep Kc29
      have Pp_24_h30 := Pp_24.keep Kc29 nin0
      have Pq_24_h30 := Pq_24.keep Kc29 nin0
      have ne_w_EMPTY_b_29 : w_EMPTY ≠ b_29 := Nat.ne_of_lt (Nat.lt_of_lt_of_le (E_EMPTY.ext O24).lt Sb_29)
      have ne_b20_b_29 : b20 ≠ b_29 := Nat.ne_of_lt (Nat.lt_of_lt_of_le A20_h25.lt Sb_29)
      have ne_b_24_b_29 : b_24 ≠ b_29 := Nat.ne_of_lt (Nat.lt_of_lt_of_le Eb_24.lt Sb_29)
      show Go p e below _ (T29.setTop (mkF m 84 #[.val (.int k), .val (.int ((k &&& (2147483647 : Int32)) % (3 : Int32))), .val (.ref w_CREDENTIAL_REVOKED), .val (.ref b20), .val (.ref b_24), .unset, .unset] [(.ref b_29)]))
      refine Go.st (fun t' k' => XS.astore X29.here hx rfl (hb hby at_84) rfl rfl (l' := #[.val (.int k), .val (.int ((k &&& (2147483647 : Int32)) % (3 : Int32))), .val (.ref w_CREDENTIAL_REVOKED), .val (.ref b20), .val (.ref b_24), .val (.ref b_29), .unset]) rfl k') ?_
      show Go p e below _ (T29.setTop (mkF m 86 #[.val (.int k), .val (.int ((k &&& (2147483647 : Int32)) % (3 : Int32))), .val (.ref w_CREDENTIAL_REVOKED), .val (.ref b20), .val (.ref b_24), .val (.ref b_29), .unset] []))
      refine Go.st (fun t' k' => XS.aload X29.here hx rfl (hb hby at_86) rfl rfl k') ?_
      show Go p e below _ (T29.setTop (mkF m 88 #[.val (.int k), .val (.int ((k &&& (2147483647 : Int32)) % (3 : Int32))), .val (.ref w_CREDENTIAL_REVOKED), .val (.ref b20), .val (.ref b_24), .val (.ref b_29), .unset] [(.ref b_29)]))
      obtain ⟨cq31, kq31, q31a, q31b, q31c⟩ := isOf hZ24 rfl Eb_29
      obtain ⟨_, _, ⟨T31, L31, k31, n31⟩, -, X31, ⟨Lc31, hQ31, l31, y31, z31⟩, st31⟩ := X29.virtualBack hx (y := (⟨"java/util/Optional", "isPresent", "()Z"⟩ : MethodName)) (z := (⟨"java/util/Optional", "isPresent", "()Z"⟩ : MethodName)) hown24 (mvT hZ24 (hw _ (List.mem_of_getElem? (i := 65) rfl))) (mvT hZ24 (hw _ (List.mem_of_getElem? (i := 66) rfl))) (notFace_of_selects (args := #[]) (mvT hZ24 (hw _ (List.mem_of_getElem? (i := 68) rfl)))) (mvT hZ24 (hw _ (List.mem_of_getElem? (i := 68) rfl))) (mvT hZ24 (hw _ (List.mem_of_getElem? (i := 67) rfl))) (by decide) (backOf (W := 0) (rmIs1 l Z a0 hw [] b_29 b20 T29.heap O29 Pv_29) hZ24 (hw _ (List.mem_of_getElem? (i := 69) rfl)) (hw _ (List.mem_of_getElem? (i := 62) rfl)) (by decide) (by decide)) q31a q31c (g := (mkF m 88 #[.val (.int k), .val (.int ((k &&& (2147483647 : Int32)) % (3 : Int32))), .val (.ref w_CREDENTIAL_REVOKED), .val (.ref b20), .val (.ref b_24), .val (.ref b_29), .unset] [(.ref b_29)])) rfl (by rw [hml]; rfl) (Steps.refl _) (argsL := []) (rest := []) (lenOf pd___Z rfl) rfl (by show 2 * 0 + _ ≤ _; exact Nat.le_of_eq rfl) (hb hby at_88) (fun _ _ => ⟨rfl, rfl, (by decide : 7 + 0 ≤ _), (by decide : 64 + 0 ≤ _)⟩)
      dsimp only [Pt.U, Pt.locs, Pt.cells, Pt.slots] at X31 l31 y31 z31 st31 hQ31
      subst l31 y31 z31
      obtain ⟨rfl, rfl, e31⟩ := hQ31
      have N31 := Fr.app N29 (Fr.nil _)
      refine Go.tr st31 ?_
      show Go p e below _ (T31.setTop (mkF m 91 #[.val (.int k), .val (.int ((k &&& (2147483647 : Int32)) % (3 : Int32))), .val (.ref w_CREDENTIAL_REVOKED), .val (.ref b20), .val (.ref b_24), .val (.ref b_29), .unset] [(.int (1 : Int32))]))
      refine Go.st (fun t' k' => XS.ifYes X31.here hx rfl (pc0 := 91) (pc' := 96) rfl (hb hby at_91) rfl ((if0 _ _).trans (feq (by decide : ¬ ((1 : Int32) = (0 : Int32)))).2) (by decide) (by decide) k') ?_
      show Go p e below _ (T31.setTop (mkF m 96 #[.val (.int k), .val (.int ((k &&& (2147483647 : Int32)) % (3 : Int32))), .val (.ref w_CREDENTIAL_REVOKED), .val (.ref b20), .val (.ref b_24), .val (.ref b_29), .unset] []))
      refine Go.st (fun t' k' => XS.aload X31.here hx rfl (hb hby at_96) rfl rfl k') ?_
      show Go p e below _ (T31.setTop (mkF m 98 #[.val (.int k), .val (.int ((k &&& (2147483647 : Int32)) % (3 : Int32))), .val (.ref w_CREDENTIAL_REVOKED), .val (.ref b20), .val (.ref b_24), .val (.ref b_29), .unset] [(.ref b_29)]))
      obtain ⟨cq32, kq32, q32a, q32b, q32c⟩ := isOf hZ24 e31 Eb_29
      obtain ⟨_, _, ⟨T32, L32, k32, n32⟩, -, X32, ⟨Lc32, hQ32, l32, y32, z32⟩, st32⟩ := X31.virtualBack hx (y := (⟨"java/util/Optional", "get", "()Ljava/lang/Object;"⟩ : MethodName)) (z := (⟨"java/util/Optional", "get", "()Ljava/lang/Object;"⟩ : MethodName)) hown24 (mvT hZ24 (hw _ (List.mem_of_getElem? (i := 84) rfl))) (mvT hZ24 (hw _ (List.mem_of_getElem? (i := 85) rfl))) (notFace_of_selects (args := #[]) (mvT hZ24 (hw _ (List.mem_of_getElem? (i := 87) rfl)))) (mvT hZ24 (hw _ (List.mem_of_getElem? (i := 87) rfl))) (mvT hZ24 (hw _ (List.mem_of_getElem? (i := 86) rfl))) (by decide) (backOf (W := 0) (rmGet l Z a0 hw [] b_29 b20 T29.heap O29 Pv_29) hZ24 (hw _ (List.mem_of_getElem? (i := 88) rfl)) (hw _ (List.mem_of_getElem? (i := 62) rfl)) (by decide) (by decide)) q32a q32c (g := (mkF m 98 #[.val (.int k), .val (.int ((k &&& (2147483647 : Int32)) % (3 : Int32))), .val (.ref w_CREDENTIAL_REVOKED), .val (.ref b20), .val (.ref b_24), .val (.ref b_29), .unset] [(.ref b_29)])) rfl (by rw [hml]; rfl) (Steps.refl _) (argsL := []) (rest := []) (lenOf pd___Ljava_lang_Object_ rfl) rfl (by show 2 * 0 + _ ≤ _; exact Nat.le_of_eq rfl) (hb hby at_98) (fun _ _ => ⟨rfl, e31, (by decide : 7 + 0 ≤ _), (by decide : 64 + 0 ≤ _)⟩)
      dsimp only [Pt.U, Pt.locs, Pt.cells, Pt.slots] at X32 l32 y32 z32 st32 hQ32
      subst l32 y32 z32
      obtain ⟨rfl, rfl, e32⟩ := hQ32
      have N32 := Fr.app N31 (Fr.nil _)
      refine Go.tr st32 ?_
      show Go p e below _ (T32.setTop (mkF m 101 #[.val (.int k), .val (.int ((k &&& (2147483647 : Int32)) % (3 : Int32))), .val (.ref w_CREDENTIAL_REVOKED), .val (.ref b20), .val (.ref b_24), .val (.ref b_29), .unset] [(.ref b20)]))
      obtain ⟨T33, X33, e33, st33⟩ := castY X32 hx hZ24 hown24 (hw _ (List.mem_of_getElem? (i := 4) rfl)) e32 (Ins.self A20_h30) (g := (mkF m 101 #[.val (.int k), .val (.int ((k &&& (2147483647 : Int32)) % (3 : Int32))), .val (.ref w_CREDENTIAL_REVOKED), .val (.ref b20), .val (.ref b_24), .val (.ref b_29), .unset] [(.ref b20)])) rfl rfl (hb hby at_101)
      refine Go.st st33 ?_
      show Go p e below _ (T33.setTop (mkF m 104 #[.val (.int k), .val (.int ((k &&& (2147483647 : Int32)) % (3 : Int32))), .val (.ref w_CREDENTIAL_REVOKED), .val (.ref b20), .val (.ref b_24), .val (.ref b_29), .unset] [(.ref b20)]))
      refine Go.st (fun t' k' => XS.astore X33.here hx rfl (hb hby at_104) rfl rfl (l' := #[.val (.int k), .val (.int ((k &&& (2147483647 : Int32)) % (3 : Int32))), .val (.ref w_CREDENTIAL_REVOKED), .val (.ref b20), .val (.ref b_24), .val (.ref b_29), .val (.ref b20)]) rfl k') ?_
      show Go p e below _ (T33.setTop (mkF m 106 #[.val (.int k), .val (.int ((k &&& (2147483647 : Int32)) % (3 : Int32))), .val (.ref w_CREDENTIAL_REVOKED), .val (.ref b20), .val (.ref b_24), .val (.ref b_29), .val (.ref b20)] []))
      refine Go.st (fun t' k' => XS.aload X33.here hx rfl (hb hby at_106) rfl rfl k') ?_
      show Go p e below _ (T33.setTop (mkF m 108 #[.val (.int k), .val (.int ((k &&& (2147483647 : Int32)) % (3 : Int32))), .val (.ref w_CREDENTIAL_REVOKED), .val (.ref b20), .val (.ref b_24), .val (.ref b_29), .val (.ref b20)] [(.ref b20)]))
      refine Go.st (fun t' k' => XS.aloadN X33.here hx rfl (hb hby at_108) rfl rfl k') ?_
      show Go p e below _ (T33.setTop (mkF m 109 #[.val (.int k), .val (.int ((k &&& (2147483647 : Int32)) % (3 : Int32))), .val (.ref w_CREDENTIAL_REVOKED), .val (.ref b20), .val (.ref b_24), .val (.ref b_29), .val (.ref b20)] [(.ref b20), (.ref b20)]))
      refine Go.st (fun t' k' => Jvm.RoadKit.acmp (g := (mkF m 109 #[.val (.int k), .val (.int ((k &&& (2147483647 : Int32)) % (3 : Int32))), .val (.ref w_CREDENTIAL_REVOKED), .val (.ref b20), .val (.ref b_24), .val (.ref b_29), .val (.ref b20)] [(.ref b20), (.ref b20)])) X33 hx rfl rfl rfl (pc0 := 109) (pc' := 112) (same := true) rfl (hb hby at_109) rfl (decide_eq_true rfl) (by decide) (by decide) k') ?_
      show Go p e below _ (T33.setTop (mkF m 112 #[.val (.int k), .val (.int ((k &&& (2147483647 : Int32)) % (3 : Int32))), .val (.ref w_CREDENTIAL_REVOKED), .val (.ref b20), .val (.ref b_24), .val (.ref b_29), .val (.ref b20)] []))
      refine Go.st (fun t' k' => XS.aload X33.here hx rfl (hb hby at_112) rfl rfl k') ?_
      show Go p e below _ (T33.setTop (mkF m 114 #[.val (.int k), .val (.int ((k &&& (2147483647 : Int32)) % (3 : Int32))), .val (.ref w_CREDENTIAL_REVOKED), .val (.ref b20), .val (.ref b_24), .val (.ref b_29), .val (.ref b20)] [(.ref b20)]))
      obtain ⟨cq34, kq34, q34a, q34b, q34c⟩ := isOf hZ24 e33 A20_h30
      obtain ⟨_, _, ⟨T34, L34, k34, n34⟩, -, X34, ⟨Lc34, hQ34, l34, y34, z34⟩, st34⟩ := X33.virtualBack hx (y := (⟨"com/example/claim/claim/model/CredentialRefusal", "reason", "()Lcom/example/claim/claim/model/CredentialRefusalReason;"⟩ : MethodName)) (z := (⟨"com/example/claim/claim/model/CredentialRefusal", "reason", "()Lcom/example/claim/claim/model/CredentialRefusalReason;"⟩ : MethodName)) hown24 (mvT hZ24 (hw _ (List.mem_of_getElem? (i := 89) rfl))) (mvT hZ24 (hw _ (List.mem_of_getElem? (i := 90) rfl))) (notFace_of_selects (args := #[]) (mvT hZ24 (hw _ (List.mem_of_getElem? (i := 92) rfl)))) (mvT hZ24 (hw _ (List.mem_of_getElem? (i := 92) rfl))) (mvT hZ24 (hw _ (List.mem_of_getElem? (i := 91) rfl))) (by decide) (backOf (W := 0) (rmRs l Z a0 hw [] b20 w_CREDENTIAL_REVOKED T29.heap O29 Pr_22_h30) hZ24 (hw _ (List.mem_of_getElem? (i := 93) rfl)) (hw _ (List.mem_of_getElem? (i := 6) rfl)) (by decide) (by decide)) q34a q34c (g := (mkF m 114 #[.val (.int k), .val (.int ((k &&& (2147483647 : Int32)) % (3 : Int32))), .val (.ref w_CREDENTIAL_REVOKED), .val (.ref b20), .val (.ref b_24), .val (.ref b_29), .val (.ref b20)] [(.ref b20)])) rfl (by rw [hml]; rfl) (Steps.refl _) (argsL := []) (rest := []) (lenOf pd___Lcom_example_claim_claim_model_CredentialRefusalReason_ rfl) rfl (by show 2 * 0 + _ ≤ _; exact Nat.le_of_eq rfl) (hb hby at_114) (fun _ _ => ⟨rfl, e33, (by decide : 7 + 0 ≤ _), (by decide : 64 + 0 ≤ _)⟩)
      dsimp only [Pt.U, Pt.locs, Pt.cells, Pt.slots] at X34 l34 y34 z34 st34 hQ34
      subst l34 y34 z34
      obtain ⟨rfl, rfl, e34⟩ := hQ34
      have N34 := Fr.app N32 (Fr.nil _)
      refine Go.tr st34 ?_
      show Go p e below _ (T34.setTop (mkF m 117 #[.val (.int k), .val (.int ((k &&& (2147483647 : Int32)) % (3 : Int32))), .val (.ref w_CREDENTIAL_REVOKED), .val (.ref b20), .val (.ref b_24), .val (.ref b_29), .val (.ref b20)] [(.ref w_CREDENTIAL_REVOKED)]))
      refine Go.st (fun t' k' => XS.aloadN X34.here hx rfl (hb hby at_117) rfl rfl k') ?_
      show Go p e below _ (T34.setTop (mkF m 118 #[.val (.int k), .val (.int ((k &&& (2147483647 : Int32)) % (3 : Int32))), .val (.ref w_CREDENTIAL_REVOKED), .val (.ref b20), .val (.ref b_24), .val (.ref b_29), .val (.ref b20)] [(.ref w_CREDENTIAL_REVOKED), (.ref w_CREDENTIAL_REVOKED)]))
      refine Go.st (fun t' k' => Jvm.RoadKit.acmp (g := (mkF m 118 #[.val (.int k), .val (.int ((k &&& (2147483647 : Int32)) % (3 : Int32))), .val (.ref w_CREDENTIAL_REVOKED), .val (.ref b20), .val (.ref b_24), .val (.ref b_29), .val (.ref b20)] [(.ref w_CREDENTIAL_REVOKED), (.ref w_CREDENTIAL_REVOKED)])) X34 hx rfl rfl rfl (pc0 := 118) (pc' := 121) (same := true) rfl (hb hby at_118) rfl (decide_eq_true rfl) (by decide) (by decide) k') ?_
      show Go p e below _ (T34.setTop (mkF m 121 #[.val (.int k), .val (.int ((k &&& (2147483647 : Int32)) % (3 : Int32))), .val (.ref w_CREDENTIAL_REVOKED), .val (.ref b20), .val (.ref b_24), .val (.ref b_29), .val (.ref b20)] []))
      refine Go.st (fun t' k' => XS.iconst X34.here hx rfl (hb hby at_121) k') ?_
      show Go p e below _ (T34.setTop (mkF m 122 #[.val (.int k), .val (.int ((k &&& (2147483647 : Int32)) % (3 : Int32))), .val (.ref w_CREDENTIAL_REVOKED), .val (.ref b20), .val (.ref b_24), .val (.ref b_29), .val (.ref b20)] [(.int (1 : Int32))]))
      refine Go.st (fun t' k' => XS.goto X34.here hx rfl (pc0 := 122) (pc' := 126) rfl (hb hby at_122) (by decide) (by decide) k') ?_
      show Go p e below _ (T34.setTop (mkF m 126 #[.val (.int k), .val (.int ((k &&& (2147483647 : Int32)) % (3 : Int32))), .val (.ref w_CREDENTIAL_REVOKED), .val (.ref b20), .val (.ref b_24), .val (.ref b_29), .val (.ref b20)] [(.int (1 : Int32))]))
      exact Go.outW X34 hS24 (by rw [e34]; exact hk29) (v := (some (.int (1 : Int32)))) (fun h => by rw [hret] at h; cases h) hlk (fun fs hr => retN X34 hx (t := .boolean) hret (by simp) (hb hby at_126) hr) (Q := Q_rm0 Z k w_UNAUTHENTICATED w_CREDENTIAL_REVOKED w_CREDENTIAL_EXPIRED w_EMPTY h0) (by rw [e34]; exact ⟨rfl, N34⟩) (by decide) (by decide)
    · refine Go.st (fun t' k' => XS.icmpYes X0.here hx rfl (pc0 := 20) (pc' := 30) rfl (hb hby at_20) rfl (feq hc20_18).2 (by decide) (by decide) k') ?_
      show Go p e below _ (s₁.setTop (mkF m 30 #[.val (.int k), .val (.int ((k &&& (2147483647 : Int32)) % (3 : Int32))), .unset, .unset, .unset, .unset, .unset] []))
      obtain ⟨T35, X35, e35, st35⟩ := getS2 X0 hx hZ hown (host := "") (Or.inl (hw _ (List.mem_of_getElem? (i := 94) rfl))) Via.refl e0 (S_CREDENTIAL_EXPIRED.ext O0) (g := (mkF m 30 #[.val (.int k), .val (.int ((k &&& (2147483647 : Int32)) % (3 : Int32))), .unset, .unset, .unset, .unset, .unset] [])) rfl (hb hby at_30)
      refine Go.st st35 ?_
      show Go p e below _ (T35.setTop (mkF m 33 #[.val (.int k), .val (.int ((k &&& (2147483647 : Int32)) % (3 : Int32))), .unset, .unset, .unset, .unset, .unset] [(.ref w_CREDENTIAL_EXPIRED)]))
      refine Go.st (fun t' k' => XS.astoreN X35.here hx rfl (hb hby at_33) rfl rfl (l' := #[.val (.int k), .val (.int ((k &&& (2147483647 : Int32)) % (3 : Int32))), .val (.ref w_CREDENTIAL_EXPIRED), .unset, .unset, .unset, .unset]) rfl k') ?_
      show Go p e below _ (T35.setTop (mkF m 34 #[.val (.int k), .val (.int ((k &&& (2147483647 : Int32)) % (3 : Int32))), .val (.ref w_CREDENTIAL_EXPIRED), .unset, .unset, .unset, .unset] []))
      obtain ⟨T36, h36, X36, e36, E36, A36, D36, -, st36⟩ := newO X35 hx hZ hown (hw _ (List.mem_of_getElem? (i := 4) rfl)) (hw _ (List.mem_of_getElem? (i := 5) rfl)) (hw _ (List.mem_of_getElem? (i := 6) rfl)) e35 (g := (mkF m 34 #[.val (.int k), .val (.int ((k &&& (2147483647 : Int32)) % (3 : Int32))), .val (.ref w_CREDENTIAL_EXPIRED), .unset, .unset, .unset, .unset] [])) rfl (hb hby at_34) (by decide) (by decide)
      obtain ⟨b36, g36⟩ : ∃ z, z = h0.size := ⟨_, rfl⟩
      rw [← g36] at A36 D36 st36
      refine Go.st st36 ?_
      have ne_w_EMPTY_b36 : w_EMPTY ≠ b36 := Nat.ne_of_lt (Nat.lt_of_lt_of_le (E_EMPTY.ext O0).lt (Nat.le_of_eq g36.symm))
      have g_b36 : Z.heap.size ≤ b36 := Nat.le_trans O0.1 (Nat.le_of_eq g36.symm)
      have hk36 := Nat.le_trans hk0 E36.1
      have O36 := own_ext_trans O0 E36
      have F_reason_b36 : Fld Z h36 b36 "com/example/claim/claim/model/CredentialRefusal" "reason" "Lcom/example/claim/claim/model/CredentialRefusalReason;" .null := D36 (Or.inr (hw _ (List.mem_of_getElem? (i := 31) rfl))) (ty := (.object "com/example/claim/claim/model/CredentialRefusalReason")) (by decide)
      show Go p e below _ (T36.setTop (mkF m 37 #[.val (.int k), .val (.int ((k &&& (2147483647 : Int32)) % (3 : Int32))), .val (.ref w_CREDENTIAL_EXPIRED), .unset, .unset, .unset, .unset] [(.ref b36)]))
      refine Go.st (fun t' k' => XS.dup X36.here hx rfl (hb hby at_37) rfl rfl k') ?_
      show Go p e below _ (T36.setTop (mkF m 38 #[.val (.int k), .val (.int ((k &&& (2147483647 : Int32)) % (3 : Int32))), .val (.ref w_CREDENTIAL_EXPIRED), .unset, .unset, .unset, .unset] [(.ref b36), (.ref b36)]))
      refine Go.st (fun t' k' => XS.aloadN X36.here hx rfl (hb hby at_38) rfl rfl k') ?_
      show Go p e below _ (T36.setTop (mkF m 39 #[.val (.int k), .val (.int ((k &&& (2147483647 : Int32)) % (3 : Int32))), .val (.ref w_CREDENTIAL_EXPIRED), .unset, .unset, .unset, .unset] [(.ref w_CREDENTIAL_EXPIRED), (.ref b36), (.ref b36)]))
      obtain ⟨_, _, ⟨T38, L38, k38, n38⟩, -, X38, hs38, gr38, ⟨Lc38, hQ38, l38, y38, z38⟩, st38⟩ := X36.specialBackS hx (y := (⟨"com/example/claim/claim/model/CredentialRefusal", "<init>", "(Lcom/example/claim/claim/model/CredentialRefusalReason;)V"⟩ : MethodName)) rfl hown (mvT hZ (hw _ (List.mem_of_getElem? (i := 7) rfl))) (mvT hZ (hw _ (List.mem_of_getElem? (i := 8) rfl))) (mvT hZ (hw _ (List.mem_of_getElem? (i := 9) rfl))) (by decide) (backOfS (W := 1) (rmCR l Z a0 hw [] b36 w_CREDENTIAL_EXPIRED h36 O36 A36 g_b36 F_reason_b36) hZ (hw _ (List.mem_of_getElem? (i := 9) rfl)) (hw _ (List.mem_of_getElem? (i := 6) rfl)) (by decide) (by decide)) (g := (mkF m 39 #[.val (.int k), .val (.int ((k &&& (2147483647 : Int32)) % (3 : Int32))), .val (.ref w_CREDENTIAL_EXPIRED), .unset, .unset, .unset, .unset] [(.ref w_CREDENTIAL_EXPIRED), (.ref b36), (.ref b36)])) rfl (by rw [hml]; rfl) (Steps.refl _) (a := b36) (argsL := [(.ref w_CREDENTIAL_EXPIRED)]) (rest := [(.ref b36)]) (lenOf pd__Lcom_example_claim_claim_model_CredentialRefusalReason__V rfl) rfl (by show 2 * 0 + _ ≤ _; exact Nat.le_of_eq rfl) (hb hby at_39) (fun _ _ => ⟨rfl, e36, (by decide : 1 + 2 ≤ _), (by decide : 1 + 28 ≤ _)⟩)
      dsimp only [Pt.U, Pt.locs, Pt.cells, Pt.slots] at X38 l38 y38 z38 st38 hQ38 hs38 gr38
      subst l38 y38 z38
      obtain ⟨rfl, N38q, O38, Kc38, Pr_38⟩ := hQ38
      have N38 := Fr.app N0 N38q
      refine Go.tr st38 ?_
      obtain ⟨X38r, hS38, hZ38, hown38⟩ := rebS hS0 (by rw [e36]; exact hk36) X38 hs38 gr38 hZ hown
      have A36_h39 := A36.keep Kc38
      show Go p e below _ (T38.setTop (mkF m 42 #[.val (.int k), .val (.int ((k &&& (2147483647 : Int32)) % (3 : Int32))), .val (.ref w_CREDENTIAL_EXPIRED), .unset, .unset, .unset, .unset] [(.ref b36)]))
      refine Go.st (fun t' k' => XS.astoreN X38r.here hx rfl (hb hby at_42) rfl rfl (l' := #[.val (.int k), .val (.int ((k &&& (2147483647 : Int32)) % (3 : Int32))), .val (.ref w_CREDENTIAL_EXPIRED), .val (.ref b36), .unset, .unset, .unset]) rfl k') ?_
      show Go p e below _ (T38.setTop (mkF m 43 #[.val (.int k), .val (.int ((k &&& (2147483647 : Int32)) % (3 : Int32))), .val (.ref w_CREDENTIAL_EXPIRED), .val (.ref b36), .unset, .unset, .unset] []))
      refine Go.st (fun t' k' => XS.aloadN X38r.here hx rfl (hb hby at_43) rfl rfl k') ?_
      show Go p e below _ (T38.setTop (mkF m 44 #[.val (.int k), .val (.int ((k &&& (2147483647 : Int32)) % (3 : Int32))), .val (.ref w_CREDENTIAL_EXPIRED), .val (.ref b36), .unset, .unset, .unset] [(.ref b36)]))
      obtain ⟨_, _, ⟨T40, L40, k40, n40⟩, -, X40, hs40, gr40, ⟨Lc40, hQ40, l40, y40, z40⟩, st40⟩ := Jvm.RoadKit.callSS X38r hx (y := (⟨"com/example/claim/claim/model/CredentialResult", "refused", "(Lcom/example/claim/claim/model/CredentialRefusal;)Lcom/example/claim/claim/model/CredentialResult;"⟩ : MethodName)) hown38 (mvT hZ38 (hw _ (List.mem_of_getElem? (i := 32) rfl))) (mvT hZ38 (hw _ (List.mem_of_getElem? (i := 33) rfl))) (mvT hZ38 (hw _ (List.mem_of_getElem? (i := 34) rfl))) (mvT hZ38 (hw _ (List.mem_of_getElem? (i := 35) rfl))) (by decide) (backOfS (W := 0) (rmRF l Z a0 hw [] b36 T38.heap O38 A36_h39) hZ38 (hw _ (List.mem_of_getElem? (i := 35) rfl)) (hw _ (List.mem_of_getElem? (i := 34) rfl)) (by decide) (by decide)) (g := (mkF m 44 #[.val (.int k), .val (.int ((k &&& (2147483647 : Int32)) % (3 : Int32))), .val (.ref w_CREDENTIAL_EXPIRED), .val (.ref b36), .unset, .unset, .unset] [(.ref b36)])) rfl (by rw [hml]; rfl) (argsL := [(.ref b36)]) (rest := []) (lenOf pd__Lcom_example_claim_claim_model_CredentialRefusal__Lcom_example_claim_claim_model_CredentialResult_ rfl) rfl (by show 2 * 0 + _ ≤ _; exact Nat.le_of_eq rfl) (hb hby at_44) (fun _ _ => ⟨rfl, rfl, (by decide : 3 + 3 ≤ _), (by decide : 29 + 34 ≤ _)⟩)
      dsimp only [Pt.U, Pt.locs, Pt.cells, Pt.slots] at X40 l40 y40 z40 st40 hQ40 hs40 gr40
      subst l40 y40 z40
      obtain ⟨b_40, rfl, N40q, O40, Kc40, Eb_40, Pp_40, Pq_40, Gb_40, Sb_40⟩ := hQ40
      have N40 := Fr.app N38 N40q
      refine Go.tr st40 ?_
      obtain ⟨X40r, hS40, hZ40, hown40⟩ := rebS hS38 (Nat.le_refl _) X40 hs40 gr40 hZ38 hown38
      have A36_h41 := A36_h39.keep Kc40
      have Pr_38_h41 := Pr_38.keep Kc40 nin0
      have ne_w_EMPTY_b_40 : w_EMPTY ≠ b_40 := Nat.ne_of_lt (Nat.lt_of_lt_of_le (E_EMPTY.ext O38).lt Sb_40)
      have ne_b36_b_40 : b36 ≠ b_40 := Nat.ne_of_lt (Nat.lt_of_lt_of_le A36_h39.lt Sb_40)
      show Go p e below _ (T40.setTop (mkF m 47 #[.val (.int k), .val (.int ((k &&& (2147483647 : Int32)) % (3 : Int32))), .val (.ref w_CREDENTIAL_EXPIRED), .val (.ref b36), .unset, .unset, .unset] [(.ref b_40)]))
      refine Go.st (fun t' k' => XS.astore X40r.here hx rfl (hb hby at_47) rfl rfl (l' := #[.val (.int k), .val (.int ((k &&& (2147483647 : Int32)) % (3 : Int32))), .val (.ref w_CREDENTIAL_EXPIRED), .val (.ref b36), .val (.ref b_40), .unset, .unset]) rfl k') ?_
      show Go p e below _ (T40.setTop (mkF m 49 #[.val (.int k), .val (.int ((k &&& (2147483647 : Int32)) % (3 : Int32))), .val (.ref w_CREDENTIAL_EXPIRED), .val (.ref b36), .val (.ref b_40), .unset, .unset] []))
      refine Go.st (fun t' k' => XS.aload X40r.here hx rfl (hb hby at_49) rfl rfl k') ?_
      show Go p e below _ (T40.setTop (mkF m 51 #[.val (.int k), .val (.int ((k &&& (2147483647 : Int32)) % (3 : Int32))), .val (.ref w_CREDENTIAL_EXPIRED), .val (.ref b36), .val (.ref b_40), .unset, .unset] [(.ref b_40)]))
      refine Go.st (fun t' k' => XS.ifnonnullYes X40r.here hx rfl (pc0 := 51) (pc' := 56) rfl (hb hby at_51) rfl (by decide) (by decide) k') ?_
      show Go p e below _ (T40.setTop (mkF m 56 #[.val (.int k), .val (.int ((k &&& (2147483647 : Int32)) % (3 : Int32))), .val (.ref w_CREDENTIAL_EXPIRED), .val (.ref b36), .val (.ref b_40), .unset, .unset] []))
      refine Go.st (fun t' k' => XS.aload X40r.here hx rfl (hb hby at_56) rfl rfl k') ?_
      show Go p e below _ (T40.setTop (mkF m 58 #[.val (.int k), .val (.int ((k &&& (2147483647 : Int32)) % (3 : Int32))), .val (.ref w_CREDENTIAL_EXPIRED), .val (.ref b36), .val (.ref b_40), .unset, .unset] [(.ref b_40)]))
      obtain ⟨cq42, kq42, q42a, q42b, q42c⟩ := isOf hZ40 rfl Eb_40
      obtain ⟨_, _, ⟨T42, L42, k42, n42⟩, -, X42, ⟨Lc42, hQ42, l42, y42, z42⟩, st42⟩ := X40r.virtualBack hx (y := (⟨"com/example/claim/claim/model/CredentialResult", "isAccepted", "()Z"⟩ : MethodName)) (z := (⟨"com/example/claim/claim/model/CredentialResult", "isAccepted", "()Z"⟩ : MethodName)) hown40 (mvT hZ40 (hw _ (List.mem_of_getElem? (i := 50) rfl))) (mvT hZ40 (hw _ (List.mem_of_getElem? (i := 51) rfl))) (notFace_of_selects (args := #[]) (mvT hZ40 (hw _ (List.mem_of_getElem? (i := 53) rfl)))) (mvT hZ40 (hw _ (List.mem_of_getElem? (i := 53) rfl))) (mvT hZ40 (hw _ (List.mem_of_getElem? (i := 52) rfl))) (by decide) (backOf (W := 0) (rmIA l Z a0 hw [] b_40 T40.heap O40 Pp_40) hZ40 (hw _ (List.mem_of_getElem? (i := 54) rfl)) (hw _ (List.mem_of_getElem? (i := 34) rfl)) (by decide) (by decide)) q42a q42c (g := (mkF m 58 #[.val (.int k), .val (.int ((k &&& (2147483647 : Int32)) % (3 : Int32))), .val (.ref w_CREDENTIAL_EXPIRED), .val (.ref b36), .val (.ref b_40), .unset, .unset] [(.ref b_40)])) rfl (by rw [hml]; rfl) (Steps.refl _) (argsL := []) (rest := []) (lenOf pd___Z rfl) rfl (by show 2 * 0 + _ ≤ _; exact Nat.le_of_eq rfl) (hb hby at_58) (fun _ _ => ⟨rfl, rfl, (by decide : 6 + 0 ≤ _), (by decide : 63 + 0 ≤ _)⟩)
      dsimp only [Pt.U, Pt.locs, Pt.cells, Pt.slots] at X42 l42 y42 z42 st42 hQ42
      subst l42 y42 z42
      obtain ⟨rfl, rfl, e42⟩ := hQ42
      have N42 := Fr.app N40 (Fr.nil _)
      refine Go.tr st42 ?_
      show Go p e below _ (T42.setTop (mkF m 61 #[.val (.int k), .val (.int ((k &&& (2147483647 : Int32)) % (3 : Int32))), .val (.ref w_CREDENTIAL_EXPIRED), .val (.ref b36), .val (.ref b_40), .unset, .unset] [(.int (0 : Int32))]))
      refine Go.st (fun t' k' => XS.ifYes X42.here hx rfl (pc0 := 61) (pc' := 66) rfl (hb hby at_61) rfl ((if0 _ _).trans (teq (by decide : (0 : Int32) = (0 : Int32))).1) (by decide) (by decide) k') ?_
      show Go p e below _ (T42.setTop (mkF m 66 #[.val (.int k), .val (.int ((k &&& (2147483647 : Int32)) % (3 : Int32))), .val (.ref w_CREDENTIAL_EXPIRED), .val (.ref b36), .val (.ref b_40), .unset, .unset] []))
      refine Go.st (fun t' k' => XS.aload X42.here hx rfl (hb hby at_66) rfl rfl k') ?_
      show Go p e below _ (T42.setTop (mkF m 68 #[.val (.int k), .val (.int ((k &&& (2147483647 : Int32)) % (3 : Int32))), .val (.ref w_CREDENTIAL_EXPIRED), .val (.ref b36), .val (.ref b_40), .unset, .unset] [(.ref b_40)]))
      obtain ⟨cq43, kq43, q43a, q43b, q43c⟩ := isOf hZ40 e42 Eb_40
      obtain ⟨_, _, ⟨T43, L43, k43, n43⟩, -, X43, ⟨Lc43, hQ43, l43, y43, z43⟩, st43⟩ := X42.virtualBack hx (y := (⟨"com/example/claim/claim/model/CredentialResult", "principal", "()Ljava/util/Optional;"⟩ : MethodName)) (z := (⟨"com/example/claim/claim/model/CredentialResult", "principal", "()Ljava/util/Optional;"⟩ : MethodName)) hown40 (mvT hZ40 (hw _ (List.mem_of_getElem? (i := 55) rfl))) (mvT hZ40 (hw _ (List.mem_of_getElem? (i := 56) rfl))) (notFace_of_selects (args := #[]) (mvT hZ40 (hw _ (List.mem_of_getElem? (i := 58) rfl)))) (mvT hZ40 (hw _ (List.mem_of_getElem? (i := 58) rfl))) (mvT hZ40 (hw _ (List.mem_of_getElem? (i := 57) rfl))) (by decide) (backOf (W := 0) (rmPr l Z a0 hw [] b_40 w_EMPTY T40.heap O40 S_EMPTY Pp_40) hZ40 (hw _ (List.mem_of_getElem? (i := 59) rfl)) (hw _ (List.mem_of_getElem? (i := 34) rfl)) (by decide) (by decide)) q43a q43c (g := (mkF m 68 #[.val (.int k), .val (.int ((k &&& (2147483647 : Int32)) % (3 : Int32))), .val (.ref w_CREDENTIAL_EXPIRED), .val (.ref b36), .val (.ref b_40), .unset, .unset] [(.ref b_40)])) rfl (by rw [hml]; rfl) (Steps.refl _) (argsL := []) (rest := []) (lenOf pd___Ljava_util_Optional_ rfl) rfl (by show 2 * 0 + _ ≤ _; exact Nat.le_of_eq rfl) (hb hby at_68) (fun _ _ => ⟨rfl, e42, (by decide : 6 + 0 ≤ _), (by decide : 63 + 0 ≤ _)⟩)
      dsimp only [Pt.U, Pt.locs, Pt.cells, Pt.slots] at X43 l43 y43 z43 st43 hQ43
      subst l43 y43 z43
      obtain ⟨rfl, rfl, e43⟩ := hQ43
      have N43 := Fr.app N42 (Fr.nil _)
      refine Go.tr st43 ?_
      show Go p e below _ (T43.setTop (mkF m 71 #[.val (.int k), .val (.int ((k &&& (2147483647 : Int32)) % (3 : Int32))), .val (.ref w_CREDENTIAL_EXPIRED), .val (.ref b36), .val (.ref b_40), .unset, .unset] [(.ref w_EMPTY)]))
      obtain ⟨cq44, kq44, q44a, q44b, q44c⟩ := isOf hZ40 e43 (E_EMPTY.ext O40)
      obtain ⟨_, _, ⟨T44, L44, k44, n44⟩, -, X44, ⟨Lc44, hQ44, l44, y44, z44⟩, st44⟩ := X43.virtualBack hx (y := (⟨"java/util/Optional", "isPresent", "()Z"⟩ : MethodName)) (z := (⟨"java/util/Optional", "isPresent", "()Z"⟩ : MethodName)) hown40 (mvT hZ40 (hw _ (List.mem_of_getElem? (i := 65) rfl))) (mvT hZ40 (hw _ (List.mem_of_getElem? (i := 66) rfl))) (notFace_of_selects (args := #[]) (mvT hZ40 (hw _ (List.mem_of_getElem? (i := 68) rfl)))) (mvT hZ40 (hw _ (List.mem_of_getElem? (i := 68) rfl))) (mvT hZ40 (hw _ (List.mem_of_getElem? (i := 67) rfl))) (by decide) (backOf (W := 0) (rmIs0 l Z a0 hw [] w_EMPTY T40.heap O40 (F_EMPTY_value.ext O40)) hZ40 (hw _ (List.mem_of_getElem? (i := 69) rfl)) (hw _ (List.mem_of_getElem? (i := 62) rfl)) (by decide) (by decide)) q44a q44c (g := (mkF m 71 #[.val (.int k), .val (.int ((k &&& (2147483647 : Int32)) % (3 : Int32))), .val (.ref w_CREDENTIAL_EXPIRED), .val (.ref b36), .val (.ref b_40), .unset, .unset] [(.ref w_EMPTY)])) rfl (by rw [hml]; rfl) (Steps.refl _) (argsL := []) (rest := []) (lenOf pd___Z rfl) rfl (by show 2 * 0 + _ ≤ _; exact Nat.le_of_eq rfl) (hb hby at_71) (fun _ _ => ⟨rfl, e43, (by decide : 6 + 0 ≤ _), (by decide : 63 + 0 ≤ _)⟩)
      dsimp only [Pt.U, Pt.locs, Pt.cells, Pt.slots] at X44 l44 y44 z44 st44 hQ44
      subst l44 y44 z44
      obtain ⟨rfl, rfl, e44⟩ := hQ44
      have N44 := Fr.app N43 (Fr.nil _)
      refine Go.tr st44 ?_
      show Go p e below _ (T44.setTop (mkF m 74 #[.val (.int k), .val (.int ((k &&& (2147483647 : Int32)) % (3 : Int32))), .val (.ref w_CREDENTIAL_EXPIRED), .val (.ref b36), .val (.ref b_40), .unset, .unset] [(.int (0 : Int32))]))
      refine Go.st (fun t' k' => XS.ifYes X44.here hx rfl (pc0 := 74) (pc' := 79) rfl (hb hby at_74) rfl ((if0 _ _).trans (teq (by decide : (0 : Int32) = (0 : Int32))).1) (by decide) (by decide) k') ?_
      show Go p e below _ (T44.setTop (mkF m 79 #[.val (.int k), .val (.int ((k &&& (2147483647 : Int32)) % (3 : Int32))), .val (.ref w_CREDENTIAL_EXPIRED), .val (.ref b36), .val (.ref b_40), .unset, .unset] []))
      refine Go.st (fun t' k' => XS.aload X44.here hx rfl (hb hby at_79) rfl rfl k') ?_
      show Go p e below _ (T44.setTop (mkF m 81 #[.val (.int k), .val (.int ((k &&& (2147483647 : Int32)) % (3 : Int32))), .val (.ref w_CREDENTIAL_EXPIRED), .val (.ref b36), .val (.ref b_40), .unset, .unset] [(.ref b_40)]))
      obtain ⟨cq45, kq45, q45a, q45b, q45c⟩ := isOf hZ40 e44 Eb_40
      obtain ⟨_, _, ⟨T45, L45, k45, n45⟩, -, X45, ⟨Lc45, hQ45, l45, y45, z45⟩, st45⟩ := X44.virtualBack hx (y := (⟨"com/example/claim/claim/model/CredentialResult", "refusal", "()Ljava/util/Optional;"⟩ : MethodName)) (z := (⟨"com/example/claim/claim/model/CredentialResult", "refusal", "()Ljava/util/Optional;"⟩ : MethodName)) hown40 (mvT hZ40 (hw _ (List.mem_of_getElem? (i := 72) rfl))) (mvT hZ40 (hw _ (List.mem_of_getElem? (i := 73) rfl))) (notFace_of_selects (args := #[]) (mvT hZ40 (hw _ (List.mem_of_getElem? (i := 75) rfl)))) (mvT hZ40 (hw _ (List.mem_of_getElem? (i := 75) rfl))) (mvT hZ40 (hw _ (List.mem_of_getElem? (i := 74) rfl))) (by decide) (backOf (W := 0) (rmRq l Z a0 hw [] b_40 b36 T40.heap O40 Pq_40) hZ40 (hw _ (List.mem_of_getElem? (i := 76) rfl)) (hw _ (List.mem_of_getElem? (i := 34) rfl)) (by decide) (by decide)) q45a q45c (g := (mkF m 81 #[.val (.int k), .val (.int ((k &&& (2147483647 : Int32)) % (3 : Int32))), .val (.ref w_CREDENTIAL_EXPIRED), .val (.ref b36), .val (.ref b_40), .unset, .unset] [(.ref b_40)])) rfl (by rw [hml]; rfl) (Steps.refl _) (argsL := []) (rest := []) (lenOf pd___Ljava_util_Optional_ rfl) rfl (by show 2 * 0 + _ ≤ _; exact Nat.le_of_eq rfl) (hb hby at_81) (fun _ _ => ⟨rfl, e44, (by decide : 6 + 1 ≤ _), (by decide : 63 + 1 ≤ _)⟩)
      dsimp only [Pt.U, Pt.locs, Pt.cells, Pt.slots] at X45 l45 y45 z45 st45 hQ45
      subst l45 y45 z45
      obtain ⟨b_45, rfl, N45q, O45, Kc45, Eb_45, Pv_45, Gb_45, Sb_45⟩ := hQ45
      have N45 := Fr.app N44 N45q
      refine Go.tr st45 ?_
      have hk45 := Nat.le_trans (Nat.le_refl _) Kc45.1
      have A36_h46 := A36_h41.keep Kc45
      have Pr_38_h46 := Pr_38_h41.keep Kc45 nin0
      have Eb_40_h46 := Eb_40.keep Kc45
      have Pp_40_h46 := Pp_40.keep Kc45 nin0
      have Pq_40_h46 := Pq_40.keep Kc45 nin0
      have ne_w_EMPTY_b_45 : w_EMPTY ≠ b_45 := Nat.ne_of_lt (Nat.lt_of_lt_of_le (E_EMPTY.ext O40).lt Sb_45)
      have ne_b36_b_45 : b36 ≠ b_45 := Nat.ne_of_lt (Nat.lt_of_lt_of_le A36_h41.lt Sb_45)
      have ne_b_40_b_45 : b_40 ≠ b_45 := Nat.ne_of_lt (Nat.lt_of_lt_of_le Eb_40.lt Sb_45)
      show Go p e below _ (T45.setTop (mkF m 84 #[.val (.int k), .val (.int ((k &&& (2147483647 : Int32)) % (3 : Int32))), .val (.ref w_CREDENTIAL_EXPIRED), .val (.ref b36), .val (.ref b_40), .unset, .unset] [(.ref b_45)]))
      refine Go.st (fun t' k' => XS.astore X45.here hx rfl (hb hby at_84) rfl rfl (l' := #[.val (.int k), .val (.int ((k &&& (2147483647 : Int32)) % (3 : Int32))), .val (.ref w_CREDENTIAL_EXPIRED), .val (.ref b36), .val (.ref b_40), .val (.ref b_45), .unset]) rfl k') ?_
      show Go p e below _ (T45.setTop (mkF m 86 #[.val (.int k), .val (.int ((k &&& (2147483647 : Int32)) % (3 : Int32))), .val (.ref w_CREDENTIAL_EXPIRED), .val (.ref b36), .val (.ref b_40), .val (.ref b_45), .unset] []))
      refine Go.st (fun t' k' => XS.aload X45.here hx rfl (hb hby at_86) rfl rfl k') ?_
      show Go p e below _ (T45.setTop (mkF m 88 #[.val (.int k), .val (.int ((k &&& (2147483647 : Int32)) % (3 : Int32))), .val (.ref w_CREDENTIAL_EXPIRED), .val (.ref b36), .val (.ref b_40), .val (.ref b_45), .unset] [(.ref b_45)]))
      obtain ⟨cq47, kq47, q47a, q47b, q47c⟩ := isOf hZ40 rfl Eb_45
      obtain ⟨_, _, ⟨T47, L47, k47, n47⟩, -, X47, ⟨Lc47, hQ47, l47, y47, z47⟩, st47⟩ := X45.virtualBack hx (y := (⟨"java/util/Optional", "isPresent", "()Z"⟩ : MethodName)) (z := (⟨"java/util/Optional", "isPresent", "()Z"⟩ : MethodName)) hown40 (mvT hZ40 (hw _ (List.mem_of_getElem? (i := 65) rfl))) (mvT hZ40 (hw _ (List.mem_of_getElem? (i := 66) rfl))) (notFace_of_selects (args := #[]) (mvT hZ40 (hw _ (List.mem_of_getElem? (i := 68) rfl)))) (mvT hZ40 (hw _ (List.mem_of_getElem? (i := 68) rfl))) (mvT hZ40 (hw _ (List.mem_of_getElem? (i := 67) rfl))) (by decide) (backOf (W := 0) (rmIs1 l Z a0 hw [] b_45 b36 T45.heap O45 Pv_45) hZ40 (hw _ (List.mem_of_getElem? (i := 69) rfl)) (hw _ (List.mem_of_getElem? (i := 62) rfl)) (by decide) (by decide)) q47a q47c (g := (mkF m 88 #[.val (.int k), .val (.int ((k &&& (2147483647 : Int32)) % (3 : Int32))), .val (.ref w_CREDENTIAL_EXPIRED), .val (.ref b36), .val (.ref b_40), .val (.ref b_45), .unset] [(.ref b_45)])) rfl (by rw [hml]; rfl) (Steps.refl _) (argsL := []) (rest := []) (lenOf pd___Z rfl) rfl (by show 2 * 0 + _ ≤ _; exact Nat.le_of_eq rfl) (hb hby at_88) (fun _ _ => ⟨rfl, rfl, (by decide : 7 + 0 ≤ _), (by decide : 64 + 0 ≤ _)⟩)
      dsimp only [Pt.U, Pt.locs, Pt.cells, Pt.slots] at X47 l47 y47 z47 st47 hQ47
      subst l47 y47 z47
      obtain ⟨rfl, rfl, e47⟩ := hQ47
      have N47 := Fr.app N45 (Fr.nil _)
      refine Go.tr st47 ?_
      show Go p e below _ (T47.setTop (mkF m 91 #[.val (.int k), .val (.int ((k &&& (2147483647 : Int32)) % (3 : Int32))), .val (.ref w_CREDENTIAL_EXPIRED), .val (.ref b36), .val (.ref b_40), .val (.ref b_45), .unset] [(.int (1 : Int32))]))
      refine Go.st (fun t' k' => XS.ifYes X47.here hx rfl (pc0 := 91) (pc' := 96) rfl (hb hby at_91) rfl ((if0 _ _).trans (feq (by decide : ¬ ((1 : Int32) = (0 : Int32)))).2) (by decide) (by decide) k') ?_
      show Go p e below _ (T47.setTop (mkF m 96 #[.val (.int k), .val (.int ((k &&& (2147483647 : Int32)) % (3 : Int32))), .val (.ref w_CREDENTIAL_EXPIRED), .val (.ref b36), .val (.ref b_40), .val (.ref b_45), .unset] []))
      refine Go.st (fun t' k' => XS.aload X47.here hx rfl (hb hby at_96) rfl rfl k') ?_
      show Go p e below _ (T47.setTop (mkF m 98 #[.val (.int k), .val (.int ((k &&& (2147483647 : Int32)) % (3 : Int32))), .val (.ref w_CREDENTIAL_EXPIRED), .val (.ref b36), .val (.ref b_40), .val (.ref b_45), .unset] [(.ref b_45)]))
      obtain ⟨cq48, kq48, q48a, q48b, q48c⟩ := isOf hZ40 e47 Eb_45
      obtain ⟨_, _, ⟨T48, L48, k48, n48⟩, -, X48, ⟨Lc48, hQ48, l48, y48, z48⟩, st48⟩ := X47.virtualBack hx (y := (⟨"java/util/Optional", "get", "()Ljava/lang/Object;"⟩ : MethodName)) (z := (⟨"java/util/Optional", "get", "()Ljava/lang/Object;"⟩ : MethodName)) hown40 (mvT hZ40 (hw _ (List.mem_of_getElem? (i := 84) rfl))) (mvT hZ40 (hw _ (List.mem_of_getElem? (i := 85) rfl))) (notFace_of_selects (args := #[]) (mvT hZ40 (hw _ (List.mem_of_getElem? (i := 87) rfl)))) (mvT hZ40 (hw _ (List.mem_of_getElem? (i := 87) rfl))) (mvT hZ40 (hw _ (List.mem_of_getElem? (i := 86) rfl))) (by decide) (backOf (W := 0) (rmGet l Z a0 hw [] b_45 b36 T45.heap O45 Pv_45) hZ40 (hw _ (List.mem_of_getElem? (i := 88) rfl)) (hw _ (List.mem_of_getElem? (i := 62) rfl)) (by decide) (by decide)) q48a q48c (g := (mkF m 98 #[.val (.int k), .val (.int ((k &&& (2147483647 : Int32)) % (3 : Int32))), .val (.ref w_CREDENTIAL_EXPIRED), .val (.ref b36), .val (.ref b_40), .val (.ref b_45), .unset] [(.ref b_45)])) rfl (by rw [hml]; rfl) (Steps.refl _) (argsL := []) (rest := []) (lenOf pd___Ljava_lang_Object_ rfl) rfl (by show 2 * 0 + _ ≤ _; exact Nat.le_of_eq rfl) (hb hby at_98) (fun _ _ => ⟨rfl, e47, (by decide : 7 + 0 ≤ _), (by decide : 64 + 0 ≤ _)⟩)
      dsimp only [Pt.U, Pt.locs, Pt.cells, Pt.slots] at X48 l48 y48 z48 st48 hQ48
      subst l48 y48 z48
      obtain ⟨rfl, rfl, e48⟩ := hQ48
      have N48 := Fr.app N47 (Fr.nil _)
      refine Go.tr st48 ?_
      show Go p e below _ (T48.setTop (mkF m 101 #[.val (.int k), .val (.int ((k &&& (2147483647 : Int32)) % (3 : Int32))), .val (.ref w_CREDENTIAL_EXPIRED), .val (.ref b36), .val (.ref b_40), .val (.ref b_45), .unset] [(.ref b36)]))
      obtain ⟨T49, X49, e49, st49⟩ := castY X48 hx hZ40 hown40 (hw _ (List.mem_of_getElem? (i := 4) rfl)) e48 (Ins.self A36_h46) (g := (mkF m 101 #[.val (.int k), .val (.int ((k &&& (2147483647 : Int32)) % (3 : Int32))), .val (.ref w_CREDENTIAL_EXPIRED), .val (.ref b36), .val (.ref b_40), .val (.ref b_45), .unset] [(.ref b36)])) rfl rfl (hb hby at_101)
      refine Go.st st49 ?_
      show Go p e below _ (T49.setTop (mkF m 104 #[.val (.int k), .val (.int ((k &&& (2147483647 : Int32)) % (3 : Int32))), .val (.ref w_CREDENTIAL_EXPIRED), .val (.ref b36), .val (.ref b_40), .val (.ref b_45), .unset] [(.ref b36)]))
      refine Go.st (fun t' k' => XS.astore X49.here hx rfl (hb hby at_104) rfl rfl (l' := #[.val (.int k), .val (.int ((k &&& (2147483647 : Int32)) % (3 : Int32))), .val (.ref w_CREDENTIAL_EXPIRED), .val (.ref b36), .val (.ref b_40), .val (.ref b_45), .val (.ref b36)]) rfl k') ?_
      show Go p e below _ (T49.setTop (mkF m 106 #[.val (.int k), .val (.int ((k &&& (2147483647 : Int32)) % (3 : Int32))), .val (.ref w_CREDENTIAL_EXPIRED), .val (.ref b36), .val (.ref b_40), .val (.ref b_45), .val (.ref b36)] []))
      refine Go.st (fun t' k' => XS.aload X49.here hx rfl (hb hby at_106) rfl rfl k') ?_
      show Go p e below _ (T49.setTop (mkF m 108 #[.val (.int k), .val (.int ((k &&& (2147483647 : Int32)) % (3 : Int32))), .val (.ref w_CREDENTIAL_EXPIRED), .val (.ref b36), .val (.ref b_40), .val (.ref b_45), .val (.ref b36)] [(.ref b36)]))
      refine Go.st (fun t' k' => XS.aloadN X49.here hx rfl (hb hby at_108) rfl rfl k') ?_
      show Go p e below _ (T49.setTop (mkF m 109 #[.val (.int k), .val (.int ((k &&& (2147483647 : Int32)) % (3 : Int32))), .val (.ref w_CREDENTIAL_EXPIRED), .val (.ref b36), .val (.ref b_40), .val (.ref b_45), .val (.ref b36)] [(.ref b36), (.ref b36)]))
      refine Go.st (fun t' k' => Jvm.RoadKit.acmp (g := (mkF m 109 #[.val (.int k), .val (.int ((k &&& (2147483647 : Int32)) % (3 : Int32))), .val (.ref w_CREDENTIAL_EXPIRED), .val (.ref b36), .val (.ref b_40), .val (.ref b_45), .val (.ref b36)] [(.ref b36), (.ref b36)])) X49 hx rfl rfl rfl (pc0 := 109) (pc' := 112) (same := true) rfl (hb hby at_109) rfl (decide_eq_true rfl) (by decide) (by decide) k') ?_
      show Go p e below _ (T49.setTop (mkF m 112 #[.val (.int k), .val (.int ((k &&& (2147483647 : Int32)) % (3 : Int32))), .val (.ref w_CREDENTIAL_EXPIRED), .val (.ref b36), .val (.ref b_40), .val (.ref b_45), .val (.ref b36)] []))
      refine Go.st (fun t' k' => XS.aload X49.here hx rfl (hb hby at_112) rfl rfl k') ?_
      show Go p e below _ (T49.setTop (mkF m 114 #[.val (.int k), .val (.int ((k &&& (2147483647 : Int32)) % (3 : Int32))), .val (.ref w_CREDENTIAL_EXPIRED), .val (.ref b36), .val (.ref b_40), .val (.ref b_45), .val (.ref b36)] [(.ref b36)]))
      obtain ⟨cq50, kq50, q50a, q50b, q50c⟩ := isOf hZ40 e49 A36_h46
      obtain ⟨_, _, ⟨T50, L50, k50, n50⟩, -, X50, ⟨Lc50, hQ50, l50, y50, z50⟩, st50⟩ := X49.virtualBack hx (y := (⟨"com/example/claim/claim/model/CredentialRefusal", "reason", "()Lcom/example/claim/claim/model/CredentialRefusalReason;"⟩ : MethodName)) (z := (⟨"com/example/claim/claim/model/CredentialRefusal", "reason", "()Lcom/example/claim/claim/model/CredentialRefusalReason;"⟩ : MethodName)) hown40 (mvT hZ40 (hw _ (List.mem_of_getElem? (i := 89) rfl))) (mvT hZ40 (hw _ (List.mem_of_getElem? (i := 90) rfl))) (notFace_of_selects (args := #[]) (mvT hZ40 (hw _ (List.mem_of_getElem? (i := 92) rfl)))) (mvT hZ40 (hw _ (List.mem_of_getElem? (i := 92) rfl))) (mvT hZ40 (hw _ (List.mem_of_getElem? (i := 91) rfl))) (by decide) (backOf (W := 0) (rmRs l Z a0 hw [] b36 w_CREDENTIAL_EXPIRED T45.heap O45 Pr_38_h46) hZ40 (hw _ (List.mem_of_getElem? (i := 93) rfl)) (hw _ (List.mem_of_getElem? (i := 6) rfl)) (by decide) (by decide)) q50a q50c (g := (mkF m 114 #[.val (.int k), .val (.int ((k &&& (2147483647 : Int32)) % (3 : Int32))), .val (.ref w_CREDENTIAL_EXPIRED), .val (.ref b36), .val (.ref b_40), .val (.ref b_45), .val (.ref b36)] [(.ref b36)])) rfl (by rw [hml]; rfl) (Steps.refl _) (argsL := []) (rest := []) (lenOf pd___Lcom_example_claim_claim_model_CredentialRefusalReason_ rfl) rfl (by show 2 * 0 + _ ≤ _; exact Nat.le_of_eq rfl) (hb hby at_114) (fun _ _ => ⟨rfl, e49, (by decide : 7 + 0 ≤ _), (by decide : 64 + 0 ≤ _)⟩)
      dsimp only [Pt.U, Pt.locs, Pt.cells, Pt.slots] at X50 l50 y50 z50 st50 hQ50
      subst l50 y50 z50
      obtain ⟨rfl, rfl, e50⟩ := hQ50
      have N50 := Fr.app N48 (Fr.nil _)
      refine Go.tr st50 ?_
      show Go p e below _ (T50.setTop (mkF m 117 #[.val (.int k), .val (.int ((k &&& (2147483647 : Int32)) % (3 : Int32))), .val (.ref w_CREDENTIAL_EXPIRED), .val (.ref b36), .val (.ref b_40), .val (.ref b_45), .val (.ref b36)] [(.ref w_CREDENTIAL_EXPIRED)]))
      refine Go.st (fun t' k' => XS.aloadN X50.here hx rfl (hb hby at_117) rfl rfl k') ?_
      show Go p e below _ (T50.setTop (mkF m 118 #[.val (.int k), .val (.int ((k &&& (2147483647 : Int32)) % (3 : Int32))), .val (.ref w_CREDENTIAL_EXPIRED), .val (.ref b36), .val (.ref b_40), .val (.ref b_45), .val (.ref b36)] [(.ref w_CREDENTIAL_EXPIRED), (.ref w_CREDENTIAL_EXPIRED)]))
      refine Go.st (fun t' k' => Jvm.RoadKit.acmp (g := (mkF m 118 #[.val (.int k), .val (.int ((k &&& (2147483647 : Int32)) % (3 : Int32))), .val (.ref w_CREDENTIAL_EXPIRED), .val (.ref b36), .val (.ref b_40), .val (.ref b_45), .val (.ref b36)] [(.ref w_CREDENTIAL_EXPIRED), (.ref w_CREDENTIAL_EXPIRED)])) X50 hx rfl rfl rfl (pc0 := 118) (pc' := 121) (same := true) rfl (hb hby at_118) rfl (decide_eq_true rfl) (by decide) (by decide) k') ?_
      show Go p e below _ (T50.setTop (mkF m 121 #[.val (.int k), .val (.int ((k &&& (2147483647 : Int32)) % (3 : Int32))), .val (.ref w_CREDENTIAL_EXPIRED), .val (.ref b36), .val (.ref b_40), .val (.ref b_45), .val (.ref b36)] []))
      refine Go.st (fun t' k' => XS.iconst X50.here hx rfl (hb hby at_121) k') ?_
      show Go p e below _ (T50.setTop (mkF m 122 #[.val (.int k), .val (.int ((k &&& (2147483647 : Int32)) % (3 : Int32))), .val (.ref w_CREDENTIAL_EXPIRED), .val (.ref b36), .val (.ref b_40), .val (.ref b_45), .val (.ref b36)] [(.int (1 : Int32))]))
      refine Go.st (fun t' k' => XS.goto X50.here hx rfl (pc0 := 122) (pc' := 126) rfl (hb hby at_122) (by decide) (by decide) k') ?_
      show Go p e below _ (T50.setTop (mkF m 126 #[.val (.int k), .val (.int ((k &&& (2147483647 : Int32)) % (3 : Int32))), .val (.ref w_CREDENTIAL_EXPIRED), .val (.ref b36), .val (.ref b_40), .val (.ref b_45), .val (.ref b36)] [(.int (1 : Int32))]))
      exact Go.outW X50 hS40 (by rw [e50]; exact hk45) (v := (some (.int (1 : Int32)))) (fun h => by rw [hret] at h; cases h) hlk (fun fs hr => retN X50 hx (t := .boolean) hret (by simp) (hb hby at_126) hr) (Q := Q_rm0 Z k w_UNAUTHENTICATED w_CREDENTIAL_REVOKED w_CREDENTIAL_EXPIRED w_EMPTY h0) (by rw [e50]; exact ⟨rfl, N50⟩) (by decide) (by decide)
set_option maxRecDepth 65536 in
set_option maxHeartbeats 40000000 in
theorem comes_1 {Post : Tables → Env → Array Value → State → Outcome → State → Prop} (hpost : ∀ tb e args s v u, (limb_1_1.after args s (.returned v) u = true ∧ limb_1_2.after args s (.returned v) u = true ∧ True) → ReturnedEndW s (.returned v) u (Jvm.fieldLocs frame_1_writes args s ++ Jvm.arrayLocs frame_1_arrays args s ++ Jvm.staticLocs frame_1_statics s) 24 2176 → Post tb e args s (.returned v) u) :
    ArmFor flags0 classFile x code maxLocals ret World_1 tables_1 room_1 Calls_1 rest_1 Pre_1 Post := by
  intro l hfl _ _ p e ha hc hk s m args below hf hA hF happ hP
  obtain ⟨hcalls, hrest, hpre⟩ := hP
  obtain ⟨-, -, -, hnamed, -, -, -, hat⟩ := (Spec.applies_iff hf).mp happ
  obtain ⟨hg, hn⟩ := and_e (Cond.before_iff.mp (show (Jvm.Cond.and given_1 narrow_1).before args s = true from hpre))
  obtain ⟨c1, c2⟩ := and_e hg
  obtain ⟨w0, rfl⟩ : ∃ w0 : Value, args = #[w0] := by
    have hs : args.size = 1 := by simpa [Cond.value, given_1] using c1
    obtain ⟨L⟩ := args
    match L, hs with
    | [w0], _ => exact ⟨w0, rfl⟩
  have hw := fun d (hd : d ∈ tables_1) => atoms_spec (ws := Jvm.Cond.code x code maxLocals ret :: tables_1) hat d (List.mem_cons_of_mem _ hd)
  have hfit : Fit s := fun {y c} hc i hi => by
    obtain ⟨ha, rfl⟩ := Array.getElem?_eq_some_iff.mp hc
    have q := List.all_eq_true.mp ((Array.all_eq_true_iff_forall_mem.mp hF) _ (Array.getElem_mem ha)) i (List.mem_range.mpr hi)
    simpa [Array.getElem?_eq_getElem hi] using q
  obtain ⟨i0, ei0⟩ := is_v c2
  obtain rfl : w0 = (.int i0) := Option.some.inj ei0
  obtain ⟨c3, c4⟩ := and_e hn
  obtain ⟨c5, c6⟩ := and_e c4
  obtain ⟨hsets, hown0⟩ := atoms_of _ (rest_1_c_eq ▸ (show rest_1_c.before _ s = true from hrest))
  have hr0 := Cond.before_iff.mp hown0
  obtain ⟨w_UNAUTHENTICATED, ev_UNAUTHENTICATED⟩ := exa_v c3
  have S_UNAUTHENTICATED := Sta.start ev_UNAUTHENTICATED (Or.inr ⟨(hw _ (List.mem_of_getElem? (i := 2) rfl)), (hw _ (List.mem_of_getElem? (i := 3) rfl))⟩)
  have E_UNAUTHENTICATED := Exa.start ev_UNAUTHENTICATED c3
  obtain ⟨w_CREDENTIAL_EXPIRED, ev_CREDENTIAL_EXPIRED⟩ := exa_v c5
  have S_CREDENTIAL_EXPIRED := Sta.start ev_CREDENTIAL_EXPIRED (Or.inr ⟨(hw _ (List.mem_of_getElem? (i := 2) rfl)), (hw _ (List.mem_of_getElem? (i := 95) rfl))⟩)
  have E_CREDENTIAL_EXPIRED := Exa.start ev_CREDENTIAL_EXPIRED c5
  obtain ⟨w_CREDENTIAL_REVOKED, ev_CREDENTIAL_REVOKED⟩ := exa_v c6
  have S_CREDENTIAL_REVOKED := Sta.start ev_CREDENTIAL_REVOKED (Or.inr ⟨(hw _ (List.mem_of_getElem? (i := 2) rfl)), (hw _ (List.mem_of_getElem? (i := 97) rfl))⟩)
  have E_CREDENTIAL_REVOKED := Exa.start ev_CREDENTIAL_REVOKED c6
  obtain ⟨w_EMPTY, ev_EMPTY⟩ := exa_v (Cond.before_iff.mp (hsets _ (List.mem_of_getElem? (i := 2) rfl)))
  have S_EMPTY := Sta.start ev_EMPTY (Or.inr ⟨(hw _ (List.mem_of_getElem? (i := 62) rfl)), hsets _ (List.mem_of_getElem? (i := 0) rfl)⟩)
  have E_EMPTY := Exa.start ev_EMPTY (Cond.before_iff.mp (hsets _ (List.mem_of_getElem? (i := 2) rfl)))
  have F_EMPTY_value := own_fldN ev_EMPTY (Cond.before_iff.mp (hsets _ (List.mem_of_getElem? (i := 3) rfl)))
  obtain ⟨n, o, h1, h2, h3, _, L, rfl, ⟨rfl, N⟩, hq⟩ := rm0 l s _ hw tables_1 i0 w_UNAUTHENTICATED w_CREDENTIAL_REVOKED w_CREDENTIAL_EXPIRED w_EMPTY s.heap (own_ext_refl _) S_UNAUTHENTICATED S_CREDENTIAL_REVOKED S_CREDENTIAL_EXPIRED S_EMPTY E_EMPTY F_EMPTY_value p e ha hc hk s m _ below hf ((Spec.applies_iff_loose hf).mp happ).1 ⟨rfl, State.Warmed39.refl s, rfl⟩ trivial
  refine ⟨n, _, h1, h2, h3, hpost _ _ _ _ _ _ ⟨Cond.after_iff.mpr rfl, Cond.after_iff.mpr (eq_i res_at (Term.int_eval (1)) rfl), trivial⟩ ⟨hq.1, hq.2.1, hq.2.2.1, (hq.2.2.2.sift fun y hy => Or.inr (N y hy)).mono (by decide) (by decide)⟩⟩
theorem main_1_1 : Claimed_1_1 := comes_1 fun _ _ _ _ _ _ h hF => ⟨h.1, hF⟩
theorem main_1_2 : Claimed_1_2 := comes_1 fun _ _ _ _ _ _ h hF => ⟨h.2.1, hF⟩
end Jvm.Pilot.@@N@@
namespace Jvm.Pilot.@@N@@
open Jvm Jvm.ClassFile Sem Op Lib Jvm.Free Jvm.Stand Jvm.Pilot.@@N@@.Jvm.D
/-! MADE BY PROGRAM (witnessworld.py) out of the Statement's table words and the real class files: 20 classes; the members and pool entries that the words name. The judged class is class 1, her method 1. -/
namespace start1
open Jvm.ClassFile
def u (s : String) : CpInfo := .utf8 (stringToUtf16 s)
/-- a pool by its gaps: so many unusable entries, then the entry; so many at the end -/
def gap : Nat → List CpInfo → List CpInfo
  | 0, r => r
  | n + 1, r => .unusable :: gap n r
def poolList (es : List (Nat × CpInfo)) (last : Nat) : List CpInfo := es.foldr (fun e r => gap e.1 (e.2 :: r)) (gap last [])
def pool (es : List (Nat × CpInfo)) (last : Nat) : Array CpInfo := ⟨poolList es last⟩
def fileOf (pool : Array CpInfo) (this : Nat) (attrs : Array Attribute := #[]) (ms : Array MethodInfo := #[]) (fl : Nat := 33) (sup : Nat := 0) (ifs : Array Nat := #[]) (fds : Array FieldInfo := #[]) : ClassFile where
  minorVersion := 0
  majorVersion := 65
  constantPool := pool
  accessFlags := fl
  thisClass := this
  superClass := sup
  interfaces := ifs
  fields := fds
  methods := ms
  attributes := attrs
def plain (name : String) (sup : Option ClassId) : Class where
  name := name
  kind := .ordinary
  loader := none
  accessFlags := 33
  super := sup
  interfaces := #[]
  cf := none
  fields := #[]
  methods := #[]
  instanceTypes := #[]
  staticTypes := #[]
  resolved := #[]
  callSites := []
  init := .initialized
  statics := none
  mirror := none

def pool0 : Array CpInfo := pool [(5, u "<init>"), (0, u "()V"), (1, .class_ 10), (1, u "java/lang/Object")] 113

def k0c0 : Code := { maxStack := 0, maxLocals := 1, code := object_method_1_code, exceptionTable := #[], attributes := #[] }
def k0m0 : Method := { name := "<init>", desc := "()V", sig := { parameters := [], returnType := none }, accessFlags := 1, code := some k0c0 }
/-- java/lang/Object -/
def k0 : Class := { plain "java/lang/Object" none with
  accessFlags := 33
  interfaces := #[]
  cf := some (fileOf pool0 8 #[] #[{ accessFlags := 1, nameIndex := 5, descriptorIndex := 6, attributes := #[] }] 33 0 #[] #[])
  fields := #[]
  methods := #[k0m0]
  instanceTypes := #[]
  staticTypes := #[]
  resolved := Array.replicate 124 none
  statics := none }

def pool1 : Array CpInfo := pool [(2, .class_ 4), (1, u "java/lang/Object"), (0, u "<init>"), (0, u "()V"), (0, .integer 2147483647), (0, .fieldref 9 10), (0, .class_ 11), (0, .nameAndType 12 13), (0, u "com/example/claim/claim/model/CredentialRefusalReason"), (0, u "UNAUTHENTICATED"), (0, u "Lcom/example/claim/claim/model/CredentialRefusalReason;"), (0, .fieldref 9 15), (0, .nameAndType 16 13), (0, u "CREDENTIAL_REVOKED"), (0, .fieldref 9 18), (0, .nameAndType 19 13), (0, u "CREDENTIAL_EXPIRED"), (0, .class_ 21), (0, u "com/example/claim/claim/model/CredentialRefusal"), (0, .methodref 20 23), (0, .nameAndType 5 24), (0, u "(Lcom/example/claim/claim/model/CredentialRefusalReason;)V"), (0, .methodref 26 27), (0, .class_ 28), (0, .nameAndType 29 30), (0, u "com/example/claim/claim/model/CredentialResult"), (0, u "refused"), (0, u "(Lcom/example/claim/claim/model/CredentialRefusal;)Lcom/example/claim/claim/model/CredentialResult;"), (0, .methodref 26 32), (0, .nameAndType 33 34), (0, u "isAccepted"), (0, u "()Z"), (0, .methodref 26 36), (0, .nameAndType 37 38), (0, u "principal"), (0, u "()Ljava/util/Optional;"), (0, .methodref 40 41), (0, .class_ 42), (0, .nameAndType 43 34), (0, u "java/util/Optional"), (0, u "isPresent"), (0, .methodref 26 45), (0, .nameAndType 46 38), (0, u "refusal"), (0, .methodref 40 48), (0, .nameAndType 49 50), (0, u "get"), (0, u "()Ljava/lang/Object;"), (0, .methodref 20 52), (0, .nameAndType 53 54), (0, u "reason"), (0, u "()Lcom/example/claim/claim/model/CredentialRefusalReason;"), (0, .class_ 56), (0, u "com/example/claim/claim/model/CredentialResultRefusedPinLaw"), (2, u "law"), (0, u "(I)Z")] 3

def k1m0 : Method := { name := "<init>", desc := "()V", sig := { parameters := [], returnType := none }, accessFlags := 1, code := none }
def k1c1 : Code := { maxStack := 3, maxLocals := 7, code := code, exceptionTable := #[], attributes := #[] }
def k1m1 : Method := { name := "law", desc := "(I)Z", sig := { parameters := [.int], returnType := some .boolean }, accessFlags := 9, code := some k1c1 }
/-- com/example/claim/claim/model/CredentialResultRefusedPinLaw -/
def k1 : Class := { plain "com/example/claim/claim/model/CredentialResultRefusedPinLaw" (some 0) with
  accessFlags := 49
  interfaces := #[]
  cf := some (fileOf pool1 55 #[] #[{ accessFlags := 1, nameIndex := 5, descriptorIndex := 6, attributes := #[] }, { accessFlags := 9, nameIndex := 59, descriptorIndex := 60, attributes := #[] }] 49 2 #[] #[])
  fields := #[]
  methods := #[k1m0, k1m1]
  instanceTypes := #[]
  staticTypes := #[]
  resolved := Array.replicate 64 none
  statics := none }

def pool2 : Array CpInfo := pool [(1, .class_ 2), (0, u "java/lang/constant/Constable"), (0, .class_ 4), (0, u "java/lang/Object")] 6

/-- java/lang/constant/Constable -/
def k2 : Class := { plain "java/lang/constant/Constable" (some 0) with
  accessFlags := 1537
  interfaces := #[]
  cf := some (fileOf pool2 1 #[] #[] 1537 3 #[] #[])
  fields := #[]
  methods := #[]
  instanceTypes := #[]
  staticTypes := #[]
  resolved := Array.replicate 11 none
  statics := none }

def pool3 : Array CpInfo := pool [(1, .class_ 2), (0, u "java/lang/Comparable"), (0, .class_ 4), (0, u "java/lang/Object")] 7

/-- java/lang/Comparable -/
def k3 : Class := { plain "java/lang/Comparable" (some 0) with
  accessFlags := 1537
  interfaces := #[]
  cf := some (fileOf pool3 1 #[] #[] 1537 3 #[] #[])
  fields := #[]
  methods := #[]
  instanceTypes := #[]
  staticTypes := #[]
  resolved := Array.replicate 12 none
  statics := none }

def pool4 : Array CpInfo := pool [(1, .class_ 2), (0, u "java/io/Serializable"), (0, .class_ 4), (0, u "java/lang/Object")] 2

/-- java/io/Serializable -/
def k4 : Class := { plain "java/io/Serializable" (some 0) with
  accessFlags := 1537
  interfaces := #[]
  cf := some (fileOf pool4 1 #[] #[] 1537 3 #[] #[])
  fields := #[]
  methods := #[]
  instanceTypes := #[]
  staticTypes := #[]
  resolved := Array.replicate 7 none
  statics := none }

def pool5 : Array CpInfo := pool [(2, .class_ 4), (1, u "java/lang/Enum"), (0, u "name"), (0, u "Ljava/lang/String;"), (2, u "ordinal"), (0, u "I"), (1, .class_ 14), (1, u "java/lang/Object"), (4, u "hash"), (86, .class_ 108), (1, u "java/lang/Enum$EnumDesc"), (2, .class_ 112), (0, u "java/lang/constant/Constable"), (0, .class_ 114), (0, u "java/lang/Comparable"), (0, .class_ 116), (0, u "java/io/Serializable")] 87

/-- java/lang/Enum -/
def k5 : Class := { plain "java/lang/Enum" (some 0) with
  accessFlags := 1057
  interfaces := #[2, 3, 4]
  cf := some (fileOf pool5 2 #[.nestMembers #[106]] #[] 1057 12 #[111, 113, 115] #[{ accessFlags := 18, nameIndex := 5, descriptorIndex := 6, attributes := #[] }, { accessFlags := 18, nameIndex := 9, descriptorIndex := 10, attributes := #[] }, { accessFlags := 2, nameIndex := 19, descriptorIndex := 10, attributes := #[] }])
  fields := #[{ name := "name", type := (.object "java/lang/String"), accessFlags := 18, slot := 0, constantValue := 0 }, { name := "ordinal", type := .int, accessFlags := 18, slot := 1, constantValue := 0 }, { name := "hash", type := .int, accessFlags := 2, slot := 2, constantValue := 0 }]
  methods := #[]
  instanceTypes := #[(.object "java/lang/String"), .int, .int]
  staticTypes := #[]
  resolved := Array.replicate 204 none
  statics := none }

def pool6 : Array CpInfo := pool [(1, .class_ 2), (0, u "com/example/claim/claim/model/CredentialRefusalReason"), (2, u "UNAUTHENTICATED"), (0, u "Lcom/example/claim/claim/model/CredentialRefusalReason;"), (2, u "CREDENTIAL_REVOKED"), (2, u "CREDENTIAL_EXPIRED"), (2, u "$VALUES"), (0, u "[Lcom/example/claim/claim/model/CredentialRefusalReason;"), (6, .class_ 25), (1, u "java/lang/Enum")] 25

/-- com/example/claim/claim/model/CredentialRefusalReason -/
def k6 : Class := { plain "com/example/claim/claim/model/CredentialRefusalReason" (some 5) with
  accessFlags := 16433
  interfaces := #[]
  cf := some (fileOf pool6 1 #[] #[] 16433 23 #[] #[{ accessFlags := 16409, nameIndex := 5, descriptorIndex := 6, attributes := #[] }, { accessFlags := 16409, nameIndex := 9, descriptorIndex := 6, attributes := #[] }, { accessFlags := 16409, nameIndex := 12, descriptorIndex := 6, attributes := #[] }, { accessFlags := 4122, nameIndex := 15, descriptorIndex := 16, attributes := #[] }])
  fields := #[{ name := "UNAUTHENTICATED", type := (.object "com/example/claim/claim/model/CredentialRefusalReason"), accessFlags := 16409, slot := 0, constantValue := 0 }, { name := "CREDENTIAL_REVOKED", type := (.object "com/example/claim/claim/model/CredentialRefusalReason"), accessFlags := 16409, slot := 1, constantValue := 0 }, { name := "CREDENTIAL_EXPIRED", type := (.object "com/example/claim/claim/model/CredentialRefusalReason"), accessFlags := 16409, slot := 2, constantValue := 0 }, { name := "$VALUES", type := (.array (.object "com/example/claim/claim/model/CredentialRefusalReason")), accessFlags := 4122, slot := 3, constantValue := 0 }]
  methods := #[]
  instanceTypes := #[(.object "java/lang/String"), .int, .int]
  staticTypes := #[(.object "com/example/claim/claim/model/CredentialRefusalReason"), (.object "com/example/claim/claim/model/CredentialRefusalReason"), (.object "com/example/claim/claim/model/CredentialRefusalReason"), (.array (.object "com/example/claim/claim/model/CredentialRefusalReason"))]
  resolved := Array.replicate 51 none
  statics := some 0 }

def pool7 : Array CpInfo := pool [(1, .methodref 2 3), (0, .class_ 4), (0, .nameAndType 5 6), (0, u "java/lang/Object"), (0, u "<init>"), (0, u "()V"), (0, .class_ 8), (0, u "java/lang/Record")] 13

def k7c0 : Code := { maxStack := 1, maxLocals := 1, code := jdk_30_method_1_code, exceptionTable := #[], attributes := #[] }
def k7m0 : Method := { name := "<init>", desc := "()V", sig := { parameters := [], returnType := none }, accessFlags := 4, code := some k7c0 }
/-- java/lang/Record -/
def k7 : Class := { plain "java/lang/Record" (some 0) with
  accessFlags := 1057
  interfaces := #[]
  cf := some (fileOf pool7 7 #[] #[{ accessFlags := 4, nameIndex := 5, descriptorIndex := 6, attributes := #[] }] 1057 2 #[] #[])
  fields := #[]
  methods := #[k7m0]
  instanceTypes := #[]
  staticTypes := #[]
  resolved := Array.replicate 22 none
  statics := none }

def pool8 : Array CpInfo := pool [(1, .methodref 2 3), (0, .class_ 4), (0, .nameAndType 5 6), (0, u "java/lang/Record"), (0, u "<init>"), (0, u "()V"), (0, .string 8), (0, u "reason"), (0, .methodref 10 11), (0, .class_ 12), (0, .nameAndType 13 14), (0, u "java/util/Objects"), (0, u "requireNonNull"), (0, u "(Ljava/lang/Object;Ljava/lang/String;)Ljava/lang/Object;"), (0, .fieldref 16 17), (0, .class_ 18), (0, .nameAndType 8 19), (0, u "com/example/claim/claim/model/CredentialRefusal"), (0, u "Lcom/example/claim/claim/model/CredentialRefusalReason;"), (12, u "(Lcom/example/claim/claim/model/CredentialRefusalReason;)V"), (6, u "()Lcom/example/claim/claim/model/CredentialRefusalReason;")] 18

def k8c0 : Code := { maxStack := 2, maxLocals := 2, code := prog_41_method_1_code, exceptionTable := #[], attributes := #[] }
def k8m0 : Method := { name := "<init>", desc := "(Lcom/example/claim/claim/model/CredentialRefusalReason;)V", sig := { parameters := [(.object "com/example/claim/claim/model/CredentialRefusalReason")], returnType := none }, accessFlags := 1, code := some k8c0 }
def k8c1 : Code := { maxStack := 1, maxLocals := 1, code := prog_41_method_5_code, exceptionTable := #[], attributes := #[] }
def k8m1 : Method := { name := "reason", desc := "()Lcom/example/claim/claim/model/CredentialRefusalReason;", sig := { parameters := [], returnType := some (.object "com/example/claim/claim/model/CredentialRefusalReason") }, accessFlags := 1, code := some k8c1 }
/-- com/example/claim/claim/model/CredentialRefusal -/
def k8 : Class := { plain "com/example/claim/claim/model/CredentialRefusal" (some 7) with
  accessFlags := 49
  interfaces := #[]
  cf := some (fileOf pool8 16 #[] #[{ accessFlags := 1, nameIndex := 5, descriptorIndex := 32, attributes := #[] }, { accessFlags := 1, nameIndex := 8, descriptorIndex := 39, attributes := #[] }] 49 2 #[] #[{ accessFlags := 18, nameIndex := 8, descriptorIndex := 19, attributes := #[] }])
  fields := #[{ name := "reason", type := (.object "com/example/claim/claim/model/CredentialRefusalReason"), accessFlags := 18, slot := 0, constantValue := 0 }]
  methods := #[k8m0, k8m1]
  instanceTypes := #[(.object "com/example/claim/claim/model/CredentialRefusalReason")]
  staticTypes := #[]
  resolved := Array.replicate 58 none
  statics := none }

def pool9 : Array CpInfo := pool [(2, .class_ 4), (1, u "java/lang/CharSequence"), (42, .class_ 48), (0, u "java/lang/CharSequence$1CodePointIterator"), (10, .class_ 60), (0, u "java/lang/CharSequence$1CharIterator"), (5, .class_ 67), (0, u "java/lang/Object")] 63

/-- java/lang/CharSequence -/
def k9 : Class := { plain "java/lang/CharSequence" (some 0) with
  accessFlags := 1537
  interfaces := #[]
  cf := some (fileOf pool9 2 #[.nestMembers #[47, 59]] #[] 1537 66 #[] #[])
  fields := #[]
  methods := #[]
  instanceTypes := #[]
  staticTypes := #[]
  resolved := Array.replicate 131 none
  statics := none }

def pool10 : Array CpInfo := pool [(1, .class_ 2), (0, u "java/lang/constant/ConstantDesc"), (0, .class_ 4), (0, u "java/lang/Object")] 32

/-- java/lang/constant/ConstantDesc -/
def k10 : Class := { plain "java/lang/constant/ConstantDesc" (some 0) with
  accessFlags := 1537
  interfaces := #[]
  cf := some (fileOf pool10 1 #[] #[] 1537 3 #[] #[])
  fields := #[]
  methods := #[]
  instanceTypes := #[]
  staticTypes := #[]
  resolved := Array.replicate 37 none
  statics := none }

def pool11 : Array CpInfo := pool [(2, .class_ 4), (1, u "java/lang/Object"), (0, u "<init>"), (0, u "()V"), (3, .class_ 12), (1, u "java/lang/String"), (0, u "value"), (0, u "[B"), (2, u "coder"), (0, u "B"), (2, u "hash"), (0, u "I"), (2, u "hashIsZero"), (0, u "Z"), (13, u "COMPACT_STRINGS"), (534, .class_ 576), (0, u "java/lang/CharSequence"), (22, u "CASE_INSENSITIVE_ORDER"), (0, u "Ljava/util/Comparator;"), (500, u "serialPersistentFields"), (0, u "[Ljava/io/ObjectStreamField;"), (0, .class_ 1104), (0, u "java/lang/String$CaseInsensitiveComparator"), (1, .class_ 1107), (0, u "java/io/Serializable"), (0, .class_ 1109), (0, u "java/lang/Comparable"), (0, .class_ 1111), (0, u "java/lang/constant/Constable"), (0, .class_ 1113), (0, u "java/lang/constant/ConstantDesc"), (2, u "serialVersionUID"), (0, u "J"), (3, u "REPL"), (0, u "C"), (2, u "LATIN1"), (1, u "UTF16")] 323

def k11m0 : Method := { name := "<init>", desc := "()V", sig := { parameters := [], returnType := none }, accessFlags := 1, code := none }
/-- java/lang/String -/
def k11 : Class := { plain "java/lang/String" (some 0) with
  accessFlags := 49
  interfaces := #[4, 3, 9, 2, 10]
  cf := some (fileOf pool11 10 #[.nestMembers #[1103]] #[{ accessFlags := 1, nameIndex := 5, descriptorIndex := 6, attributes := #[] }] 49 2 #[1106, 1108, 575, 1110, 1112] #[{ accessFlags := 18, nameIndex := 13, descriptorIndex := 14, attributes := #[] }, { accessFlags := 18, nameIndex := 17, descriptorIndex := 18, attributes := #[] }, { accessFlags := 2, nameIndex := 21, descriptorIndex := 22, attributes := #[] }, { accessFlags := 2, nameIndex := 25, descriptorIndex := 26, attributes := #[] }, { accessFlags := 26, nameIndex := 1116, descriptorIndex := 1117, attributes := #[] }, { accessFlags := 24, nameIndex := 40, descriptorIndex := 26, attributes := #[] }, { accessFlags := 26, nameIndex := 1101, descriptorIndex := 1102, attributes := #[] }, { accessFlags := 26, nameIndex := 1121, descriptorIndex := 1122, attributes := #[] }, { accessFlags := 25, nameIndex := 599, descriptorIndex := 600, attributes := #[] }, { accessFlags := 24, nameIndex := 1125, descriptorIndex := 18, attributes := #[] }, { accessFlags := 24, nameIndex := 1127, descriptorIndex := 18, attributes := #[] }])
  fields := #[{ name := "value", type := (.array .byte), accessFlags := 18, slot := 0, constantValue := 0 }, { name := "coder", type := .byte, accessFlags := 18, slot := 1, constantValue := 0 }, { name := "hash", type := .int, accessFlags := 2, slot := 2, constantValue := 0 }, { name := "hashIsZero", type := .boolean, accessFlags := 2, slot := 3, constantValue := 0 }, { name := "serialVersionUID", type := .long, accessFlags := 26, slot := 0, constantValue := 0 }, { name := "COMPACT_STRINGS", type := .boolean, accessFlags := 24, slot := 1, constantValue := 0 }, { name := "serialPersistentFields", type := (.array (.object "java/io/ObjectStreamField")), accessFlags := 26, slot := 2, constantValue := 0 }, { name := "REPL", type := .char, accessFlags := 26, slot := 3, constantValue := 0 }, { name := "CASE_INSENSITIVE_ORDER", type := (.object "java/util/Comparator"), accessFlags := 25, slot := 4, constantValue := 0 }, { name := "LATIN1", type := .byte, accessFlags := 24, slot := 5, constantValue := 0 }, { name := "UTF16", type := .byte, accessFlags := 24, slot := 6, constantValue := 0 }]
  methods := #[k11m0]
  instanceTypes := #[(.array .byte), .byte, .int, .boolean]
  staticTypes := #[.long, .boolean, (.array (.object "java/io/ObjectStreamField")), .char, (.object "java/util/Comparator"), .byte, .byte]
  resolved := Array.replicate 1451 none
  statics := none }

def pool12 : Array CpInfo := pool [(2, .class_ 4), (1, u "java/lang/Object"), (0, u "<init>"), (0, u "()V"), (35, .class_ 44), (1, u "java/util/Objects"), (0, u "requireNonNull"), (48, u "(Ljava/lang/Object;Ljava/lang/String;)Ljava/lang/Object;")] 89

def k12m0 : Method := { name := "<init>", desc := "()V", sig := { parameters := [], returnType := none }, accessFlags := 2, code := none }
def k12c1 : Code := { maxStack := 3, maxLocals := 2, code := jdk_31_method_11_code, exceptionTable := #[], attributes := #[] }
def k12m1 : Method := { name := "requireNonNull", desc := "(Ljava/lang/Object;Ljava/lang/String;)Ljava/lang/Object;", sig := { parameters := [(.object "java/lang/Object"), (.object "java/lang/String")], returnType := some (.object "java/lang/Object") }, accessFlags := 9, code := some k12c1 }
/-- java/util/Objects -/
def k12 : Class := { plain "java/util/Objects" (some 0) with
  accessFlags := 49
  interfaces := #[]
  cf := some (fileOf pool12 42 #[] #[{ accessFlags := 2, nameIndex := 5, descriptorIndex := 6, attributes := #[] }, { accessFlags := 9, nameIndex := 45, descriptorIndex := 94, attributes := #[] }] 49 2 #[] #[])
  fields := #[]
  methods := #[k12m0, k12m1]
  instanceTypes := #[]
  staticTypes := #[]
  resolved := Array.replicate 184 none
  statics := none }

def pool13 : Array CpInfo := pool [(1, .methodref 2 3), (0, .class_ 4), (0, .nameAndType 5 6), (0, u "java/lang/Object"), (0, u "<init>"), (0, u "()V"), (0, .fieldref 8 9), (0, .class_ 10), (0, .nameAndType 11 12), (0, u "com/example/claim/claim/model/CredentialResult"), (0, u "principal"), (0, u "Lcom/example/claim/claim/model/CredentialPrincipal;"), (0, .fieldref 8 14), (0, .nameAndType 15 16), (0, u "refusal"), (0, u "Lcom/example/claim/claim/model/CredentialRefusal;"), (1, .methodref 19 20), (0, .class_ 21), (0, .nameAndType 22 23), (0, u "java/util/Objects"), (0, u "requireNonNull"), (0, u "(Ljava/lang/Object;Ljava/lang/String;)Ljava/lang/Object;"), (2, .methodref 8 27), (0, .nameAndType 5 28), (0, u "(Lcom/example/claim/claim/model/CredentialPrincipal;Lcom/example/claim/claim/model/CredentialRefusal;)V"), (0, .string 15), (0, .class_ 31), (0, u "com/example/claim/claim/model/CredentialRefusal"), (0, .methodref 33 34), (0, .class_ 35), (0, .nameAndType 36 37), (0, u "java/util/Optional"), (0, u "ofNullable"), (0, u "(Ljava/lang/Object;)Ljava/util/Optional;"), (2, u "isAccepted"), (0, u "()Z"), (15, u "refused"), (0, u "(Lcom/example/claim/claim/model/CredentialRefusal;)Lcom/example/claim/claim/model/CredentialResult;"), (1, u "()Ljava/util/Optional;")] 24

def k13c0 : Code := { maxStack := 2, maxLocals := 3, code := prog_43_method_1_code, exceptionTable := #[], attributes := #[] }
def k13m0 : Method := { name := "<init>", desc := "(Lcom/example/claim/claim/model/CredentialPrincipal;Lcom/example/claim/claim/model/CredentialRefusal;)V", sig := { parameters := [(.object "com/example/claim/claim/model/CredentialPrincipal"), (.object "com/example/claim/claim/model/CredentialRefusal")], returnType := none }, accessFlags := 2, code := some k13c0 }
def k13c1 : Code := { maxStack := 5, maxLocals := 1, code := prog_43_method_3_code, exceptionTable := #[], attributes := #[] }
def k13m1 : Method := { name := "refused", desc := "(Lcom/example/claim/claim/model/CredentialRefusal;)Lcom/example/claim/claim/model/CredentialResult;", sig := { parameters := [(.object "com/example/claim/claim/model/CredentialRefusal")], returnType := some (.object "com/example/claim/claim/model/CredentialResult") }, accessFlags := 9, code := some k13c1 }
def k13c2 : Code := { maxStack := 1, maxLocals := 1, code := prog_43_method_4_code, exceptionTable := #[], attributes := #[] }
def k13m2 : Method := { name := "isAccepted", desc := "()Z", sig := { parameters := [], returnType := some .boolean }, accessFlags := 1, code := some k13c2 }
def k13c3 : Code := { maxStack := 1, maxLocals := 1, code := prog_43_method_5_code, exceptionTable := #[], attributes := #[] }
def k13m3 : Method := { name := "principal", desc := "()Ljava/util/Optional;", sig := { parameters := [], returnType := some (.object "java/util/Optional") }, accessFlags := 1, code := some k13c3 }
def k13c4 : Code := { maxStack := 1, maxLocals := 1, code := prog_43_method_6_code, exceptionTable := #[], attributes := #[] }
def k13m4 : Method := { name := "refusal", desc := "()Ljava/util/Optional;", sig := { parameters := [], returnType := some (.object "java/util/Optional") }, accessFlags := 1, code := some k13c4 }
/-- com/example/claim/claim/model/CredentialResult -/
def k13 : Class := { plain "com/example/claim/claim/model/CredentialResult" (some 0) with
  accessFlags := 49
  interfaces := #[]
  cf := some (fileOf pool13 8 #[] #[{ accessFlags := 2, nameIndex := 5, descriptorIndex := 28, attributes := #[] }, { accessFlags := 9, nameIndex := 57, descriptorIndex := 58, attributes := #[] }, { accessFlags := 1, nameIndex := 40, descriptorIndex := 41, attributes := #[] }, { accessFlags := 1, nameIndex := 11, descriptorIndex := 60, attributes := #[] }, { accessFlags := 1, nameIndex := 15, descriptorIndex := 60, attributes := #[] }] 49 2 #[] #[{ accessFlags := 18, nameIndex := 11, descriptorIndex := 12, attributes := #[] }, { accessFlags := 18, nameIndex := 15, descriptorIndex := 16, attributes := #[] }])
  fields := #[{ name := "principal", type := (.object "com/example/claim/claim/model/CredentialPrincipal"), accessFlags := 18, slot := 0, constantValue := 0 }, { name := "refusal", type := (.object "com/example/claim/claim/model/CredentialRefusal"), accessFlags := 18, slot := 1, constantValue := 0 }]
  methods := #[k13m0, k13m1, k13m2, k13m3, k13m4]
  instanceTypes := #[(.object "com/example/claim/claim/model/CredentialPrincipal"), (.object "com/example/claim/claim/model/CredentialRefusal")]
  staticTypes := #[]
  resolved := Array.replicate 85 none
  statics := none }

def pool14 : Array CpInfo := pool [(1, .fieldref 2 3), (0, .class_ 4), (0, .nameAndType 5 6), (0, u "java/util/Optional"), (0, u "EMPTY"), (0, u "Ljava/util/Optional;"), (0, .methodref 8 9), (0, .class_ 10), (0, .nameAndType 11 12), (0, u "java/lang/Object"), (0, u "<init>"), (0, u "()V"), (0, .fieldref 2 14), (0, .nameAndType 15 16), (0, u "value"), (0, u "Ljava/lang/Object;"), (6, .methodref 2 24), (0, .nameAndType 11 25), (0, u "(Ljava/lang/Object;)V"), (20, u "()Z"), (17, u "ofNullable"), (0, u "(Ljava/lang/Object;)Ljava/util/Optional;"), (2, u "isPresent"), (4, u "get"), (0, u "()Ljava/lang/Object;")] 112

def k14c0 : Code := { maxStack := 2, maxLocals := 2, code := jdk_32_method_2_code, exceptionTable := #[], attributes := #[] }
def k14m0 : Method := { name := "<init>", desc := "(Ljava/lang/Object;)V", sig := { parameters := [(.object "java/lang/Object")], returnType := none }, accessFlags := 2, code := some k14c0 }
def k14c1 : Code := { maxStack := 3, maxLocals := 1, code := jdk_32_method_4_code, exceptionTable := #[], attributes := #[] }
def k14m1 : Method := { name := "ofNullable", desc := "(Ljava/lang/Object;)Ljava/util/Optional;", sig := { parameters := [(.object "java/lang/Object")], returnType := some (.object "java/util/Optional") }, accessFlags := 9, code := some k14c1 }
def k14c2 : Code := { maxStack := 3, maxLocals := 1, code := jdk_32_method_5_code, exceptionTable := #[], attributes := #[] }
def k14m2 : Method := { name := "get", desc := "()Ljava/lang/Object;", sig := { parameters := [], returnType := some (.object "java/lang/Object") }, accessFlags := 1, code := some k14c2 }
def k14c3 : Code := { maxStack := 1, maxLocals := 1, code := jdk_32_method_6_code, exceptionTable := #[], attributes := #[] }
def k14m3 : Method := { name := "isPresent", desc := "()Z", sig := { parameters := [], returnType := some .boolean }, accessFlags := 1, code := some k14c3 }
/-- java/util/Optional -/
def k14 : Class := { plain "java/util/Optional" (some 0) with
  accessFlags := 49
  interfaces := #[]
  cf := some (fileOf pool14 2 #[] #[{ accessFlags := 2, nameIndex := 11, descriptorIndex := 25, attributes := #[] }, { accessFlags := 9, nameIndex := 64, descriptorIndex := 65, attributes := #[] }, { accessFlags := 1, nameIndex := 73, descriptorIndex := 74, attributes := #[] }, { accessFlags := 1, nameIndex := 68, descriptorIndex := 46, attributes := #[] }] 49 8 #[] #[{ accessFlags := 26, nameIndex := 5, descriptorIndex := 6, attributes := #[] }, { accessFlags := 18, nameIndex := 15, descriptorIndex := 16, attributes := #[] }])
  fields := #[{ name := "EMPTY", type := (.object "java/util/Optional"), accessFlags := 26, slot := 0, constantValue := 0 }, { name := "value", type := (.object "java/lang/Object"), accessFlags := 18, slot := 0, constantValue := 0 }]
  methods := #[k14m0, k14m1, k14m2, k14m3]
  instanceTypes := #[(.object "java/lang/Object")]
  staticTypes := #[(.object "java/util/Optional")]
  resolved := Array.replicate 187 none
  statics := some 1 }

def pool15 : Array CpInfo := pool [(1, u "java/lang/Cloneable"), (0, .class_ 1), (0, u "java/lang/Object"), (0, .class_ 3)] 3

/-- java/lang/Cloneable -/
def k15 : Class := { plain "java/lang/Cloneable" (some 0) with
  accessFlags := 1537
  interfaces := #[]
  cf := some (fileOf pool15 2 #[] #[] 1537 4 #[] #[])
  fields := #[]
  methods := #[]
  instanceTypes := #[]
  staticTypes := #[]
  resolved := Array.replicate 8 none
  statics := none }

/-- the primitive byte -/
def k16 : Class := { plain "byte" none with kind := .primitive 'B', accessFlags := 0x411 }
/-- [B -/
def k17 : Class := { plain "[B" (some 0) with kind := .array 16 .byte, interfaces := #[15, 4], accessFlags := 1041 }

/-- the primitive int -/
def k18 : Class := { plain "int" none with kind := .primitive 'I', accessFlags := 0x411 }
/-- [I -/
def k19 : Class := { plain "[I" (some 0) with kind := .array 18 .int, interfaces := #[15, 4], accessFlags := 1041 }

def heap : Heap := #[{ cls := 6, slots := #[.ref 2, .ref 3, .ref 4, .null], vm := .statics 6 },
  { cls := 14, slots := #[.ref 5], vm := .statics 14 },
  { cls := 6, slots := #[.null, .int 0, .int 0], vm := .none },
  { cls := 6, slots := #[.null, .int 1, .int 0], vm := .none },
  { cls := 6, slots := #[.null, .int 2, .int 0], vm := .none },
  { cls := 14, slots := #[.null], vm := .none }]
def classes : Array Class := #[k0, k1, k2, k3, k4, k5, k6, k7, k8, k9, k10, k11, k12, k13, k14, k15, k16, k17, k18, k19]
def interned : List (Array UInt16 × Addr) := []
def slotsUsed : Nat := 15
def theMethod : MethodId := ⟨1, 1⟩
def args0 : Array Value := #[.int 5]
def aboutOver (below : List Frame) : State where
  vm := { classes := classes, interned := interned.toArray }
  heap := heap
  slotsUsed := slotsUsed
  threads := #[{ frames := .invoking theMethod args0 :: below }]
def below0 : List Frame := [.native { method := ⟨0, 0⟩, args := #[] }]
def about1 : State := aboutOver below0
def p0 : Program := .bare "" "" ""
def e0 : Env := launch0.env 0 0 0
theorem w_frames : about1.frames = Frame.invoking theMethod args0 :: below0 := rfl
set_option maxRecDepth 65536 in
theorem w_args : argsFit about1.vm theMethod args0 = true := by decide +kernel
set_option maxRecDepth 65536 in
theorem w_heap : heapFits about1 = true := by decide +kernel
set_option maxRecDepth 65536 in
theorem w_runnable : about1.curStatus? = some .runnable := by decide +kernel
set_option maxRecDepth 65536 in
theorem w_alone : about1.alone = true := by decide +kernel
set_option maxRecDepth 65536 in
theorem w_named : about1.methodNamed? x = some theMethod := by decide +kernel
set_option maxRecDepth 65536 in
theorem w_hears : about1.hears theMethod below0 = true := by decide +kernel
set_option maxRecDepth 65536 in
theorem w_ripe : about1.ripe theMethod args0 below0 = true := by decide +kernel
theorem w_running : about1.status = .running := rfl
set_option maxRecDepth 65536 in
theorem w_room : about1.hasRoom e0.platform room_1 = true :=
  launch0.hasRoom_least _ room_1 (by decide +kernel) (by decide +kernel) (by decide +kernel) (by decide +kernel) (by decide +kernel) (by decide +kernel)
theorem allAtoms_all (ts : List Jvm.Cond) (a : Array Jvm.Value) (st : Jvm.State) : (allAtoms ts).before a st = ts.all (fun c => c.before a st) := by
  induction ts with
  | nil => rfl
  | cons c t ih =>
    show (Jvm.Cond.and c (allAtoms t)).before a st = _
    rw [Jvm.Cond.before_and, ih, List.all_cons]
def words1 : List Jvm.Cond := Jvm.Cond.code x code maxLocals ret :: tables_1
/-- a 'code' word, met by the world's own term for the bytes: nothing is compared byte by byte -/
theorem code_word {y : MethodName} {bytes : ByteArray} {mx : Nat} {rt : Option FieldType} {a : Array Value} {s : State} {m : MethodId} {meth : Method} {c : Code} (h1 : s.methodNamed? y = some m) (h2 : s.vm.method? m = some meth) (h3 : meth.code = some c) (h4 : c.code = bytes)
    (h5 : (c.maxLocals == mx && c.exceptionTable.isEmpty && decide (c.maxStack ≤ mostOperands) && decide (meth.sig.returnType = rt) && !meth.locks && decide (parseMethodDescriptor y.desc = some meth.sig)) = true) : (Jvm.Cond.code y bytes mx rt).before a s = true := by
  simp only [Bool.and_eq_true, beq_iff_eq, Bool.not_eq_true', decide_eq_true_eq] at h5
  obtain ⟨⟨⟨⟨⟨g1, g2⟩, g3⟩, g4⟩, g5⟩, g6⟩ := h5
  simp [Cond.before, Cond.holds, Cond.value, h1, h2, h3, h4, g1, g2, g3, g4, g5, g6]
def isCode : Jvm.Cond → Bool
  | .code _ _ _ _ => true
  | _ => false
theorem all_split {L : List Jvm.Cond} {P : Jvm.Cond → Bool} (h1 : L.all (fun c => isCode c || P c) = true) (h2 : ∀ c ∈ L.filter isCode, P c = true) : L.all P = true := by
  refine List.all_eq_true.mpr fun c hc => ?_
  have h := List.all_eq_true.mp h1 c hc
  rcases Bool.eq_false_or_eq_true (isCode c) with hi | hi
  · exact h2 c (List.mem_filter.mpr ⟨hc, hi⟩)
  · simpa [hi] using h
set_option maxRecDepth 65536 in
theorem w_c0 : (Jvm.Cond.code x code maxLocals ret).before args0 about1 = true := code_word (m := ⟨1, 1⟩) (meth := k1m1) (c := k1c1) (by decide +kernel) rfl rfl rfl (by decide +kernel)
set_option maxRecDepth 65536 in
theorem w_c1 : (Jvm.Cond.code ({ cls := "com/example/claim/claim/model/CredentialRefusal", name := "<init>", desc := "(Lcom/example/claim/claim/model/CredentialRefusalReason;)V" } : Jvm.MethodName) prog_41_method_1_code (2 : Nat) (Option.none : Option Jvm.ClassFile.FieldType)).before args0 about1 = true := code_word (m := ⟨8, 0⟩) (meth := k8m0) (c := k8c0) (by decide +kernel) rfl rfl rfl (by decide +kernel)
set_option maxRecDepth 65536 in
theorem w_c2 : (Jvm.Cond.code ({ cls := "java/lang/Record", name := "<init>", desc := "()V" } : Jvm.MethodName) jdk_30_method_1_code (1 : Nat) (Option.none : Option Jvm.ClassFile.FieldType)).before args0 about1 = true := code_word (m := ⟨7, 0⟩) (meth := k7m0) (c := k7c0) (by decide +kernel) rfl rfl rfl (by decide +kernel)
set_option maxRecDepth 65536 in
theorem w_c3 : (Jvm.Cond.code ({ cls := "java/lang/Object", name := "<init>", desc := "()V" } : Jvm.MethodName) object_method_1_code (1 : Nat) (Option.none : Option Jvm.ClassFile.FieldType)).before args0 about1 = true := code_word (m := ⟨0, 0⟩) (meth := k0m0) (c := k0c0) (by decide +kernel) rfl rfl rfl (by decide +kernel)
set_option maxRecDepth 65536 in
theorem w_c4 : (Jvm.Cond.code ({ cls := "java/util/Objects", name := "requireNonNull", desc := "(Ljava/lang/Object;Ljava/lang/String;)Ljava/lang/Object;" } : Jvm.MethodName) jdk_31_method_11_code (2 : Nat) (Option.some (Jvm.ClassFile.FieldType.object "java/lang/Object"))).before args0 about1 = true := code_word (m := ⟨12, 1⟩) (meth := k12m1) (c := k12c1) (by decide +kernel) rfl rfl rfl (by decide +kernel)
set_option maxRecDepth 65536 in
theorem w_c5 : (Jvm.Cond.code ({ cls := "com/example/claim/claim/model/CredentialResult", name := "refused", desc := "(Lcom/example/claim/claim/model/CredentialRefusal;)Lcom/example/claim/claim/model/CredentialResult;" } : Jvm.MethodName) prog_43_method_3_code (1 : Nat) (Option.some (Jvm.ClassFile.FieldType.object "com/example/claim/claim/model/CredentialResult"))).before args0 about1 = true := code_word (m := ⟨13, 1⟩) (meth := k13m1) (c := k13c1) (by decide +kernel) rfl rfl rfl (by decide +kernel)
set_option maxRecDepth 65536 in
theorem w_c6 : (Jvm.Cond.code ({ cls := "com/example/claim/claim/model/CredentialResult", name := "<init>", desc := "(Lcom/example/claim/claim/model/CredentialPrincipal;Lcom/example/claim/claim/model/CredentialRefusal;)V" } : Jvm.MethodName) prog_43_method_1_code (3 : Nat) (Option.none : Option Jvm.ClassFile.FieldType)).before args0 about1 = true := code_word (m := ⟨13, 0⟩) (meth := k13m0) (c := k13c0) (by decide +kernel) rfl rfl rfl (by decide +kernel)
set_option maxRecDepth 65536 in
theorem w_c7 : (Jvm.Cond.code ({ cls := "com/example/claim/claim/model/CredentialResult", name := "isAccepted", desc := "()Z" } : Jvm.MethodName) prog_43_method_4_code (1 : Nat) (Option.some Jvm.ClassFile.FieldType.boolean)).before args0 about1 = true := code_word (m := ⟨13, 2⟩) (meth := k13m2) (c := k13c2) (by decide +kernel) rfl rfl rfl (by decide +kernel)
set_option maxRecDepth 65536 in
theorem w_c8 : (Jvm.Cond.code ({ cls := "com/example/claim/claim/model/CredentialResult", name := "principal", desc := "()Ljava/util/Optional;" } : Jvm.MethodName) prog_43_method_5_code (1 : Nat) (Option.some (Jvm.ClassFile.FieldType.object "java/util/Optional"))).before args0 about1 = true := code_word (m := ⟨13, 3⟩) (meth := k13m3) (c := k13c3) (by decide +kernel) rfl rfl rfl (by decide +kernel)
set_option maxRecDepth 65536 in
theorem w_c9 : (Jvm.Cond.code ({ cls := "java/util/Optional", name := "ofNullable", desc := "(Ljava/lang/Object;)Ljava/util/Optional;" } : Jvm.MethodName) jdk_32_method_4_code (1 : Nat) (Option.some (Jvm.ClassFile.FieldType.object "java/util/Optional"))).before args0 about1 = true := code_word (m := ⟨14, 1⟩) (meth := k14m1) (c := k14c1) (by decide +kernel) rfl rfl rfl (by decide +kernel)
set_option maxRecDepth 65536 in
theorem w_c10 : (Jvm.Cond.code ({ cls := "java/util/Optional", name := "isPresent", desc := "()Z" } : Jvm.MethodName) jdk_32_method_6_code (1 : Nat) (Option.some Jvm.ClassFile.FieldType.boolean)).before args0 about1 = true := code_word (m := ⟨14, 3⟩) (meth := k14m3) (c := k14c3) (by decide +kernel) rfl rfl rfl (by decide +kernel)
set_option maxRecDepth 65536 in
theorem w_c11 : (Jvm.Cond.code ({ cls := "com/example/claim/claim/model/CredentialResult", name := "refusal", desc := "()Ljava/util/Optional;" } : Jvm.MethodName) prog_43_method_6_code (1 : Nat) (Option.some (Jvm.ClassFile.FieldType.object "java/util/Optional"))).before args0 about1 = true := code_word (m := ⟨13, 4⟩) (meth := k13m4) (c := k13c4) (by decide +kernel) rfl rfl rfl (by decide +kernel)
set_option maxRecDepth 65536 in
theorem w_c12 : (Jvm.Cond.code ({ cls := "java/util/Optional", name := "<init>", desc := "(Ljava/lang/Object;)V" } : Jvm.MethodName) jdk_32_method_2_code (2 : Nat) (Option.none : Option Jvm.ClassFile.FieldType)).before args0 about1 = true := code_word (m := ⟨14, 0⟩) (meth := k14m0) (c := k14c0) (by decide +kernel) rfl rfl rfl (by decide +kernel)
set_option maxRecDepth 65536 in
theorem w_c13 : (Jvm.Cond.code ({ cls := "java/util/Optional", name := "get", desc := "()Ljava/lang/Object;" } : Jvm.MethodName) jdk_32_method_5_code (1 : Nat) (Option.some (Jvm.ClassFile.FieldType.object "java/lang/Object"))).before args0 about1 = true := code_word (m := ⟨14, 2⟩) (meth := k14m2) (c := k14c2) (by decide +kernel) rfl rfl rfl (by decide +kernel)
set_option maxRecDepth 65536 in
theorem w_c14 : (Jvm.Cond.code ({ cls := "com/example/claim/claim/model/CredentialRefusal", name := "reason", desc := "()Lcom/example/claim/claim/model/CredentialRefusalReason;" } : Jvm.MethodName) prog_41_method_5_code (1 : Nat) (Option.some (Jvm.ClassFile.FieldType.object "com/example/claim/claim/model/CredentialRefusalReason"))).before args0 about1 = true := code_word (m := ⟨8, 1⟩) (meth := k8m1) (c := k8c1) (by decide +kernel) rfl rfl rfl (by decide +kernel)
def codes1 : List Jvm.Cond := [Jvm.Cond.code x code maxLocals ret, Jvm.Cond.code ({ cls := "com/example/claim/claim/model/CredentialRefusal", name := "<init>", desc := "(Lcom/example/claim/claim/model/CredentialRefusalReason;)V" } : Jvm.MethodName) prog_41_method_1_code (2 : Nat) (Option.none : Option Jvm.ClassFile.FieldType), Jvm.Cond.code ({ cls := "java/lang/Record", name := "<init>", desc := "()V" } : Jvm.MethodName) jdk_30_method_1_code (1 : Nat) (Option.none : Option Jvm.ClassFile.FieldType), Jvm.Cond.code ({ cls := "java/lang/Object", name := "<init>", desc := "()V" } : Jvm.MethodName) object_method_1_code (1 : Nat) (Option.none : Option Jvm.ClassFile.FieldType), Jvm.Cond.code ({ cls := "java/util/Objects", name := "requireNonNull", desc := "(Ljava/lang/Object;Ljava/lang/String;)Ljava/lang/Object;" } : Jvm.MethodName) jdk_31_method_11_code (2 : Nat) (Option.some (Jvm.ClassFile.FieldType.object "java/lang/Object")), Jvm.Cond.code ({ cls := "com/example/claim/claim/model/CredentialResult", name := "refused", desc := "(Lcom/example/claim/claim/model/CredentialRefusal;)Lcom/example/claim/claim/model/CredentialResult;" } : Jvm.MethodName) prog_43_method_3_code (1 : Nat) (Option.some (Jvm.ClassFile.FieldType.object "com/example/claim/claim/model/CredentialResult")), Jvm.Cond.code ({ cls := "com/example/claim/claim/model/CredentialResult", name := "<init>", desc := "(Lcom/example/claim/claim/model/CredentialPrincipal;Lcom/example/claim/claim/model/CredentialRefusal;)V" } : Jvm.MethodName) prog_43_method_1_code (3 : Nat) (Option.none : Option Jvm.ClassFile.FieldType), Jvm.Cond.code ({ cls := "com/example/claim/claim/model/CredentialResult", name := "isAccepted", desc := "()Z" } : Jvm.MethodName) prog_43_method_4_code (1 : Nat) (Option.some Jvm.ClassFile.FieldType.boolean), Jvm.Cond.code ({ cls := "com/example/claim/claim/model/CredentialResult", name := "principal", desc := "()Ljava/util/Optional;" } : Jvm.MethodName) prog_43_method_5_code (1 : Nat) (Option.some (Jvm.ClassFile.FieldType.object "java/util/Optional")), Jvm.Cond.code ({ cls := "java/util/Optional", name := "ofNullable", desc := "(Ljava/lang/Object;)Ljava/util/Optional;" } : Jvm.MethodName) jdk_32_method_4_code (1 : Nat) (Option.some (Jvm.ClassFile.FieldType.object "java/util/Optional")), Jvm.Cond.code ({ cls := "java/util/Optional", name := "isPresent", desc := "()Z" } : Jvm.MethodName) jdk_32_method_6_code (1 : Nat) (Option.some Jvm.ClassFile.FieldType.boolean), Jvm.Cond.code ({ cls := "com/example/claim/claim/model/CredentialResult", name := "refusal", desc := "()Ljava/util/Optional;" } : Jvm.MethodName) prog_43_method_6_code (1 : Nat) (Option.some (Jvm.ClassFile.FieldType.object "java/util/Optional")), Jvm.Cond.code ({ cls := "java/util/Optional", name := "<init>", desc := "(Ljava/lang/Object;)V" } : Jvm.MethodName) jdk_32_method_2_code (2 : Nat) (Option.none : Option Jvm.ClassFile.FieldType), Jvm.Cond.code ({ cls := "java/util/Optional", name := "get", desc := "()Ljava/lang/Object;" } : Jvm.MethodName) jdk_32_method_5_code (1 : Nat) (Option.some (Jvm.ClassFile.FieldType.object "java/lang/Object")), Jvm.Cond.code ({ cls := "com/example/claim/claim/model/CredentialRefusal", name := "reason", desc := "()Lcom/example/claim/claim/model/CredentialRefusalReason;" } : Jvm.MethodName) prog_41_method_5_code (1 : Nat) (Option.some (Jvm.ClassFile.FieldType.object "com/example/claim/claim/model/CredentialRefusalReason"))]
set_option maxRecDepth 65536 in
theorem codes_eq : words1.filter isCode = codes1 := rfl
theorem w_codes : ∀ c ∈ words1.filter isCode, c.before args0 about1 = true := by
  rw [codes_eq]
  intro c hc
  simp only [codes1, List.mem_cons, List.not_mem_nil, or_false] at hc
  rcases hc with rfl | rfl | rfl | rfl | rfl | rfl | rfl | rfl | rfl | rfl | rfl | rfl | rfl | rfl | rfl
  · exact w_c0
  · exact w_c1
  · exact w_c2
  · exact w_c3
  · exact w_c4
  · exact w_c5
  · exact w_c6
  · exact w_c7
  · exact w_c8
  · exact w_c9
  · exact w_c10
  · exact w_c11
  · exact w_c12
  · exact w_c13
  · exact w_c14
set_option maxRecDepth 65536 in
theorem w_t1 : (words1.take 24).all (fun c => isCode c || c.before args0 about1) = true := by decide +kernel
set_option maxRecDepth 65536 in
theorem w_t2 : ((words1.drop 24).take 24).all (fun c => isCode c || c.before args0 about1) = true := by decide +kernel
set_option maxRecDepth 65536 in
theorem w_t3 : (((words1.drop 24).drop 24).take 24).all (fun c => isCode c || c.before args0 about1) = true := by decide +kernel
set_option maxRecDepth 65536 in
theorem w_t4 : ((((words1.drop 24).drop 24).drop 24).take 24).all (fun c => isCode c || c.before args0 about1) = true := by decide +kernel
set_option maxRecDepth 65536 in
theorem w_t5 : ((((words1.drop 24).drop 24).drop 24).drop 24).all (fun c => isCode c || c.before args0 about1) = true := by decide +kernel
theorem w_tables : (allAtoms (Jvm.Cond.code x code maxLocals ret :: tables_1)).before args0 about1 = true := by
  rw [allAtoms_all]
  show words1.all (fun c => c.before args0 about1) = true
  refine all_split ?_ w_codes
  rw [← List.take_append_drop 24 words1, List.all_append, w_t1, ← List.take_append_drop 24 (words1.drop 24), List.all_append, w_t2, ← List.take_append_drop 24 ((words1.drop 24).drop 24), List.all_append, w_t3, ← List.take_append_drop 24 (((words1.drop 24).drop 24).drop 24), List.all_append, w_t4, w_t5]
  rfl
set_option maxRecDepth 65536 in
theorem w_rest : rest_1_c.before args0 about1 = true := by decide +kernel
set_option maxRecDepth 65536 in
theorem w_case : (Jvm.Cond.and given_1 narrow_1).before args0 about1 = true := by decide +kernel
theorem w_applies : (headSpec (Jvm.Cond.code x code maxLocals ret :: tables_1) room_1).applies x e0.platform about1 = true :=
  (Spec.applies_iff w_frames).mpr ⟨w_running, w_runnable, w_alone, w_named, w_hears, w_ripe, w_room, w_tables⟩
theorem atStart : AtStart classFile x code maxLocals ret World_1 tables_1 room_1 Calls_1 rest_1 Pre_1 launch0 p0 e0 about1 theMethod args0 below0 :=
  ⟨lists_1, trivial, launch0.admits_env _ _ _, launch0.least_env, fairChoices_fair.cas, fairChoices_fair.clock, w_frames, w_args, w_heap, w_applies, trivial, w_rest, w_case⟩
end start1
theorem witness_1 : WitnessClaimed_1 := ⟨start1.p0, start1.e0, start1.about1, start1.theMethod, start1.args0, start1.below0, start1.atStart⟩
end Jvm.Pilot.@@N@@
