import JvmDerived
import JvmDerived.Pilot.@@N@@Statement
import JvmDerived.Pilot.@@N@@Code
set_option linter.unusedVariables false
set_option linter.unusedSimpArgs false
namespace Jvm.Own
open Sem ClassFile Op Lib Jvm.Stand Jvm.Free Jvm.LawKit Jvm.RoadKit
section Own
variable {p : Program} {l : Launch} {e : Env} {R : Room} {s : State} {m : MethodId} {args : Array Value} {below : List Frame} {meth : Method} {c : Code} {T S S' : State} {locs : List Loc} {cells slots : Nat} {G : Outcome → State → Prop} {Q : Option Value → Heap → List Loc → Prop} {C K : Nat}
/-- from S the run comes to an end of which G holds -/
def Go (p : Program) (e : Env) (below : List Frame) (G : Outcome → State → Prop) (S : State) : Prop := ∃ t o, Steps p.tables e below S t ∧ t.status = .running ∧ Ended t below o ∧ G o t
def GO (s : State) (Q : Option Value → Heap → List Loc → Prop) (C K : Nat) (o : Outcome) (t : State) : Prop := ∃ v L, o = .returned v ∧ Q v t.heap L ∧ FrameEnd s o t L C K
theorem Go.st (k : ∀ t, Steps p.tables e below S' t → Steps p.tables e below S t) (h : Go p e below G S') : Go p e below G S := by
  obtain ⟨t, o, h1, h2⟩ := h
  exact ⟨t, o, k t h1, h2⟩
theorem Go.tr (k : Steps p.tables e below S S') (h : Go p e below G S') : Go p e below G S := by
  obtain ⟨t, o, h1, h2⟩ := h
  exact ⟨t, o, k.trans h1, h2⟩
theorem Go.outN (X : Stand p l e R s m args below meth c T locs cells slots) (hx : p.tables.exec = Jvm.exec) (hlk : meth.locks = false) {pc : Nat} {Ls : Array Slot} {z : Int32} {t : FieldType} {rest : List Value} (hret : meth.sig.returnType = some t) (ht : t = .boolean ∨ t = .byte ∨ t = .char ∨ t = .short)
    (hd : decode c.code pc = .ok (.ireturn, 1)) (hQ : Q (some (.int (nar t z))) T.heap locs) (hC : cells ≤ C) (hK : slots ≤ K) : Go p e below (GO s Q C K) (T.setTop (mkF m pc Ls (.int z :: rest))) := by
  obtain ⟨fs, hr, hrun, hended, hW, hsame⟩ := X.leave (v := some (.int (nar t z))) (fun h => by rw [hret] at h; cases h) hlk
  exact ⟨_, _, retN X hx hret ht hd hr, hrun, hended, _, _, rfl, hQ, ⟨_, rfl⟩, hW, hsame.mono hC hK⟩
theorem Go.outI (X : Stand p l e R s m args below meth c T locs cells slots) (hx : p.tables.exec = Jvm.exec) (hlk : meth.locks = false) {pc : Nat} {Ls : Array Slot} {z : Int32} {rest : List Value} (hret : meth.sig.returnType = some .int)
    (hd : decode c.code pc = .ok (.ireturn, 1)) (hQ : Q (some (.int z)) T.heap locs) (hC : cells ≤ C) (hK : slots ≤ K) : Go p e below (GO s Q C K) (T.setTop (mkF m pc Ls (.int z :: rest))) := by
  obtain ⟨fs, hr, hrun, hended, hW, hsame⟩ := X.leave (v := some (.int z)) (fun h => by rw [hret] at h; cases h) hlk
  exact ⟨_, _, retOut X hx hret rfl (Or.inl ⟨rfl, Or.inl rfl, z, rfl⟩) hd hr, hrun, hended, _, _, rfl, hQ, ⟨_, rfl⟩, hW, hsame.mono hC hK⟩
theorem Go.outJ (X : Stand p l e R s m args below meth c T locs cells slots) (hx : p.tables.exec = Jvm.exec) (hlk : meth.locks = false) {pc : Nat} {Ls : Array Slot} {z : Int64} {rest : List Value} (hret : meth.sig.returnType = some .long)
    (hd : decode c.code pc = .ok (.lreturn, 1)) (hQ : Q (some (.long z)) T.heap locs) (hC : cells ≤ C) (hK : slots ≤ K) : Go p e below (GO s Q C K) (T.setTop (mkF m pc Ls (.long z :: rest))) := by
  obtain ⟨fs, hr, hrun, hended, hW, hsame⟩ := X.leave (v := some (.long z)) (fun h => by rw [hret] at h; cases h) hlk
  exact ⟨_, _, retOut X hx hret rfl (Or.inr (Or.inl ⟨rfl, rfl, z, rfl⟩)) hd hr, hrun, hended, _, _, rfl, hQ, ⟨_, rfl⟩, hW, hsame.mono hC hK⟩
theorem own_narrow_ref (t : FieldType) {w : Value} (h : w.isRef = true) : narrow t w = w := by
  rcases ref_cases h with rfl | ⟨a, rfl⟩ <;> cases t <;> rfl
theorem own_fits_ref (t : FieldType) {w : Value} (h : w.isRef = true) (ht : t.isReference = true := by rfl) : fits t w = true := by
  rcases ref_cases h with rfl | ⟨a, rfl⟩ <;> cases t <;> first | rfl | (cases ht)
theorem own_cat_ref {w : Value} (h : w.isRef = true) : w.category = 1 := by
  rcases ref_cases h with rfl | ⟨a, rfl⟩ <;> rfl
theorem Go.outR (X : Stand p l e R s m args below meth c T locs cells slots) (hx : p.tables.exec = Jvm.exec) (hlk : meth.locks = false) {pc : Nat} {Ls : Array Slot} {w : Value} {t : FieldType} {rest : List Value} (hret : meth.sig.returnType = some t) (ht : t.isReference = true) (hw : w.isRef = true)
    (hd : decode c.code pc = .ok (.areturn, 1)) (hQ : Q (some w) T.heap locs) (hC : cells ≤ C) (hK : slots ≤ K) : Go p e below (GO s Q C K) (T.setTop (mkF m pc Ls (w :: rest))) := by
  obtain ⟨fs, hr, hrun, hended, hW, hsame⟩ := X.leave (v := some w) (fun h => by rw [hret] at h; cases h) hlk
  exact ⟨_, _, retOut X hx hret (own_narrow_ref t hw) (Or.inr (Or.inr (Or.inr (Or.inr ⟨rfl, ht, hw⟩)))) hd hr, hrun, hended, _, _, rfl, hQ, ⟨_, rfl⟩, hW, hsame.mono hC hK⟩
theorem Go.outU (X : Stand p l e R s m args below meth c T locs cells slots) (hx : p.tables.exec = Jvm.exec) (hlk : meth.locks = false) {pc : Nat} {Ls : Array Slot} (hret : meth.sig.returnType = none)
    (hd : decode c.code pc = .ok (.return_, 1)) (hQ : Q none T.heap locs) (hC : cells ≤ C) (hK : slots ≤ K) : Go p e below (GO s Q C K) (T.setTop (mkF m pc Ls [])) := by
  obtain ⟨fs, hr, hrun, hended, hW, hsame⟩ := X.leave (v := none) (fun _ => rfl) hlk
  exact ⟨_, _, X.returnOut hx hret hd hr, hrun, hended, _, _, rfl, hQ, ⟨_, rfl⟩, hW, hsame.mono hC hK⟩
def GOW (s : State) (Q : Option Value → Heap → List Loc → Prop) (C K : Nat) (o : Outcome) (t : State) : Prop := ∃ v L, o = .returned v ∧ Q v t.heap L ∧ ReturnedEndW s o t L C K
theorem Go.outW {vm₁ : Vm} {n : Nat} (X : Stand p l e R (s.setVm vm₁) m args below meth c T locs cells slots) (hS : s.Since vm₁ n) (hn : n ≤ T.heap.size) {v : Option Value} (hv : meth.sig.returnType = none → v = none) (hlk : meth.locks = false)
    (st : ∀ fs, (∀ (f : JFrame) (acts : List Action), f.method = m → f.locked = none → f.entered = [] → (doReturn e (T.setTop f) acts v).1 = T.setFrames fs) → Steps p.tables e below S (T.setFrames fs)) (hQ : Q v T.heap locs) (hC : cells ≤ C) (hK : slots ≤ K) : Go p e below (GOW s Q C K) S := by
  obtain ⟨fs, hr, hrun, hended, h1, h2, h3, h4⟩ := X.leaveW hS hn (v := v) hv hlk
  exact ⟨_, _, st fs hr, hrun, hended, _, _, rfl, hQ, h1, h2, h3, h4.mono hC hK⟩
theorem own_stand_mono {cells' slots' : Nat} (X : Stand p l e R s m args below meth c T locs cells slots) (h1 : cells ≤ cells') (h2 : slots ≤ slots') : Stand p l e R s m args below meth c T locs cells' slots' :=
  ⟨X.admits, X.cas, X.clock, X.frames, X.room, X.hears, X.method, X.code, X.here, X.tail, X.warmed, X.limits, X.bytes, X.same.mono h1 h2⟩
end Own
section Facts
variable {Z : State} {h h' h0 : Heap} {a b : Addr} {sl : Nat} {v : Value} {ws : List Addr}
theorem own_ext_refl (h : Heap) : Ext h h := ⟨Nat.le_refl _, fun _ _ q => q⟩
theorem own_ext_trans (O : Ext h0 h) (E : Ext h h') : Ext h0 h' := ⟨Nat.le_trans O.1 E.1, fun x c q => E.2 x c (O.2 x c q)⟩
theorem own_ext_keep (O : Ext h0 h) (K : Keep h h' ws) (g : ∀ x ∈ ws, h0.size ≤ x) : Ext h0 h' := ⟨Nat.le_trans O.1 K.1, fun x c q => K.2.1 x c (O.2 x c q) fun z => Nat.not_lt.mpr (g x z) (Array.getElem?_eq_some_iff.mp q).1⟩
theorem own_ext_wr (O : Ext h0 h) (W : Wr h h' a sl v) (g : h0.size ≤ a) : Ext h0 h' := own_ext_keep O (Keep.of_wr W) (allS g all0)
theorem own_irr (x : Int32) : ¬ x < x := fun h => Int32.lt_irrefl h
theorem own_fld {args : Array Value} {t : Term} {C n d : String} {k : Int32} (ev : t.eval args Z none [] Z = some (.ref a)) (hq : (Cond.eq (.field t C n d) (.int k)).value args Z none Z [] = some true) : Fld Z Z.heap a C n d (.int k) := by
  obtain ⟨x, y, h1, h2, h3, h4⟩ := cmp_v (Or.inl hq)
  have e2 : y = .int k := Option.some.inj (h2.symm.trans (Term.int_eval k))
  subst e2
  obtain ⟨z, rfl⟩ := h4
  have e3 : z = k := by simpa [Cond.value, h1, h2] using hq
  subst e3
  exact Fld.start ((fld_at ev).symm.trans h1)
theorem own_fldN {args : Array Value} {t : Term} {C n d : String} (ev : t.eval args Z none [] Z = some (.ref a)) (hq : (Cond.eq (.field t C n d) .null).value args Z none Z [] = some true) : Fld Z Z.heap a C n d .null :=
  Fld.start ((fld_at ev).symm.trans (null_v hq))
theorem own_len {args : Array Value} {t : Term} {z : Int32} {cl : Cell} {ty : FieldType} (ev : t.eval args Z none [] Z = some (.ref a)) (A : Arr Z Z.heap a cl ty) (hq : (Cond.eq (.length t) (.int z)).value args Z none Z [] = some true) : cl.slots.size < 2 ^ 31 ∧ cl.slots.size.toInt32 = z := by
  obtain ⟨x, y, h1, h2, h3, h4⟩ := cmp_v (Or.inl hq)
  have e2 : y = .int z := Option.some.inj (h2.symm.trans (Term.int_eval z))
  subst e2
  have ha : Z.arrayAt? a = some cl := A.fin (Vm.Alike.refl _)
  by_cases hl : cl.slots.size < 2 ^ 31
  · have e3 := Option.some.inj ((len_f ev ha hl).symm.trans h1)
    subst e3
    refine ⟨hl, ?_⟩
    simpa [Cond.value, h1, h2] using hq
  · exfalso
    simp [Term.eval, ev, ha] at h1
    exact hl h1.1
theorem own_elem {args : Array Value} {t u : Term} {i : Int32} {cl : Cell} {ty : FieldType} (ev : t.eval args Z none [] Z = some (.ref a)) (A : Arr Z Z.heap a cl ty) (eu : u.eval args Z none [] Z = some (.ref b)) (hq : (Cond.eq (.elem t (.int i)) u).value args Z none Z [] = some true) : cl.slots[i.toNatClampNeg]? = some (.ref b) := by
  obtain ⟨x, y, h1, h2, h3, h4⟩ := cmp_v (Or.inl hq)
  have e2 : y = .ref b := Option.some.inj (h2.symm.trans eu)
  subst e2
  have h5 := (elem_in h1 ev (Term.int_eval i) A.1).2
  have e3 : x = .ref b := gotT (eq_R h1 h2 h4.2 rfl) hq
  rw [← e3]
  exact h5
theorem own_and3 (k : Int32) : k &&& 3 = 0 ∨ k &&& 3 = 1 ∨ k &&& 3 = 2 ∨ k &&& 3 = 3 := by
  have h := c_mask k 3 2 (by decide) (by decide)
  simp only [← Int32.toInt_inj, Int32.reduceToInt]
  omega
theorem own_mod (x n : Int32) (hn : 0 < n.toInt) : 0 ≤ ((x &&& 2147483647) % n).toInt ∧ ((x &&& 2147483647) % n).toInt < n.toInt := by
  have h1 := (c_and x 2147483647 (by decide)).1
  have h2 := (c_iremV (x &&& 2147483647) n).1 h1 hn
  exact ⟨h2.1, h2.2.1⟩
theorem own_cp0 {p : Program} {l : Launch} {e : Env} {R : Room} {s : State} {m : MethodId} {args : Array Value} {below : List Frame} {meth : Method} {c : Code} {T : State} {locs : List Loc} {cells slots : Nat} {a0 : Array Value} {own : String} {index : Nat} (X : Stand p l e R s m args below meth c T locs cells slots) (hx : p.tables.exec = Jvm.exec) (hZ : Z.Warmed39 s.vm) (hown : s.vm.findClass own = some m.cls)
    (w1 : (Cond.methodLink own index Jvm.Stand.acN).before a0 Z = true) (w2 : (Cond.native Jvm.Stand.acN).before a0 Z = true) (w3 : (Cond.static Jvm.Stand.acN).before a0 Z = true) (w4 : (Cond.initialized "java/lang/System").before a0 Z = true) (eT : T.heap = h)
    {k k' : ClassId} {ty : FieldType} {z z' : Int32} {vs vd : List Value} {dv dd : Value} (A : Arv Z h a k ty z vs dv) (B : Arv Z h b k' ty z' vd dd) (hty : refKind ty = false) {nn : Int32} (hnn : nn = 0)
    {g : JFrame} (hg : g.method = m) (hsize : g.locals.size = c.maxLocals) {rest : List Value} (hs : g.stack = .int nn :: .int 0 :: .ref b :: .int 0 :: .ref a :: rest) (hd : decode c.code g.pc = .ok (.invokestatic index, 3))
    (hf : 1 ≤ R.frames) {W : Nat} (hW : 2 * g.monitorRoom + (rest.map fun v => v.category).sum ≤ W) (hlo : W + (nativeFrameWords "java/lang/System" "arraycopy" 5 + 11) ≤ R.locals) :
    ∃ T', Stand p l e R s m args below meth c T' locs cells slots ∧ T'.heap = h ∧ ∀ target, Steps p.tables e below (T'.setTop { g with pc := g.pc + 3, stack := rest }) target → Steps p.tables e below (T.setTop g) target := by
  subst hnn
  obtain ⟨cs, As, -, Ss, -, Hs, Gs⟩ := A
  obtain ⟨cd, Ad, qd, Sd, Nd, Hd, Gd⟩ := B
  obtain ⟨os, ks, hks, sc, hsk⟩ := State.isArrayOf_alike hZ.alike As.2.1
  obtain ⟨od, kd, hkd, dc, hdk⟩ := State.isArrayOf_alike hZ.alike Ad.2.1
  have z0 : (0 : Int32).toInt = 0 := rfl
  obtain ⟨vm₁, hW₁, X', st⟩ := X.arraycopyK (srcPos := 0) (destPos := 0) (n := 0) hx hown (mvT hZ w1) (mvT hZ w2) (mvT hZ w3) (mvT hZ w4) (by rw [eT]; exact As.1) (by rw [eT]; exact Ad.1) os od As.2.2 Ad.2.2 hks hkd hsk hdk
    (by simp [hty]) (by decide) (by decide) (by decide) (by rw [z0]; omega) (by rw [z0]; omega) (fun vm₁ hw i hi => absurd hi (Nat.not_lt_zero i)) hg hsize hs hd hf (by omega)
  have e1 : copied cs cd 0 0 0 = cd := rfl
  have e2 : copyLocs b (0 : Int32).toNatClampNeg (0 : Int32).toNatClampNeg = [] := rfl
  rw [e1] at X' st
  rw [e2, List.append_nil] at X'
  refine ⟨_, X', ?_, st⟩
  show (T.heap.setIfInBounds b cd) = h
  rw [eT]
  refine Array.ext_getElem? fun i => ?_
  by_cases q : b = i
  · subst q
    rw [Array.getElem?_setIfInBounds_self_of_lt (Array.getElem?_eq_some_iff.mp Ad.1).1]
    exact Ad.1.symm
  · rw [Array.getElem?_setIfInBounds_ne q]
/-- an array of which the length alone is said -/
def own_AL (Z : State) (h : Heap) (a : Addr) (ty : FieldType) (z : Int32) : Prop := ∃ k vs d, Arv Z h a k ty z vs d
theorem own_AL.of {k : ClassId} {ty : FieldType} {z : Int32} {vs : List Value} {d : Value} (F : Arv Z h a k ty z vs d) : own_AL Z h a ty z := ⟨k, vs, d, F⟩
theorem own_AL.lt {ty : FieldType} {z : Int32} (F : own_AL Z h a ty z) : a < h.size := by obtain ⟨k, vs, d, F⟩ := F; exact F.lt
theorem own_AL.ext {ty : FieldType} {z : Int32} (F : own_AL Z h a ty z) (E : Ext h h') : own_AL Z h' a ty z := by obtain ⟨k, vs, d, F⟩ := F; exact ⟨k, vs, d, F.ext E⟩
theorem own_AL.other {ty : FieldType} {z : Int32} (F : own_AL Z h b ty z) (W : Wr h h' a sl v) (q : b ≠ a) : own_AL Z h' b ty z := by obtain ⟨k, vs, d, F⟩ := F; exact ⟨k, vs, d, F.other W q⟩
theorem own_AL.keep {ty : FieldType} {z : Int32} (F : own_AL Z h a ty z) (K : Keep h h' ws) (q : a ∉ ws) : own_AL Z h' a ty z := by obtain ⟨k, vs, d, F⟩ := F; exact ⟨k, vs, d, F.keep K q⟩
theorem own_AL.len {ty : FieldType} {z : Int32} (F : own_AL Z h a ty z) (n : Nat) : ∃ k vs d, Arv Z h a k ty z vs d ∧ n ≤ vs.length := by
  obtain ⟨k, vs, d, F⟩ := F
  exact ⟨k, vs ++ List.replicate n d, d, F.pad (pad_rep vs d n), by simp⟩
theorem own_AL.nn {ty : FieldType} {z : Int32} (F : own_AL Z h a ty z) : 0 ≤ z.toInt := by
  obtain ⟨k, vs, d, c, A, q1, q2, q3, r⟩ := F
  rw [Int32.lt_iff_toInt_lt] at q3
  exact Int.not_lt.mp q3
/-- a copy into one array leaves every array's length -/
theorem own_AL.cp {k : ClassId} {ty ty' : FieldType} {z z' : Int32} {vs : List Value} {d : Value} (F : own_AL Z h a ty z) (B : own_AL Z h b ty' z') (K : Keep h h' [b]) (V : Arv Z h' b k ty' z' vs d) : own_AL Z h' a ty z := by
  by_cases q : a = b
  · subst q
    obtain ⟨k1, vs1, d1, c1, A1, e1, s1, n1, -⟩ := F
    obtain ⟨k2, vs2, d2, c2, A2, e2, s2, n2, -⟩ := B
    have ec : c1 = c2 := Option.some.inj (A1.1.symm.trans A2.1)
    subst ec
    obtain ⟨-, w1, g1, p1, g2⟩ := A1.2.1
    obtain ⟨-, w2, g3, p2, g4⟩ := A2.2.1
    have ew : w1 = w2 := Option.some.inj (g1.symm.trans g3)
    subst ew
    have et : ty = ty' := by rw [g2] at g4; cases g4; rfl
    have ez : z = z' := by rw [← (back32 n1).1, ← (back32 n2).1, ← s1, ← s2]
    subst et ez
    exact ⟨_, _, _, V⟩
  · exact F.keep K (ninS q nin0)
theorem own_IB {vm : Vm} (hint : vm.interned = Z.vm.interned) : IB Z vm [] := ⟨#[], by rw [hint]; simp, fun q hq => by simp at hq⟩
theorem own_backOfSI {p : Program} {l : Launch} {e : Env} {R : Room} {s : State} {args : Array Value} {below : List Frame} {a0 : Array Value} {y : MethodName} {bytes : ByteArray} {maxL : Nat} {ret : Option FieldType} {rm : Room} {len W : Nat} {as' : Array Value} {Q : Option Value → Heap → List Loc → Prop} (hint : s.vm.interned = Z.vm.interned)
    (hM : MetFree l y (head1 [Cond.code y bytes maxL ret] rm) (fun a U => a = as' ∧ Z.Warmed39 U.vm ∧ U.heap = h ∧ U.vm.interned = Z.vm.interned) (fun _ _ _ _ _ => True) (fun _ U o U' => ∃ v L, o = .returned v ∧ Q v U'.heap L ∧ ReturnedEndW U o U' L rm.cells rm.slots))
    (hZ : Z.Warmed39 s.vm) (wc : (Cond.code y bytes maxL ret).before a0 Z = true) (wz : (Cond.initialized y.cls).before a0 Z = true) (hf : rm.frames + 1 ≤ R.frames) (hl : W + (maxL + 11) + rm.locals ≤ R.locals) :
    BackS l R p e below s args y len W (fun A a => a = as' ∧ A.U.heap = h ∧ A.cells + rm.cells ≤ R.cells ∧ A.slots + rm.slots ≤ R.slots)
      (fun A _ v B => ∃ L, Q v B.U.heap L ∧ B.locs = A.locs ++ L ∧ B.cells = A.cells + rm.cells ∧ B.slots = A.slots + rm.slots) :=
  BackS.of_freeW (bytes := bytes) (maxL := maxL) (ret := ret) (E := fun _ _ o t L k n => k = rm.cells ∧ n = rm.slots ∧ ∃ v, o = .returned v ∧ Q v t.heap L) hM hf hl
    (fun m meth c A a Y hp => have hU : Z.Warmed39 A.U.vm := wtrans hZ Y.warmed
      ⟨by show (Cond.and _ .tt).before a A.U = true; rw [Cond.before_and, mv hU wc]; rfl, mv hU wc, mv hU wz, hp.2.2.1, hp.2.2.2⟩)
    (fun m meth c A a g mk Y hp => ⟨hp.1, wtrans hZ Y.warmed, hp.2.1, Y.warmed.interned_eq.trans hint⟩) (fun _ _ _ _ _ _ _ _ _ => trivial)
    (fun _ _ _ _ ⟨v, L, h1, h2, h3⟩ => ⟨L, _, _, h3, rfl, rfl, v, h1, h2⟩)
    (fun m meth c A a g mk v t L k n Y hp _ _ ⟨e1, e2, v', e3, e4⟩ => by cases e3; subst e1 e2; exact ⟨L, e4, rfl, rfl, rfl⟩)
end Facts
end Jvm.Own
namespace Jvm.Pilot.@@N@@
open Jvm Jvm.ClassFile Sem Op Lib Jvm.Free Jvm.Stand Jvm.LawKit Jvm.RoadKit Jvm.Own Bundle Jvm.Pilot.@@N@@.Jvm.D
def own_at (q : Int32) (a b c d : Addr) : Addr := if q = 0 then a else if q = 1 then b else if q = 2 then c else d
theorem own_at_spec (k : Int32) (a b c d : Addr) : (k &&& 3 = 0 ∧ own_at (k &&& 3) a b c d = a) ∨ (k &&& 3 = 1 ∧ own_at (k &&& 3) a b c d = b) ∨ (k &&& 3 = 2 ∧ own_at (k &&& 3) a b c d = c) ∨ (k &&& 3 = 3 ∧ own_at (k &&& 3) a b c d = d) := by
  rcases own_and3 k with h | h | h | h <;> simp [own_at, h]
theorem own_at_get (k : Int32) (a b c d : Addr) : [(.ref a), (.ref b), (.ref c), (.ref d)].getD (k &&& 3).toNatClampNeg .null = Value.ref (own_at (k &&& 3) a b c d) := by
  rcases own_and3 k with h | h | h | h <;> rw [h] <;> rfl
theorem own_at_in (k : Int32) : ¬ (k &&& 3) < 0 ∧ (k &&& 3) < 4 := by
  rcases own_and3 k with h | h | h | h <;> rw [h] <;> decide
theorem own_at_exa {Z : State} {h : Heap} {C : String} (q : Int32) {a b c d : Addr} (h1 : Exa Z h a C) (h2 : Exa Z h b C) (h3 : Exa Z h c C) (h4 : Exa Z h d C) : Exa Z h (own_at q a b c d) C := by
  unfold own_at; (repeat' split) <;> assumption
theorem own_apart (i j : Int32) (h1 : (i &&& 3 < 2 ↔ j &&& 3 < 2)) (h2 : ((i &&& 3 = 0 ∨ i &&& 3 = 2) ↔ (j &&& 3 = 0 ∨ j &&& 3 = 2))) : i &&& 3 = j &&& 3 := by
  rcases own_and3 i with h | h | h | h <;> rcases own_and3 j with g | g | g | g <;> rw [h, g] at h1 h2 <;> rw [h, g] <;> revert h1 h2 <;> decide
theorem ef_rm1 (m : MethodId) (x0 : Addr) : entryFrame m #[(.ref x0)] 1 = mkF m 0 #[.val (.ref x0)] [] := by first | (simp [entryFrame, mkF, argsToLocals, Value.category]; done) | rfl
def Q_rm1 (Z : State) (a : Addr) (q : Int32) (w_ENABLE : Addr) (w_DISABLE : Addr) (w_ALLOW : Addr) (w_DISALLOW : Addr) (h0 : Heap) (v : Option Value) (h : Heap) (L : List Loc) : Prop := v = some (.int (if q < 2 then (1 : Int32) else 0)) ∧ L = [] ∧ h = h0
theorem pn_com_example_callweave_callweave_model_Rules_Effect : plainName "com/example/callweave/callweave/model/Rules$Effect" = true := by first | (simp [plainName, overriddenIn]; done) | decide +kernel
theorem d1_0 : decode prog_126_method_4_code 0 = .ok (.aload_n 0, 1) := by decide +kernel
theorem d1_1 : decode prog_126_method_4_code 1 = .ok (.getstatic 3, 3) := by decide +kernel
theorem d1_4 : decode prog_126_method_4_code 4 = .ok (.if_acmp .eq 10, 3) := by decide +kernel
theorem d1_14 : decode prog_126_method_4_code 14 = .ok (.iconst 1, 1) := by decide +kernel
theorem d1_15 : decode prog_126_method_4_code 15 = .ok (.goto 4, 3) := by decide +kernel
theorem d1_19 : decode prog_126_method_4_code 19 = .ok (.ireturn, 1) := by decide +kernel
theorem d1_7 : decode prog_126_method_4_code 7 = .ok (.aload_n 0, 1) := by decide +kernel
theorem d1_8 : decode prog_126_method_4_code 8 = .ok (.getstatic 7, 3) := by decide +kernel
theorem d1_11 : decode prog_126_method_4_code 11 = .ok (.if_acmp .ne 7, 3) := by decide +kernel
theorem d1_18 : decode prog_126_method_4_code 18 = .ok (.iconst 0, 1) := by decide +kernel
set_option maxRecDepth 65536 in
set_option maxHeartbeats 40000000 in
theorem rm1 (l : Launch) (Z : State) (a0 : Array Value) (hw : ∀ d ∈ tables_1, d.before a0 Z = true) (ws : List Jvm.Cond) (a : Addr) (q : Int32) (w_ENABLE : Addr) (w_DISABLE : Addr) (w_ALLOW : Addr) (w_DISALLOW : Addr) (h0 : Heap) (O0 : Ext Z.heap h0) (S_ENABLE : Sta Z Z.heap "com/example/callweave/callweave/model/Rules$Effect" "ENABLE" "Lcom/example/callweave/callweave/model/Rules$Effect;" (.ref w_ENABLE)) (S_DISABLE : Sta Z Z.heap "com/example/callweave/callweave/model/Rules$Effect" "DISABLE" "Lcom/example/callweave/callweave/model/Rules$Effect;" (.ref w_DISABLE)) (hq : (q = 0 ∧ a = w_ENABLE) ∨ (q = 1 ∧ a = w_DISABLE) ∨ (q = 2 ∧ a = w_ALLOW) ∨ (q = 3 ∧ a = w_DISALLOW)) (ne_ENABLE_DISABLE : w_ENABLE ≠ w_DISABLE) (ne_ENABLE_ALLOW : w_ENABLE ≠ w_ALLOW) (ne_ENABLE_DISALLOW : w_ENABLE ≠ w_DISALLOW) (ne_DISABLE_ALLOW : w_DISABLE ≠ w_ALLOW) (ne_DISABLE_DISALLOW : w_DISABLE ≠ w_DISALLOW) (ne_ALLOW_DISALLOW : w_ALLOW ≠ w_DISALLOW) :
    MetFree l (⟨"com/example/callweave/callweave/model/Rules$Effect", "onCallbacks", "()Z"⟩ : MethodName) (head1 (Jvm.Cond.code (⟨"com/example/callweave/callweave/model/Rules$Effect", "onCallbacks", "()Z"⟩ : MethodName) prog_126_method_4_code 1 (some .boolean) :: ws) ({ frames := 0, cells := 0, slots := 0, locals := 0 } : Room)) (fun av' U => av' = #[(.ref a)] ∧ Z.Warmed39 U.vm ∧ U.heap = h0) (fun _ _ _ _ _ => True) (fun _ U o U' => ∃ v L, o = .returned v ∧ Q_rm1 Z a q w_ENABLE w_DISABLE w_ALLOW w_DISALLOW h0 v U'.heap L ∧ FrameEnd U o U' L ({ frames := 0, cells := 0, slots := 0, locals := 0 } : Room).cells ({ frames := 0, cells := 0, slots := 0, locals := 0 } : Room).slots) := by
  refine MetFree.of_bodySF (plainFor_of_name pn_com_example_callweave_callweave_model_Rules_Effect) hisR ?_
  intro p e s m args below meth c s₁ Bd hml0 hP hK
  obtain ⟨rfl, hZ, hh⟩ := hP
  have hx := Bd.exec
  have hby := Bd.bytes
  have hret := Bd.returns
  have hlk : meth.locks = false := Bd.notSynchronized
  have hml : c.maxLocals = 1 := hml0
  have hown : s.vm.findClass "com/example/callweave/callweave/model/Rules$Effect" = some m.cls := findClass_of_methodNamed Bd.named
  have hnm := (name_of_methodNamed Bd.named Bd.method).1
  have X0 : Stand p l e ({ frames := 0, cells := 0, slots := 0, locals := 0 } : Room) s m #[(.ref a)] below meth c s₁ [] 0 0 := Stand.of_body Bd
  -- the walk
  have e0 : s₁.heap = h0 := by rw [← hh, Bd.state]; rfl
  have N0 := Fr.nil Z.heap.size
  show Go p e below (GO s (Q_rm1 Z a q w_ENABLE w_DISABLE w_ALLOW w_DISALLOW h0) ({ frames := 0, cells := 0, slots := 0, locals := 0 } : Room).cells ({ frames := 0, cells := 0, slots := 0, locals := 0 } : Room).slots) (s₁.setTop (entryFrame m #[(.ref a)] 1))
  refine Go.st (fun t' k' => castTop (ef_rm1 m a) k') ?_
  show Go p e below _ (s₁.setTop (mkF m 0 #[.val (.ref a)] []))
  refine Go.st (fun t' k' => XS.aloadN X0.here hx rfl (hb hby d1_0) rfl rfl k') ?_
  show Go p e below _ (s₁.setTop (mkF m 1 #[.val (.ref a)] [(.ref a)]))
  obtain ⟨T1, X1, e1, st1⟩ := getS2 X0 hx hZ hown (host := "") (Or.inl (hw _ (List.mem_of_getElem? (i := 17) rfl))) Via.refl e0 (S_ENABLE.ext O0) (g := (mkF m 1 #[.val (.ref a)] [(.ref a)])) rfl (hb hby d1_1)
  refine Go.st st1 ?_
  show Go p e below _ (T1.setTop (mkF m 4 #[.val (.ref a)] [(.ref w_ENABLE), (.ref a)]))
  by_cases hc4_2 : a = w_ENABLE
  · refine Go.st (fun t' k' => Jvm.RoadKit.acmp (g := (mkF m 4 #[.val (.ref a)] [(.ref w_ENABLE), (.ref a)])) X1 hx rfl rfl rfl (pc0 := 4) (pc' := 14) (same := true) rfl (hb hby d1_4) rfl (decide_eq_true (congrArg Value.ref hc4_2)) (by decide) (by decide) k') ?_
    show Go p e below _ (T1.setTop (mkF m 14 #[.val (.ref a)] []))
    refine Go.st (fun t' k' => XS.iconst X1.here hx rfl (hb hby d1_14) k') ?_
    show Go p e below _ (T1.setTop (mkF m 15 #[.val (.ref a)] [(.int (1 : Int32))]))
    refine Go.st (fun t' k' => XS.goto X1.here hx rfl (pc0 := 15) (pc' := 19) rfl (hb hby d1_15) (by decide) (by decide) k') ?_
    show Go p e below _ (T1.setTop (mkF m 19 #[.val (.ref a)] [(.int (1 : Int32))]))
    exact Go.outN X1 hx hlk (t := .boolean) hret (by simp) (hb hby d1_19) (Q := Q_rm1 Z a q w_ENABLE w_DISABLE w_ALLOW w_DISALLOW h0) (by rw [e1]; exact ⟨(by rcases hq with ⟨e1, e2⟩ | ⟨e1, e2⟩ | ⟨e1, e2⟩ | ⟨e1, e2⟩ <;> first | (rw [e1]; rfl) | (exfalso; rw [e2] at hc4_2; simp [ne_ENABLE_DISABLE, ne_ENABLE_ALLOW, ne_ENABLE_DISALLOW, ne_DISABLE_ALLOW, ne_DISABLE_DISALLOW, ne_ALLOW_DISALLOW, Ne.symm ne_ENABLE_DISABLE, Ne.symm ne_ENABLE_ALLOW, Ne.symm ne_ENABLE_DISALLOW, Ne.symm ne_DISABLE_ALLOW, Ne.symm ne_DISABLE_DISALLOW, Ne.symm ne_ALLOW_DISALLOW] at hc4_2)), rfl, rfl⟩) (by decide) (by decide)
  · refine Go.st (fun t' k' => Jvm.RoadKit.acmp (g := (mkF m 4 #[.val (.ref a)] [(.ref w_ENABLE), (.ref a)])) X1 hx rfl rfl rfl (pc0 := 4) (pc' := 7) (same := false) rfl (hb hby d1_4) rfl (decide_eq_false fun q => hc4_2 (Value.ref.inj q)) (by decide) (by decide) k') ?_
    show Go p e below _ (T1.setTop (mkF m 7 #[.val (.ref a)] []))
    refine Go.st (fun t' k' => XS.aloadN X1.here hx rfl (hb hby d1_7) rfl rfl k') ?_
    show Go p e below _ (T1.setTop (mkF m 8 #[.val (.ref a)] [(.ref a)]))
    obtain ⟨T3, X3, e3, st3⟩ := getS2 X1 hx hZ hown (host := "") (Or.inl (hw _ (List.mem_of_getElem? (i := 18) rfl))) Via.refl e1 (S_DISABLE.ext O0) (g := (mkF m 8 #[.val (.ref a)] [(.ref a)])) rfl (hb hby d1_8)
    refine Go.st st3 ?_
    show Go p e below _ (T3.setTop (mkF m 11 #[.val (.ref a)] [(.ref w_DISABLE), (.ref a)]))
    by_cases hc11_4 : a = w_DISABLE
    · refine Go.st (fun t' k' => Jvm.RoadKit.acmp (g := (mkF m 11 #[.val (.ref a)] [(.ref w_DISABLE), (.ref a)])) X3 hx rfl rfl rfl (pc0 := 11) (pc' := 14) (same := true) rfl (hb hby d1_11) rfl (decide_eq_true (congrArg Value.ref hc11_4)) (by decide) (by decide) k') ?_
      show Go p e below _ (T3.setTop (mkF m 14 #[.val (.ref a)] []))
      refine Go.st (fun t' k' => XS.iconst X3.here hx rfl (hb hby d1_14) k') ?_
      show Go p e below _ (T3.setTop (mkF m 15 #[.val (.ref a)] [(.int (1 : Int32))]))
      refine Go.st (fun t' k' => XS.goto X3.here hx rfl (pc0 := 15) (pc' := 19) rfl (hb hby d1_15) (by decide) (by decide) k') ?_
      show Go p e below _ (T3.setTop (mkF m 19 #[.val (.ref a)] [(.int (1 : Int32))]))
      exact Go.outN X3 hx hlk (t := .boolean) hret (by simp) (hb hby d1_19) (Q := Q_rm1 Z a q w_ENABLE w_DISABLE w_ALLOW w_DISALLOW h0) (by rw [e3]; exact ⟨(by rcases hq with ⟨e1, e2⟩ | ⟨e1, e2⟩ | ⟨e1, e2⟩ | ⟨e1, e2⟩ <;> first | (rw [e1]; rfl) | (exfalso; rw [e2] at hc4_2 hc11_4; simp [ne_ENABLE_DISABLE, ne_ENABLE_ALLOW, ne_ENABLE_DISALLOW, ne_DISABLE_ALLOW, ne_DISABLE_DISALLOW, ne_ALLOW_DISALLOW, Ne.symm ne_ENABLE_DISABLE, Ne.symm ne_ENABLE_ALLOW, Ne.symm ne_ENABLE_DISALLOW, Ne.symm ne_DISABLE_ALLOW, Ne.symm ne_DISABLE_DISALLOW, Ne.symm ne_ALLOW_DISALLOW] at hc4_2 hc11_4)), rfl, rfl⟩) (by decide) (by decide)
    · refine Go.st (fun t' k' => Jvm.RoadKit.acmp (g := (mkF m 11 #[.val (.ref a)] [(.ref w_DISABLE), (.ref a)])) X3 hx rfl rfl rfl (pc0 := 11) (pc' := 18) (same := false) rfl (hb hby d1_11) rfl (decide_eq_false fun q => hc11_4 (Value.ref.inj q)) (by decide) (by decide) k') ?_
      show Go p e below _ (T3.setTop (mkF m 18 #[.val (.ref a)] []))
      refine Go.st (fun t' k' => XS.iconst X3.here hx rfl (hb hby d1_18) k') ?_
      show Go p e below _ (T3.setTop (mkF m 19 #[.val (.ref a)] [(.int (0 : Int32))]))
      exact Go.outN X3 hx hlk (t := .boolean) hret (by simp) (hb hby d1_19) (Q := Q_rm1 Z a q w_ENABLE w_DISABLE w_ALLOW w_DISALLOW h0) (by rw [e3]; exact ⟨(by rcases hq with ⟨e1, e2⟩ | ⟨e1, e2⟩ | ⟨e1, e2⟩ | ⟨e1, e2⟩ <;> first | (rw [e1]; rfl) | (exfalso; rw [e2] at hc4_2 hc11_4; simp [ne_ENABLE_DISABLE, ne_ENABLE_ALLOW, ne_ENABLE_DISALLOW, ne_DISABLE_ALLOW, ne_DISABLE_DISALLOW, ne_ALLOW_DISALLOW, Ne.symm ne_ENABLE_DISABLE, Ne.symm ne_ENABLE_ALLOW, Ne.symm ne_ENABLE_DISALLOW, Ne.symm ne_DISABLE_ALLOW, Ne.symm ne_DISABLE_DISALLOW, Ne.symm ne_ALLOW_DISALLOW] at hc4_2 hc11_4)), rfl, rfl⟩) (by decide) (by decide)
theorem ef_rm2 (m : MethodId) (x0 : Addr) : entryFrame m #[(.ref x0)] 1 = mkF m 0 #[.val (.ref x0)] [] := by first | (simp [entryFrame, mkF, argsToLocals, Value.category]; done) | rfl
def Q_rm2 (Z : State) (a : Addr) (q : Int32) (w_ENABLE : Addr) (w_DISABLE : Addr) (w_ALLOW : Addr) (w_DISALLOW : Addr) (h0 : Heap) (v : Option Value) (h : Heap) (L : List Loc) : Prop := v = some (.int (if q = 0 ∨ q = 2 then (1 : Int32) else 0)) ∧ L = [] ∧ h = h0
theorem d2_0 : decode prog_126_method_5_code 0 = .ok (.aload_n 0, 1) := by decide +kernel
theorem d2_1 : decode prog_126_method_5_code 1 = .ok (.getstatic 3, 3) := by decide +kernel
theorem d2_4 : decode prog_126_method_5_code 4 = .ok (.if_acmp .eq 10, 3) := by decide +kernel
theorem d2_14 : decode prog_126_method_5_code 14 = .ok (.iconst 1, 1) := by decide +kernel
theorem d2_15 : decode prog_126_method_5_code 15 = .ok (.goto 4, 3) := by decide +kernel
theorem d2_19 : decode prog_126_method_5_code 19 = .ok (.ireturn, 1) := by decide +kernel
theorem d2_7 : decode prog_126_method_5_code 7 = .ok (.aload_n 0, 1) := by decide +kernel
theorem d2_8 : decode prog_126_method_5_code 8 = .ok (.getstatic 10, 3) := by decide +kernel
theorem d2_11 : decode prog_126_method_5_code 11 = .ok (.if_acmp .ne 7, 3) := by decide +kernel
theorem d2_18 : decode prog_126_method_5_code 18 = .ok (.iconst 0, 1) := by decide +kernel
set_option maxRecDepth 65536 in
set_option maxHeartbeats 40000000 in
theorem rm2 (l : Launch) (Z : State) (a0 : Array Value) (hw : ∀ d ∈ tables_1, d.before a0 Z = true) (ws : List Jvm.Cond) (a : Addr) (q : Int32) (w_ENABLE : Addr) (w_DISABLE : Addr) (w_ALLOW : Addr) (w_DISALLOW : Addr) (h0 : Heap) (O0 : Ext Z.heap h0) (S_ENABLE : Sta Z Z.heap "com/example/callweave/callweave/model/Rules$Effect" "ENABLE" "Lcom/example/callweave/callweave/model/Rules$Effect;" (.ref w_ENABLE)) (S_ALLOW : Sta Z Z.heap "com/example/callweave/callweave/model/Rules$Effect" "ALLOW" "Lcom/example/callweave/callweave/model/Rules$Effect;" (.ref w_ALLOW)) (hq : (q = 0 ∧ a = w_ENABLE) ∨ (q = 1 ∧ a = w_DISABLE) ∨ (q = 2 ∧ a = w_ALLOW) ∨ (q = 3 ∧ a = w_DISALLOW)) (ne_ENABLE_DISABLE : w_ENABLE ≠ w_DISABLE) (ne_ENABLE_ALLOW : w_ENABLE ≠ w_ALLOW) (ne_ENABLE_DISALLOW : w_ENABLE ≠ w_DISALLOW) (ne_DISABLE_ALLOW : w_DISABLE ≠ w_ALLOW) (ne_DISABLE_DISALLOW : w_DISABLE ≠ w_DISALLOW) (ne_ALLOW_DISALLOW : w_ALLOW ≠ w_DISALLOW) :
    MetFree l (⟨"com/example/callweave/callweave/model/Rules$Effect", "permits", "()Z"⟩ : MethodName) (head1 (Jvm.Cond.code (⟨"com/example/callweave/callweave/model/Rules$Effect", "permits", "()Z"⟩ : MethodName) prog_126_method_5_code 1 (some .boolean) :: ws) ({ frames := 0, cells := 0, slots := 0, locals := 0 } : Room)) (fun av' U => av' = #[(.ref a)] ∧ Z.Warmed39 U.vm ∧ U.heap = h0) (fun _ _ _ _ _ => True) (fun _ U o U' => ∃ v L, o = .returned v ∧ Q_rm2 Z a q w_ENABLE w_DISABLE w_ALLOW w_DISALLOW h0 v U'.heap L ∧ FrameEnd U o U' L ({ frames := 0, cells := 0, slots := 0, locals := 0 } : Room).cells ({ frames := 0, cells := 0, slots := 0, locals := 0 } : Room).slots) := by
  refine MetFree.of_bodySF (plainFor_of_name pn_com_example_callweave_callweave_model_Rules_Effect) hisR ?_
  intro p e s m args below meth c s₁ Bd hml0 hP hK
  obtain ⟨rfl, hZ, hh⟩ := hP
  have hx := Bd.exec
  have hby := Bd.bytes
  have hret := Bd.returns
  have hlk : meth.locks = false := Bd.notSynchronized
  have hml : c.maxLocals = 1 := hml0
  have hown : s.vm.findClass "com/example/callweave/callweave/model/Rules$Effect" = some m.cls := findClass_of_methodNamed Bd.named
  have hnm := (name_of_methodNamed Bd.named Bd.method).1
  have X0 : Stand p l e ({ frames := 0, cells := 0, slots := 0, locals := 0 } : Room) s m #[(.ref a)] below meth c s₁ [] 0 0 := Stand.of_body Bd
  -- the walk
  have e0 : s₁.heap = h0 := by rw [← hh, Bd.state]; rfl
  have N0 := Fr.nil Z.heap.size
  show Go p e below (GO s (Q_rm2 Z a q w_ENABLE w_DISABLE w_ALLOW w_DISALLOW h0) ({ frames := 0, cells := 0, slots := 0, locals := 0 } : Room).cells ({ frames := 0, cells := 0, slots := 0, locals := 0 } : Room).slots) (s₁.setTop (entryFrame m #[(.ref a)] 1))
  refine Go.st (fun t' k' => castTop (ef_rm2 m a) k') ?_
  show Go p e below _ (s₁.setTop (mkF m 0 #[.val (.ref a)] []))
  refine Go.st (fun t' k' => XS.aloadN X0.here hx rfl (hb hby d2_0) rfl rfl k') ?_
  show Go p e below _ (s₁.setTop (mkF m 1 #[.val (.ref a)] [(.ref a)]))
  obtain ⟨T1, X1, e1, st1⟩ := getS2 X0 hx hZ hown (host := "") (Or.inl (hw _ (List.mem_of_getElem? (i := 17) rfl))) Via.refl e0 (S_ENABLE.ext O0) (g := (mkF m 1 #[.val (.ref a)] [(.ref a)])) rfl (hb hby d2_1)
  refine Go.st st1 ?_
  show Go p e below _ (T1.setTop (mkF m 4 #[.val (.ref a)] [(.ref w_ENABLE), (.ref a)]))
  by_cases hc4_2 : a = w_ENABLE
  · refine Go.st (fun t' k' => Jvm.RoadKit.acmp (g := (mkF m 4 #[.val (.ref a)] [(.ref w_ENABLE), (.ref a)])) X1 hx rfl rfl rfl (pc0 := 4) (pc' := 14) (same := true) rfl (hb hby d2_4) rfl (decide_eq_true (congrArg Value.ref hc4_2)) (by decide) (by decide) k') ?_
    show Go p e below _ (T1.setTop (mkF m 14 #[.val (.ref a)] []))
    refine Go.st (fun t' k' => XS.iconst X1.here hx rfl (hb hby d2_14) k') ?_
    show Go p e below _ (T1.setTop (mkF m 15 #[.val (.ref a)] [(.int (1 : Int32))]))
    refine Go.st (fun t' k' => XS.goto X1.here hx rfl (pc0 := 15) (pc' := 19) rfl (hb hby d2_15) (by decide) (by decide) k') ?_
    show Go p e below _ (T1.setTop (mkF m 19 #[.val (.ref a)] [(.int (1 : Int32))]))
    exact Go.outN X1 hx hlk (t := .boolean) hret (by simp) (hb hby d2_19) (Q := Q_rm2 Z a q w_ENABLE w_DISABLE w_ALLOW w_DISALLOW h0) (by rw [e1]; exact ⟨(by rcases hq with ⟨e1, e2⟩ | ⟨e1, e2⟩ | ⟨e1, e2⟩ | ⟨e1, e2⟩ <;> first | (rw [e1]; rfl) | (exfalso; rw [e2] at hc4_2; simp [ne_ENABLE_DISABLE, ne_ENABLE_ALLOW, ne_ENABLE_DISALLOW, ne_DISABLE_ALLOW, ne_DISABLE_DISALLOW, ne_ALLOW_DISALLOW, Ne.symm ne_ENABLE_DISABLE, Ne.symm ne_ENABLE_ALLOW, Ne.symm ne_ENABLE_DISALLOW, Ne.symm ne_DISABLE_ALLOW, Ne.symm ne_DISABLE_DISALLOW, Ne.symm ne_ALLOW_DISALLOW] at hc4_2)), rfl, rfl⟩) (by decide) (by decide)
  · refine Go.st (fun t' k' => Jvm.RoadKit.acmp (g := (mkF m 4 #[.val (.ref a)] [(.ref w_ENABLE), (.ref a)])) X1 hx rfl rfl rfl (pc0 := 4) (pc' := 7) (same := false) rfl (hb hby d2_4) rfl (decide_eq_false fun q => hc4_2 (Value.ref.inj q)) (by decide) (by decide) k') ?_
    show Go p e below _ (T1.setTop (mkF m 7 #[.val (.ref a)] []))
    refine Go.st (fun t' k' => XS.aloadN X1.here hx rfl (hb hby d2_7) rfl rfl k') ?_
    show Go p e below _ (T1.setTop (mkF m 8 #[.val (.ref a)] [(.ref a)]))
    obtain ⟨T3, X3, e3, st3⟩ := getS2 X1 hx hZ hown (host := "") (Or.inl (hw _ (List.mem_of_getElem? (i := 24) rfl))) Via.refl e1 (S_ALLOW.ext O0) (g := (mkF m 8 #[.val (.ref a)] [(.ref a)])) rfl (hb hby d2_8)
    refine Go.st st3 ?_
    show Go p e below _ (T3.setTop (mkF m 11 #[.val (.ref a)] [(.ref w_ALLOW), (.ref a)]))
    by_cases hc11_4 : a = w_ALLOW
    · refine Go.st (fun t' k' => Jvm.RoadKit.acmp (g := (mkF m 11 #[.val (.ref a)] [(.ref w_ALLOW), (.ref a)])) X3 hx rfl rfl rfl (pc0 := 11) (pc' := 14) (same := true) rfl (hb hby d2_11) rfl (decide_eq_true (congrArg Value.ref hc11_4)) (by decide) (by decide) k') ?_
      show Go p e below _ (T3.setTop (mkF m 14 #[.val (.ref a)] []))
      refine Go.st (fun t' k' => XS.iconst X3.here hx rfl (hb hby d2_14) k') ?_
      show Go p e below _ (T3.setTop (mkF m 15 #[.val (.ref a)] [(.int (1 : Int32))]))
      refine Go.st (fun t' k' => XS.goto X3.here hx rfl (pc0 := 15) (pc' := 19) rfl (hb hby d2_15) (by decide) (by decide) k') ?_
      show Go p e below _ (T3.setTop (mkF m 19 #[.val (.ref a)] [(.int (1 : Int32))]))
      exact Go.outN X3 hx hlk (t := .boolean) hret (by simp) (hb hby d2_19) (Q := Q_rm2 Z a q w_ENABLE w_DISABLE w_ALLOW w_DISALLOW h0) (by rw [e3]; exact ⟨(by rcases hq with ⟨e1, e2⟩ | ⟨e1, e2⟩ | ⟨e1, e2⟩ | ⟨e1, e2⟩ <;> first | (rw [e1]; rfl) | (exfalso; rw [e2] at hc4_2 hc11_4; simp [ne_ENABLE_DISABLE, ne_ENABLE_ALLOW, ne_ENABLE_DISALLOW, ne_DISABLE_ALLOW, ne_DISABLE_DISALLOW, ne_ALLOW_DISALLOW, Ne.symm ne_ENABLE_DISABLE, Ne.symm ne_ENABLE_ALLOW, Ne.symm ne_ENABLE_DISALLOW, Ne.symm ne_DISABLE_ALLOW, Ne.symm ne_DISABLE_DISALLOW, Ne.symm ne_ALLOW_DISALLOW] at hc4_2 hc11_4)), rfl, rfl⟩) (by decide) (by decide)
    · refine Go.st (fun t' k' => Jvm.RoadKit.acmp (g := (mkF m 11 #[.val (.ref a)] [(.ref w_ALLOW), (.ref a)])) X3 hx rfl rfl rfl (pc0 := 11) (pc' := 18) (same := false) rfl (hb hby d2_11) rfl (decide_eq_false fun q => hc11_4 (Value.ref.inj q)) (by decide) (by decide) k') ?_
      show Go p e below _ (T3.setTop (mkF m 18 #[.val (.ref a)] []))
      refine Go.st (fun t' k' => XS.iconst X3.here hx rfl (hb hby d2_18) k') ?_
      show Go p e below _ (T3.setTop (mkF m 19 #[.val (.ref a)] [(.int (0 : Int32))]))
      exact Go.outN X3 hx hlk (t := .boolean) hret (by simp) (hb hby d2_19) (Q := Q_rm2 Z a q w_ENABLE w_DISABLE w_ALLOW w_DISALLOW h0) (by rw [e3]; exact ⟨(by rcases hq with ⟨e1, e2⟩ | ⟨e1, e2⟩ | ⟨e1, e2⟩ | ⟨e1, e2⟩ <;> first | (rw [e1]; rfl) | (exfalso; rw [e2] at hc4_2 hc11_4; simp [ne_ENABLE_DISABLE, ne_ENABLE_ALLOW, ne_ENABLE_DISALLOW, ne_DISABLE_ALLOW, ne_DISABLE_DISALLOW, ne_ALLOW_DISALLOW, Ne.symm ne_ENABLE_DISABLE, Ne.symm ne_ENABLE_ALLOW, Ne.symm ne_ENABLE_DISALLOW, Ne.symm ne_DISABLE_ALLOW, Ne.symm ne_DISABLE_DISALLOW, Ne.symm ne_ALLOW_DISALLOW] at hc4_2 hc11_4)), rfl, rfl⟩) (by decide) (by decide)
theorem own_ite_iff {p q : Prop} [Decidable p] [Decidable q] (h : (if p then (1 : Int32) else 0) = (if q then 1 else 0)) : p ↔ q := by
  by_cases hp : p <;> by_cases hq : q <;> simp [hp, hq] at h ⊢
theorem ef_rm0 (m : MethodId) (x0 : Int32) (x1 : Int32) : entryFrame m #[(.int x0), (.int x1)] maxLocals = mkF m 0 #[.val (.int x0), .val (.int x1), .unset, .unset, .unset, .unset, .unset, .unset, .unset, .unset, .unset, .unset] [] := by first | (simp [entryFrame, mkF, argsToLocals, Value.category, maxLocals]; done) | rfl
def Q_rm0 (Z : State) (i : Int32) (j : Int32) (w_ENABLE : Addr) (w_DISABLE : Addr) (w_ALLOW : Addr) (w_DISALLOW : Addr) (h0 : Heap) (v : Option Value) (h : Heap) (L : List Loc) : Prop := v = some (.int (1 : Int32)) ∧ Fr Z.heap.size L
theorem pn_com_example_callweave_callweave_model_EffectOnCallbacksPinLaw : plainName "com/example/callweave/callweave/model/EffectOnCallbacksPinLaw" = true := by first | (simp [plainName, overriddenIn]; done) | decide +kernel
theorem pd___Z : parseMethodDescriptor "()Z" = some ⟨[], some .boolean⟩ := by decide +kernel
set_option maxRecDepth 65536 in
set_option maxHeartbeats 40000000 in
theorem rm0 (l : Launch) (Z : State) (a0 : Array Value) (hw : ∀ d ∈ tables_1, d.before a0 Z = true) (ws : List Jvm.Cond) (i : Int32) (j : Int32) (w_ENABLE : Addr) (w_DISABLE : Addr) (w_ALLOW : Addr) (w_DISALLOW : Addr) (h0 : Heap) (O0 : Ext Z.heap h0) (S_ENABLE : Sta Z Z.heap "com/example/callweave/callweave/model/Rules$Effect" "ENABLE" "Lcom/example/callweave/callweave/model/Rules$Effect;" (.ref w_ENABLE)) (S_DISABLE : Sta Z Z.heap "com/example/callweave/callweave/model/Rules$Effect" "DISABLE" "Lcom/example/callweave/callweave/model/Rules$Effect;" (.ref w_DISABLE)) (S_ALLOW : Sta Z Z.heap "com/example/callweave/callweave/model/Rules$Effect" "ALLOW" "Lcom/example/callweave/callweave/model/Rules$Effect;" (.ref w_ALLOW)) (S_DISALLOW : Sta Z Z.heap "com/example/callweave/callweave/model/Rules$Effect" "DISALLOW" "Lcom/example/callweave/callweave/model/Rules$Effect;" (.ref w_DISALLOW)) (E_ENABLE : Exa Z Z.heap w_ENABLE "com/example/callweave/callweave/model/Rules$Effect") (E_DISABLE : Exa Z Z.heap w_DISABLE "com/example/callweave/callweave/model/Rules$Effect") (E_ALLOW : Exa Z Z.heap w_ALLOW "com/example/callweave/callweave/model/Rules$Effect") (E_DISALLOW : Exa Z Z.heap w_DISALLOW "com/example/callweave/callweave/model/Rules$Effect") (F_ENABLE_ordinal : Fld Z Z.heap w_ENABLE "java/lang/Enum" "ordinal" "I" (.int (0 : Int32))) (F_DISABLE_ordinal : Fld Z Z.heap w_DISABLE "java/lang/Enum" "ordinal" "I" (.int (1 : Int32))) (F_ALLOW_ordinal : Fld Z Z.heap w_ALLOW "java/lang/Enum" "ordinal" "I" (.int (2 : Int32))) (F_DISALLOW_ordinal : Fld Z Z.heap w_DISALLOW "java/lang/Enum" "ordinal" "I" (.int (3 : Int32))) :
    MetFree l x (head1 (Jvm.Cond.code x code maxLocals ret :: ws) room_1) (fun av' U => av' = #[(.int i), (.int j)] ∧ Z.Warmed39 U.vm ∧ U.heap = h0) (fun _ _ _ _ _ => True) (fun _ U o U' => ∃ v L, o = .returned v ∧ Q_rm0 Z i j w_ENABLE w_DISABLE w_ALLOW w_DISALLOW h0 v U'.heap L ∧ FrameEnd U o U' L room_1.cells room_1.slots) := by
  refine MetFree.of_bodySF (plainFor_of_name pn_com_example_callweave_callweave_model_EffectOnCallbacksPinLaw) hisR ?_
  intro p e s m args below meth c s₁ Bd hml0 hP hK
  obtain ⟨rfl, hZ, hh⟩ := hP
  have hx := Bd.exec
  have hby := Bd.bytes
  have hret := Bd.returns
  have hlk : meth.locks = false := Bd.notSynchronized
  have hml : c.maxLocals = 12 := hml0
  have hown : s.vm.findClass "com/example/callweave/callweave/model/EffectOnCallbacksPinLaw" = some m.cls := findClass_of_methodNamed Bd.named
  have hnm := (name_of_methodNamed Bd.named Bd.method).1
  have X0 : Stand p l e room_1 s m #[(.int i), (.int j)] below meth c s₁ [] 0 0 := Stand.of_body Bd
  -- the walk
  have e0 : s₁.heap = h0 := by rw [← hh, Bd.state]; rfl
  have N0 := Fr.nil Z.heap.size
  show Go p e below (GO s (Q_rm0 Z i j w_ENABLE w_DISABLE w_ALLOW w_DISALLOW h0) room_1.cells room_1.slots) (s₁.setTop (entryFrame m #[(.int i), (.int j)] maxLocals))
  refine Go.st (fun t' k' => castTop (ef_rm0 m i j) k') ?_
  show Go p e below _ (s₁.setTop (mkF m 0 #[.val (.int i), .val (.int j), .unset, .unset, .unset, .unset, .unset, .unset, .unset, .unset, .unset, .unset] []))
  have ne_ENABLE_DISABLE : w_ENABLE ≠ w_DISABLE := Fld.ne F_ENABLE_ordinal F_DISABLE_ordinal (by decide)
  have ne_ENABLE_ALLOW : w_ENABLE ≠ w_ALLOW := Fld.ne F_ENABLE_ordinal F_ALLOW_ordinal (by decide)
  have ne_ENABLE_DISALLOW : w_ENABLE ≠ w_DISALLOW := Fld.ne F_ENABLE_ordinal F_DISALLOW_ordinal (by decide)
  have ne_DISABLE_ALLOW : w_DISABLE ≠ w_ALLOW := Fld.ne F_DISABLE_ordinal F_ALLOW_ordinal (by decide)
  have ne_DISABLE_DISALLOW : w_DISABLE ≠ w_DISALLOW := Fld.ne F_DISABLE_ordinal F_DISALLOW_ordinal (by decide)
  have ne_ALLOW_DISALLOW : w_ALLOW ≠ w_DISALLOW := Fld.ne F_ALLOW_ordinal F_DISALLOW_ordinal (by decide)
  refine Go.st (fun t' k' => XS.iconst X0.here hx rfl (hb hby at_0) k') ?_
  show Go p e below _ (s₁.setTop (mkF m 1 #[.val (.int i), .val (.int j), .unset, .unset, .unset, .unset, .unset, .unset, .unset, .unset, .unset, .unset] [(.int (4 : Int32))]))
  obtain ⟨T1, h1, k1, X1, e1, E1, A1, O1v, st1⟩ := newR X0 hx hZ hown (hw _ (List.mem_of_getElem? (i := 0) rfl)) (hw _ (List.mem_of_getElem? (i := 1) rfl)) e0 (g := (mkF m 1 #[.val (.int i), .val (.int j), .unset, .unset, .unset, .unset, .unset, .unset, .unset, .unset, .unset, .unset] [(.int (4 : Int32))])) rfl (hb hby at_1) rfl (by decide) (cap := 4) (by decide) (by decide) (by decide) (by decide)
  obtain ⟨b1, g1⟩ : ∃ z, z = h0.size := ⟨_, rfl⟩
  rw [← g1] at A1 st1
  refine Go.st st1 ?_
  have ne_w_ENABLE_b1 : w_ENABLE ≠ b1 := Nat.ne_of_lt (Nat.lt_of_lt_of_le (E_ENABLE.ext O0).lt (Nat.le_of_eq g1.symm))
  have ne_w_DISABLE_b1 : w_DISABLE ≠ b1 := Nat.ne_of_lt (Nat.lt_of_lt_of_le (E_DISABLE.ext O0).lt (Nat.le_of_eq g1.symm))
  have ne_w_ALLOW_b1 : w_ALLOW ≠ b1 := Nat.ne_of_lt (Nat.lt_of_lt_of_le (E_ALLOW.ext O0).lt (Nat.le_of_eq g1.symm))
  have ne_w_DISALLOW_b1 : w_DISALLOW ≠ b1 := Nat.ne_of_lt (Nat.lt_of_lt_of_le (E_DISALLOW.ext O0).lt (Nat.le_of_eq g1.symm))
  have g_b1 : Z.heap.size ≤ b1 := Nat.le_trans O0.1 (Nat.le_of_eq g1.symm)
  have O1 := own_ext_trans O0 E1
  have V_b1 : Arv Z h1 b1 k1 (.object "com/example/callweave/callweave/model/Rules$Effect") (4 : Int32) [.null, .null, .null, .null] .null := (Arv.new A1 (by decide)).pad (pad_rep [] .null 4)
  show Go p e below _ (T1.setTop (mkF m 4 #[.val (.int i), .val (.int j), .unset, .unset, .unset, .unset, .unset, .unset, .unset, .unset, .unset, .unset] [(.ref b1)]))
  refine Go.st (fun t' k' => XS.dup X1.here hx rfl (hb hby at_4) rfl rfl k') ?_
  show Go p e below _ (T1.setTop (mkF m 5 #[.val (.int i), .val (.int j), .unset, .unset, .unset, .unset, .unset, .unset, .unset, .unset, .unset, .unset] [(.ref b1), (.ref b1)]))
  refine Go.st (fun t' k' => XS.iconst X1.here hx rfl (hb hby at_5) k') ?_
  show Go p e below _ (T1.setTop (mkF m 6 #[.val (.int i), .val (.int j), .unset, .unset, .unset, .unset, .unset, .unset, .unset, .unset, .unset, .unset] [(.int (0 : Int32)), (.ref b1), (.ref b1)]))
  obtain ⟨T3, X3, e3, st3⟩ := getS2 X1 hx hZ hown (host := "") (Or.inl (hw _ (List.mem_of_getElem? (i := 2) rfl))) Via.refl e1 (S_ENABLE.ext O1) (g := (mkF m 6 #[.val (.int i), .val (.int j), .unset, .unset, .unset, .unset, .unset, .unset, .unset, .unset, .unset, .unset] [(.int (0 : Int32)), (.ref b1), (.ref b1)])) rfl (hb hby at_6)
  refine Go.st st3 ?_
  show Go p e below _ (T3.setTop (mkF m 9 #[.val (.int i), .val (.int j), .unset, .unset, .unset, .unset, .unset, .unset, .unset, .unset, .unset, .unset] [(.ref w_ENABLE), (.int (0 : Int32)), (.ref b1), (.ref b1)]))
  obtain ⟨cls4, Ars4, qs4, Szs4, Nzs4, Hss4, Gss4⟩ := (id V_b1)
  have hins4 : ¬ ((0 : Int32) < 0 ∨ cls4.slots.size ≤ ((0 : Int32)).toNatClampNeg) := inb_of Szs4 ⟨by decide, by decide⟩
  obtain ⟨T5, h5, X5, e5, W5, st5⟩ := stR X3 hx hZ e3 Ars4 (j := (0 : Int32)) hins4 rfl (Sto.ofV Ars4 qs4 O1v (Ins.self (E_ENABLE.ext O1))) (g := (mkF m 9 #[.val (.int i), .val (.int j), .unset, .unset, .unset, .unset, .unset, .unset, .unset, .unset, .unset, .unset] [(.ref w_ENABLE), (.int (0 : Int32)), (.ref b1), (.ref b1)])) rfl rfl (hb hby at_9)
  refine Go.st st5 ?_
  have V_b1_5 : Arv Z h5 b1 k1 (.object "com/example/callweave/callweave/model/Rules$Effect") (4 : Int32) [(.ref w_ENABLE), .null, .null, .null] .null := (Arv.set Ars4 qs4 Szs4 Nzs4 Hss4 Gss4 rfl W5 0 rfl (Nat.le_of_ble_eq_true rfl))
  have O5 := own_ext_wr O1 W5 g_b1
  have N5 := Fr.snoc X5 N0 g_b1
  show Go p e below _ (T5.setTop (mkF m 10 #[.val (.int i), .val (.int j), .unset, .unset, .unset, .unset, .unset, .unset, .unset, .unset, .unset, .unset] [(.ref b1)]))
  refine Go.st (fun t' k' => XS.dup X5.here hx rfl (hb hby at_10) rfl rfl k') ?_
  show Go p e below _ (T5.setTop (mkF m 11 #[.val (.int i), .val (.int j), .unset, .unset, .unset, .unset, .unset, .unset, .unset, .unset, .unset, .unset] [(.ref b1), (.ref b1)]))
  refine Go.st (fun t' k' => XS.iconst X5.here hx rfl (hb hby at_11) k') ?_
  show Go p e below _ (T5.setTop (mkF m 12 #[.val (.int i), .val (.int j), .unset, .unset, .unset, .unset, .unset, .unset, .unset, .unset, .unset, .unset] [(.int (1 : Int32)), (.ref b1), (.ref b1)]))
  obtain ⟨T7, X7, e7, st7⟩ := getS2 X5 hx hZ hown (host := "") (Or.inl (hw _ (List.mem_of_getElem? (i := 6) rfl))) Via.refl e5 (S_DISABLE.ext O5) (g := (mkF m 12 #[.val (.int i), .val (.int j), .unset, .unset, .unset, .unset, .unset, .unset, .unset, .unset, .unset, .unset] [(.int (1 : Int32)), (.ref b1), (.ref b1)])) rfl (hb hby at_12)
  refine Go.st st7 ?_
  show Go p e below _ (T7.setTop (mkF m 15 #[.val (.int i), .val (.int j), .unset, .unset, .unset, .unset, .unset, .unset, .unset, .unset, .unset, .unset] [(.ref w_DISABLE), (.int (1 : Int32)), (.ref b1), (.ref b1)]))
  obtain ⟨cls8, Ars8, qs8, Szs8, Nzs8, Hss8, Gss8⟩ := (id V_b1_5)
  have hins8 : ¬ ((1 : Int32) < 0 ∨ cls8.slots.size ≤ ((1 : Int32)).toNatClampNeg) := inb_of Szs8 ⟨by decide, by decide⟩
  obtain ⟨T9, h9, X9, e9, W9, st9⟩ := stR X7 hx hZ e7 Ars8 (j := (1 : Int32)) hins8 rfl (Sto.ofV Ars8 qs8 O1v (Ins.self (E_DISABLE.ext O5))) (g := (mkF m 15 #[.val (.int i), .val (.int j), .unset, .unset, .unset, .unset, .unset, .unset, .unset, .unset, .unset, .unset] [(.ref w_DISABLE), (.int (1 : Int32)), (.ref b1), (.ref b1)])) rfl rfl (hb hby at_15)
  refine Go.st st9 ?_
  have V_b1_9 : Arv Z h9 b1 k1 (.object "com/example/callweave/callweave/model/Rules$Effect") (4 : Int32) [(.ref w_ENABLE), (.ref w_DISABLE), .null, .null] .null := (Arv.set Ars8 qs8 Szs8 Nzs8 Hss8 Gss8 rfl W9 1 rfl (Nat.le_of_ble_eq_true rfl))
  have O9 := own_ext_wr O5 W9 g_b1
  have N9 := Fr.snoc X9 N5 g_b1
  show Go p e below _ (T9.setTop (mkF m 16 #[.val (.int i), .val (.int j), .unset, .unset, .unset, .unset, .unset, .unset, .unset, .unset, .unset, .unset] [(.ref b1)]))
  refine Go.st (fun t' k' => XS.dup X9.here hx rfl (hb hby at_16) rfl rfl k') ?_
  show Go p e below _ (T9.setTop (mkF m 17 #[.val (.int i), .val (.int j), .unset, .unset, .unset, .unset, .unset, .unset, .unset, .unset, .unset, .unset] [(.ref b1), (.ref b1)]))
  refine Go.st (fun t' k' => XS.iconst X9.here hx rfl (hb hby at_17) k') ?_
  show Go p e below _ (T9.setTop (mkF m 18 #[.val (.int i), .val (.int j), .unset, .unset, .unset, .unset, .unset, .unset, .unset, .unset, .unset, .unset] [(.int (2 : Int32)), (.ref b1), (.ref b1)]))
  obtain ⟨T11, X11, e11, st11⟩ := getS2 X9 hx hZ hown (host := "") (Or.inl (hw _ (List.mem_of_getElem? (i := 8) rfl))) Via.refl e9 (S_ALLOW.ext O9) (g := (mkF m 18 #[.val (.int i), .val (.int j), .unset, .unset, .unset, .unset, .unset, .unset, .unset, .unset, .unset, .unset] [(.int (2 : Int32)), (.ref b1), (.ref b1)])) rfl (hb hby at_18)
  refine Go.st st11 ?_
  show Go p e below _ (T11.setTop (mkF m 21 #[.val (.int i), .val (.int j), .unset, .unset, .unset, .unset, .unset, .unset, .unset, .unset, .unset, .unset] [(.ref w_ALLOW), (.int (2 : Int32)), (.ref b1), (.ref b1)]))
  obtain ⟨cls12, Ars12, qs12, Szs12, Nzs12, Hss12, Gss12⟩ := (id V_b1_9)
  have hins12 : ¬ ((2 : Int32) < 0 ∨ cls12.slots.size ≤ ((2 : Int32)).toNatClampNeg) := inb_of Szs12 ⟨by decide, by decide⟩
  obtain ⟨T13, h13, X13, e13, W13, st13⟩ := stR X11 hx hZ e11 Ars12 (j := (2 : Int32)) hins12 rfl (Sto.ofV Ars12 qs12 O1v (Ins.self (E_ALLOW.ext O9))) (g := (mkF m 21 #[.val (.int i), .val (.int j), .unset, .unset, .unset, .unset, .unset, .unset, .unset, .unset, .unset, .unset] [(.ref w_ALLOW), (.int (2 : Int32)), (.ref b1), (.ref b1)])) rfl rfl (hb hby at_21)
  refine Go.st st13 ?_
  have V_b1_13 : Arv Z h13 b1 k1 (.object "com/example/callweave/callweave/model/Rules$Effect") (4 : Int32) [(.ref w_ENABLE), (.ref w_DISABLE), (.ref w_ALLOW), .null] .null := (Arv.set Ars12 qs12 Szs12 Nzs12 Hss12 Gss12 rfl W13 2 rfl (Nat.le_of_ble_eq_true rfl))
  have O13 := own_ext_wr O9 W13 g_b1
  have N13 := Fr.snoc X13 N9 g_b1
  show Go p e below _ (T13.setTop (mkF m 22 #[.val (.int i), .val (.int j), .unset, .unset, .unset, .unset, .unset, .unset, .unset, .unset, .unset, .unset] [(.ref b1)]))
  refine Go.st (fun t' k' => XS.dup X13.here hx rfl (hb hby at_22) rfl rfl k') ?_
  show Go p e below _ (T13.setTop (mkF m 23 #[.val (.int i), .val (.int j), .unset, .unset, .unset, .unset, .unset, .unset, .unset, .unset, .unset, .unset] [(.ref b1), (.ref b1)]))
  refine Go.st (fun t' k' => XS.iconst X13.here hx rfl (hb hby at_23) k') ?_
  show Go p e below _ (T13.setTop (mkF m 24 #[.val (.int i), .val (.int j), .unset, .unset, .unset, .unset, .unset, .unset, .unset, .unset, .unset, .unset] [(.int (3 : Int32)), (.ref b1), (.ref b1)]))
  obtain ⟨T15, X15, e15, st15⟩ := getS2 X13 hx hZ hown (host := "") (Or.inl (hw _ (List.mem_of_getElem? (i := 10) rfl))) Via.refl e13 (S_DISALLOW.ext O13) (g := (mkF m 24 #[.val (.int i), .val (.int j), .unset, .unset, .unset, .unset, .unset, .unset, .unset, .unset, .unset, .unset] [(.int (3 : Int32)), (.ref b1), (.ref b1)])) rfl (hb hby at_24)
  refine Go.st st15 ?_
  show Go p e below _ (T15.setTop (mkF m 27 #[.val (.int i), .val (.int j), .unset, .unset, .unset, .unset, .unset, .unset, .unset, .unset, .unset, .unset] [(.ref w_DISALLOW), (.int (3 : Int32)), (.ref b1), (.ref b1)]))
  obtain ⟨cls16, Ars16, qs16, Szs16, Nzs16, Hss16, Gss16⟩ := (id V_b1_13)
  have hins16 : ¬ ((3 : Int32) < 0 ∨ cls16.slots.size ≤ ((3 : Int32)).toNatClampNeg) := inb_of Szs16 ⟨by decide, by decide⟩
  obtain ⟨T17, h17, X17, e17, W17, st17⟩ := stR X15 hx hZ e15 Ars16 (j := (3 : Int32)) hins16 rfl (Sto.ofV Ars16 qs16 O1v (Ins.self (E_DISALLOW.ext O13))) (g := (mkF m 27 #[.val (.int i), .val (.int j), .unset, .unset, .unset, .unset, .unset, .unset, .unset, .unset, .unset, .unset] [(.ref w_DISALLOW), (.int (3 : Int32)), (.ref b1), (.ref b1)])) rfl rfl (hb hby at_27)
  refine Go.st st17 ?_
  have V_b1_17 : Arv Z h17 b1 k1 (.object "com/example/callweave/callweave/model/Rules$Effect") (4 : Int32) [(.ref w_ENABLE), (.ref w_DISABLE), (.ref w_ALLOW), (.ref w_DISALLOW)] .null := (Arv.set Ars16 qs16 Szs16 Nzs16 Hss16 Gss16 rfl W17 3 rfl (Nat.le_of_ble_eq_true rfl))
  have O17 := own_ext_wr O13 W17 g_b1
  have N17 := Fr.snoc X17 N13 g_b1
  show Go p e below _ (T17.setTop (mkF m 28 #[.val (.int i), .val (.int j), .unset, .unset, .unset, .unset, .unset, .unset, .unset, .unset, .unset, .unset] [(.ref b1)]))
  refine Go.st (fun t' k' => XS.astoreN X17.here hx rfl (hb hby at_28) rfl rfl (l' := #[.val (.int i), .val (.int j), .val (.ref b1), .unset, .unset, .unset, .unset, .unset, .unset, .unset, .unset, .unset]) rfl k') ?_
  show Go p e below _ (T17.setTop (mkF m 29 #[.val (.int i), .val (.int j), .val (.ref b1), .unset, .unset, .unset, .unset, .unset, .unset, .unset, .unset, .unset] []))
  refine Go.st (fun t' k' => XS.iloadN X17.here hx rfl (hb hby at_29) rfl k') ?_
  show Go p e below _ (T17.setTop (mkF m 30 #[.val (.int i), .val (.int j), .val (.ref b1), .unset, .unset, .unset, .unset, .unset, .unset, .unset, .unset, .unset] [(.int i)]))
  refine Go.st (fun t' k' => XS.iconst X17.here hx rfl (hb hby at_30) k') ?_
  show Go p e below _ (T17.setTop (mkF m 31 #[.val (.int i), .val (.int j), .val (.ref b1), .unset, .unset, .unset, .unset, .unset, .unset, .unset, .unset, .unset] [(.int (3 : Int32)), (.int i)]))
  refine Go.st (fun t' k' => XS.iand X17.here hx rfl (hb hby at_31) rfl k') ?_
  show Go p e below _ (T17.setTop (mkF m 32 #[.val (.int i), .val (.int j), .val (.ref b1), .unset, .unset, .unset, .unset, .unset, .unset, .unset, .unset, .unset] [(.int (i &&& (3 : Int32)))]))
  refine Go.st (fun t' k' => XS.istoreN X17.here hx rfl (hb hby at_32) rfl (l' := #[.val (.int i), .val (.int j), .val (.ref b1), .val (.int (i &&& (3 : Int32))), .unset, .unset, .unset, .unset, .unset, .unset, .unset, .unset]) rfl k') ?_
  show Go p e below _ (T17.setTop (mkF m 33 #[.val (.int i), .val (.int j), .val (.ref b1), .val (.int (i &&& (3 : Int32))), .unset, .unset, .unset, .unset, .unset, .unset, .unset, .unset] []))
  refine Go.st (fun t' k' => XS.iloadN X17.here hx rfl (hb hby at_33) rfl k') ?_
  show Go p e below _ (T17.setTop (mkF m 34 #[.val (.int i), .val (.int j), .val (.ref b1), .val (.int (i &&& (3 : Int32))), .unset, .unset, .unset, .unset, .unset, .unset, .unset, .unset] [(.int j)]))
  refine Go.st (fun t' k' => XS.iconst X17.here hx rfl (hb hby at_34) k') ?_
  show Go p e below _ (T17.setTop (mkF m 35 #[.val (.int i), .val (.int j), .val (.ref b1), .val (.int (i &&& (3 : Int32))), .unset, .unset, .unset, .unset, .unset, .unset, .unset, .unset] [(.int (3 : Int32)), (.int j)]))
  refine Go.st (fun t' k' => XS.iand X17.here hx rfl (hb hby at_35) rfl k') ?_
  show Go p e below _ (T17.setTop (mkF m 36 #[.val (.int i), .val (.int j), .val (.ref b1), .val (.int (i &&& (3 : Int32))), .unset, .unset, .unset, .unset, .unset, .unset, .unset, .unset] [(.int (j &&& (3 : Int32)))]))
  refine Go.st (fun t' k' => XS.istore X17.here hx rfl (hb hby at_36) rfl (l' := #[.val (.int i), .val (.int j), .val (.ref b1), .val (.int (i &&& (3 : Int32))), .val (.int (j &&& (3 : Int32))), .unset, .unset, .unset, .unset, .unset, .unset, .unset]) rfl k') ?_
  show Go p e below _ (T17.setTop (mkF m 38 #[.val (.int i), .val (.int j), .val (.ref b1), .val (.int (i &&& (3 : Int32))), .val (.int (j &&& (3 : Int32))), .unset, .unset, .unset, .unset, .unset, .unset, .unset] []))
  refine Go.st (fun t' k' => XS.aloadN X17.here hx rfl (hb hby at_38) rfl rfl k') ?_
  show Go p e below _ (T17.setTop (mkF m 39 #[.val (.int i), .val (.int j), .val (.ref b1), .val (.int (i &&& (3 : Int32))), .val (.int (j &&& (3 : Int32))), .unset, .unset, .unset, .unset, .unset, .unset, .unset] [(.ref b1)]))
  refine Go.st (fun t' k' => XS.iloadN X17.here hx rfl (hb hby at_39) rfl k') ?_
  show Go p e below _ (T17.setTop (mkF m 40 #[.val (.int i), .val (.int j), .val (.ref b1), .val (.int (i &&& (3 : Int32))), .val (.int (j &&& (3 : Int32))), .unset, .unset, .unset, .unset, .unset, .unset, .unset] [(.int (i &&& (3 : Int32))), (.ref b1)]))
  obtain ⟨cla19, Ara19, qa19, Sza19, Nza19, Hsa19, Gsa19⟩ := (id V_b1_17)
  have E_at_i := own_at_exa (i &&& (3 : Int32)) E_ENABLE E_DISABLE E_ALLOW E_DISALLOW
  have hina19 : ¬ ((i &&& (3 : Int32)) < 0 ∨ cla19.slots.size ≤ ((i &&& (3 : Int32))).toNatClampNeg) := inb_of Sza19 (own_at_in i)
  have hata19 : cla19.slots[((i &&& (3 : Int32))).toNatClampNeg]? = some (.ref (own_at (i &&& (3 : Int32)) w_ENABLE w_DISABLE w_ALLOW w_DISALLOW)) := Has.at Hsa19 hina19 (own_at_get i w_ENABLE w_DISABLE w_ALLOW w_DISALLOW)
  refine Go.st (X17.aaload hx (j := (i &&& (3 : Int32))) (v := (.ref (own_at (i &&& (3 : Int32)) w_ENABLE w_DISABLE w_ALLOW w_DISALLOW))) (by rw [e17]; exact Ara19.1) (State.isArrayOf_alike hZ.alike Ara19.2.1) rfl Ara19.2.2 hina19 hata19 (g := (mkF m 40 #[.val (.int i), .val (.int j), .val (.ref b1), .val (.int (i &&& (3 : Int32))), .val (.int (j &&& (3 : Int32))), .unset, .unset, .unset, .unset, .unset, .unset, .unset] [(.int (i &&& (3 : Int32))), (.ref b1)])) rfl rfl (hb hby at_40)) ?_
  show Go p e below _ (T17.setTop (mkF m 41 #[.val (.int i), .val (.int j), .val (.ref b1), .val (.int (i &&& (3 : Int32))), .val (.int (j &&& (3 : Int32))), .unset, .unset, .unset, .unset, .unset, .unset, .unset] [(.ref (own_at (i &&& (3 : Int32)) w_ENABLE w_DISABLE w_ALLOW w_DISALLOW))]))
  refine Go.st (fun t' k' => XS.astore X17.here hx rfl (hb hby at_41) rfl rfl (l' := #[.val (.int i), .val (.int j), .val (.ref b1), .val (.int (i &&& (3 : Int32))), .val (.int (j &&& (3 : Int32))), .val (.ref (own_at (i &&& (3 : Int32)) w_ENABLE w_DISABLE w_ALLOW w_DISALLOW)), .unset, .unset, .unset, .unset, .unset, .unset]) rfl k') ?_
  show Go p e below _ (T17.setTop (mkF m 43 #[.val (.int i), .val (.int j), .val (.ref b1), .val (.int (i &&& (3 : Int32))), .val (.int (j &&& (3 : Int32))), .val (.ref (own_at (i &&& (3 : Int32)) w_ENABLE w_DISABLE w_ALLOW w_DISALLOW)), .unset, .unset, .unset, .unset, .unset, .unset] []))
  refine Go.st (fun t' k' => XS.aloadN X17.here hx rfl (hb hby at_43) rfl rfl k') ?_
  show Go p e below _ (T17.setTop (mkF m 44 #[.val (.int i), .val (.int j), .val (.ref b1), .val (.int (i &&& (3 : Int32))), .val (.int (j &&& (3 : Int32))), .val (.ref (own_at (i &&& (3 : Int32)) w_ENABLE w_DISABLE w_ALLOW w_DISALLOW)), .unset, .unset, .unset, .unset, .unset, .unset] [(.ref b1)]))
  refine Go.st (fun t' k' => XS.iload X17.here hx rfl (hb hby at_44) rfl k') ?_
  show Go p e below _ (T17.setTop (mkF m 46 #[.val (.int i), .val (.int j), .val (.ref b1), .val (.int (i &&& (3 : Int32))), .val (.int (j &&& (3 : Int32))), .val (.ref (own_at (i &&& (3 : Int32)) w_ENABLE w_DISABLE w_ALLOW w_DISALLOW)), .unset, .unset, .unset, .unset, .unset, .unset] [(.int (j &&& (3 : Int32))), (.ref b1)]))
  obtain ⟨cla20, Ara20, qa20, Sza20, Nza20, Hsa20, Gsa20⟩ := (id V_b1_17)
  have E_at_j := own_at_exa (j &&& (3 : Int32)) E_ENABLE E_DISABLE E_ALLOW E_DISALLOW
  have hina20 : ¬ ((j &&& (3 : Int32)) < 0 ∨ cla20.slots.size ≤ ((j &&& (3 : Int32))).toNatClampNeg) := inb_of Sza20 (own_at_in j)
  have hata20 : cla20.slots[((j &&& (3 : Int32))).toNatClampNeg]? = some (.ref (own_at (j &&& (3 : Int32)) w_ENABLE w_DISABLE w_ALLOW w_DISALLOW)) := Has.at Hsa20 hina20 (own_at_get j w_ENABLE w_DISABLE w_ALLOW w_DISALLOW)
  refine Go.st (X17.aaload hx (j := (j &&& (3 : Int32))) (v := (.ref (own_at (j &&& (3 : Int32)) w_ENABLE w_DISABLE w_ALLOW w_DISALLOW))) (by rw [e17]; exact Ara20.1) (State.isArrayOf_alike hZ.alike Ara20.2.1) rfl Ara20.2.2 hina20 hata20 (g := (mkF m 46 #[.val (.int i), .val (.int j), .val (.ref b1), .val (.int (i &&& (3 : Int32))), .val (.int (j &&& (3 : Int32))), .val (.ref (own_at (i &&& (3 : Int32)) w_ENABLE w_DISABLE w_ALLOW w_DISALLOW)), .unset, .unset, .unset, .unset, .unset, .unset] [(.int (j &&& (3 : Int32))), (.ref b1)])) rfl rfl (hb hby at_46)) ?_
  show Go p e below _ (T17.setTop (mkF m 47 #[.val (.int i), .val (.int j), .val (.ref b1), .val (.int (i &&& (3 : Int32))), .val (.int (j &&& (3 : Int32))), .val (.ref (own_at (i &&& (3 : Int32)) w_ENABLE w_DISABLE w_ALLOW w_DISALLOW)), .unset, .unset, .unset, .unset, .unset, .unset] [(.ref (own_at (j &&& (3 : Int32)) w_ENABLE w_DISABLE w_ALLOW w_DISALLOW))]))
  refine Go.st (fun t' k' => XS.astore X17.here hx rfl (hb hby at_47) rfl rfl (l' := #[.val (.int i), .val (.int j), .val (.ref b1), .val (.int (i &&& (3 : Int32))), .val (.int (j &&& (3 : Int32))), .val (.ref (own_at (i &&& (3 : Int32)) w_ENABLE w_DISABLE w_ALLOW w_DISALLOW)), .val (.ref (own_at (j &&& (3 : Int32)) w_ENABLE w_DISABLE w_ALLOW w_DISALLOW)), .unset, .unset, .unset, .unset, .unset]) rfl k') ?_
  show Go p e below _ (T17.setTop (mkF m 49 #[.val (.int i), .val (.int j), .val (.ref b1), .val (.int (i &&& (3 : Int32))), .val (.int (j &&& (3 : Int32))), .val (.ref (own_at (i &&& (3 : Int32)) w_ENABLE w_DISABLE w_ALLOW w_DISALLOW)), .val (.ref (own_at (j &&& (3 : Int32)) w_ENABLE w_DISABLE w_ALLOW w_DISALLOW)), .unset, .unset, .unset, .unset, .unset] []))
  refine Go.st (fun t' k' => XS.aload X17.here hx rfl (hb hby at_49) rfl rfl k') ?_
  show Go p e below _ (T17.setTop (mkF m 51 #[.val (.int i), .val (.int j), .val (.ref b1), .val (.int (i &&& (3 : Int32))), .val (.int (j &&& (3 : Int32))), .val (.ref (own_at (i &&& (3 : Int32)) w_ENABLE w_DISABLE w_ALLOW w_DISALLOW)), .val (.ref (own_at (j &&& (3 : Int32)) w_ENABLE w_DISABLE w_ALLOW w_DISALLOW)), .unset, .unset, .unset, .unset, .unset] [(.ref (own_at (i &&& (3 : Int32)) w_ENABLE w_DISABLE w_ALLOW w_DISALLOW))]))
  obtain ⟨cq21, kq21, q21a, q21b, q21c⟩ := isOf hZ e17 (E_at_i.ext O17)
  obtain ⟨_, _, ⟨T21, L21, k21, n21⟩, -, X21, ⟨Lc21, hQ21, l21, y21, z21⟩, st21⟩ := X17.virtualBack hx (y := (⟨"com/example/callweave/callweave/model/Rules$Effect", "onCallbacks", "()Z"⟩ : MethodName)) (z := (⟨"com/example/callweave/callweave/model/Rules$Effect", "onCallbacks", "()Z"⟩ : MethodName)) hown (mvT hZ (hw _ (List.mem_of_getElem? (i := 12) rfl))) (mvT hZ (hw _ (List.mem_of_getElem? (i := 13) rfl))) (notFace_of_selects (args := #[]) (mvT hZ (hw _ (List.mem_of_getElem? (i := 15) rfl)))) (mvT hZ (hw _ (List.mem_of_getElem? (i := 15) rfl))) (mvT hZ (hw _ (List.mem_of_getElem? (i := 14) rfl))) (by decide) (backOf (W := 0) (rm1 l Z a0 hw [] ((own_at (i &&& (3 : Int32)) w_ENABLE w_DISABLE w_ALLOW w_DISALLOW)) ((i &&& (3 : Int32))) w_ENABLE w_DISABLE w_ALLOW w_DISALLOW h17 O17 S_ENABLE S_DISABLE (own_at_spec i w_ENABLE w_DISABLE w_ALLOW w_DISALLOW) ne_ENABLE_DISABLE ne_ENABLE_ALLOW ne_ENABLE_DISALLOW ne_DISABLE_ALLOW ne_DISABLE_DISALLOW ne_ALLOW_DISALLOW) hZ (hw _ (List.mem_of_getElem? (i := 16) rfl)) (hw _ (List.mem_of_getElem? (i := 3) rfl)) (by decide) (by decide)) q21a q21c (g := (mkF m 51 #[.val (.int i), .val (.int j), .val (.ref b1), .val (.int (i &&& (3 : Int32))), .val (.int (j &&& (3 : Int32))), .val (.ref (own_at (i &&& (3 : Int32)) w_ENABLE w_DISABLE w_ALLOW w_DISALLOW)), .val (.ref (own_at (j &&& (3 : Int32)) w_ENABLE w_DISABLE w_ALLOW w_DISALLOW)), .unset, .unset, .unset, .unset, .unset] [(.ref (own_at (i &&& (3 : Int32)) w_ENABLE w_DISABLE w_ALLOW w_DISALLOW))])) rfl (by rw [hml]; rfl) (Steps.refl _) (argsL := []) (rest := []) (lenOf pd___Z rfl) rfl (by show 2 * 0 + _ ≤ _; exact Nat.le_of_eq rfl) (hb hby at_51) (fun _ _ => ⟨rfl, e17, (by decide : 1 + 0 ≤ _), (by decide : 4 + 0 ≤ _)⟩)
  dsimp only [Pt.U, Pt.locs, Pt.cells, Pt.slots] at X21 l21 y21 z21 st21 hQ21
  subst l21 y21 z21
  obtain ⟨rfl, rfl, e21⟩ := hQ21
  have N21 := Fr.app N17 (Fr.nil _)
  refine Go.tr st21 ?_
  show Go p e below _ (T21.setTop (mkF m 54 #[.val (.int i), .val (.int j), .val (.ref b1), .val (.int (i &&& (3 : Int32))), .val (.int (j &&& (3 : Int32))), .val (.ref (own_at (i &&& (3 : Int32)) w_ENABLE w_DISABLE w_ALLOW w_DISALLOW)), .val (.ref (own_at (j &&& (3 : Int32)) w_ENABLE w_DISABLE w_ALLOW w_DISALLOW)), .unset, .unset, .unset, .unset, .unset] [(.int (if (i &&& (3 : Int32)) < 2 then (1 : Int32) else 0))]))
  refine Go.st (fun t' k' => XS.istore X21.here hx rfl (hb hby at_54) rfl (l' := #[.val (.int i), .val (.int j), .val (.ref b1), .val (.int (i &&& (3 : Int32))), .val (.int (j &&& (3 : Int32))), .val (.ref (own_at (i &&& (3 : Int32)) w_ENABLE w_DISABLE w_ALLOW w_DISALLOW)), .val (.ref (own_at (j &&& (3 : Int32)) w_ENABLE w_DISABLE w_ALLOW w_DISALLOW)), .val (.int (if (i &&& (3 : Int32)) < 2 then (1 : Int32) else 0)), .unset, .unset, .unset, .unset]) rfl k') ?_
  show Go p e below _ (T21.setTop (mkF m 56 #[.val (.int i), .val (.int j), .val (.ref b1), .val (.int (i &&& (3 : Int32))), .val (.int (j &&& (3 : Int32))), .val (.ref (own_at (i &&& (3 : Int32)) w_ENABLE w_DISABLE w_ALLOW w_DISALLOW)), .val (.ref (own_at (j &&& (3 : Int32)) w_ENABLE w_DISABLE w_ALLOW w_DISALLOW)), .val (.int (if (i &&& (3 : Int32)) < 2 then (1 : Int32) else 0)), .unset, .unset, .unset, .unset] []))
  refine Go.st (fun t' k' => XS.aload X21.here hx rfl (hb hby at_56) rfl rfl k') ?_
  show Go p e below _ (T21.setTop (mkF m 58 #[.val (.int i), .val (.int j), .val (.ref b1), .val (.int (i &&& (3 : Int32))), .val (.int (j &&& (3 : Int32))), .val (.ref (own_at (i &&& (3 : Int32)) w_ENABLE w_DISABLE w_ALLOW w_DISALLOW)), .val (.ref (own_at (j &&& (3 : Int32)) w_ENABLE w_DISABLE w_ALLOW w_DISALLOW)), .val (.int (if (i &&& (3 : Int32)) < 2 then (1 : Int32) else 0)), .unset, .unset, .unset, .unset] [(.ref (own_at (j &&& (3 : Int32)) w_ENABLE w_DISABLE w_ALLOW w_DISALLOW))]))
  obtain ⟨cq22, kq22, q22a, q22b, q22c⟩ := isOf hZ e21 (E_at_j.ext O17)
  obtain ⟨_, _, ⟨T22, L22, k22, n22⟩, -, X22, ⟨Lc22, hQ22, l22, y22, z22⟩, st22⟩ := X21.virtualBack hx (y := (⟨"com/example/callweave/callweave/model/Rules$Effect", "onCallbacks", "()Z"⟩ : MethodName)) (z := (⟨"com/example/callweave/callweave/model/Rules$Effect", "onCallbacks", "()Z"⟩ : MethodName)) hown (mvT hZ (hw _ (List.mem_of_getElem? (i := 12) rfl))) (mvT hZ (hw _ (List.mem_of_getElem? (i := 13) rfl))) (notFace_of_selects (args := #[]) (mvT hZ (hw _ (List.mem_of_getElem? (i := 15) rfl)))) (mvT hZ (hw _ (List.mem_of_getElem? (i := 15) rfl))) (mvT hZ (hw _ (List.mem_of_getElem? (i := 14) rfl))) (by decide) (backOf (W := 0) (rm1 l Z a0 hw [] ((own_at (j &&& (3 : Int32)) w_ENABLE w_DISABLE w_ALLOW w_DISALLOW)) ((j &&& (3 : Int32))) w_ENABLE w_DISABLE w_ALLOW w_DISALLOW h17 O17 S_ENABLE S_DISABLE (own_at_spec j w_ENABLE w_DISABLE w_ALLOW w_DISALLOW) ne_ENABLE_DISABLE ne_ENABLE_ALLOW ne_ENABLE_DISALLOW ne_DISABLE_ALLOW ne_DISABLE_DISALLOW ne_ALLOW_DISALLOW) hZ (hw _ (List.mem_of_getElem? (i := 16) rfl)) (hw _ (List.mem_of_getElem? (i := 3) rfl)) (by decide) (by decide)) q22a q22c (g := (mkF m 58 #[.val (.int i), .val (.int j), .val (.ref b1), .val (.int (i &&& (3 : Int32))), .val (.int (j &&& (3 : Int32))), .val (.ref (own_at (i &&& (3 : Int32)) w_ENABLE w_DISABLE w_ALLOW w_DISALLOW)), .val (.ref (own_at (j &&& (3 : Int32)) w_ENABLE w_DISABLE w_ALLOW w_DISALLOW)), .val (.int (if (i &&& (3 : Int32)) < 2 then (1 : Int32) else 0)), .unset, .unset, .unset, .unset] [(.ref (own_at (j &&& (3 : Int32)) w_ENABLE w_DISABLE w_ALLOW w_DISALLOW))])) rfl (by rw [hml]; rfl) (Steps.refl _) (argsL := []) (rest := []) (lenOf pd___Z rfl) rfl (by show 2 * 0 + _ ≤ _; exact Nat.le_of_eq rfl) (hb hby at_58) (fun _ _ => ⟨rfl, e21, (by decide : 1 + 0 ≤ _), (by decide : 4 + 0 ≤ _)⟩)
  dsimp only [Pt.U, Pt.locs, Pt.cells, Pt.slots] at X22 l22 y22 z22 st22 hQ22
  subst l22 y22 z22
  obtain ⟨rfl, rfl, e22⟩ := hQ22
  have N22 := Fr.app N21 (Fr.nil _)
  refine Go.tr st22 ?_
  show Go p e below _ (T22.setTop (mkF m 61 #[.val (.int i), .val (.int j), .val (.ref b1), .val (.int (i &&& (3 : Int32))), .val (.int (j &&& (3 : Int32))), .val (.ref (own_at (i &&& (3 : Int32)) w_ENABLE w_DISABLE w_ALLOW w_DISALLOW)), .val (.ref (own_at (j &&& (3 : Int32)) w_ENABLE w_DISABLE w_ALLOW w_DISALLOW)), .val (.int (if (i &&& (3 : Int32)) < 2 then (1 : Int32) else 0)), .unset, .unset, .unset, .unset] [(.int (if (j &&& (3 : Int32)) < 2 then (1 : Int32) else 0))]))
  refine Go.st (fun t' k' => XS.istore X22.here hx rfl (hb hby at_61) rfl (l' := #[.val (.int i), .val (.int j), .val (.ref b1), .val (.int (i &&& (3 : Int32))), .val (.int (j &&& (3 : Int32))), .val (.ref (own_at (i &&& (3 : Int32)) w_ENABLE w_DISABLE w_ALLOW w_DISALLOW)), .val (.ref (own_at (j &&& (3 : Int32)) w_ENABLE w_DISABLE w_ALLOW w_DISALLOW)), .val (.int (if (i &&& (3 : Int32)) < 2 then (1 : Int32) else 0)), .val (.int (if (j &&& (3 : Int32)) < 2 then (1 : Int32) else 0)), .unset, .unset, .unset]) rfl k') ?_
  show Go p e below _ (T22.setTop (mkF m 63 #[.val (.int i), .val (.int j), .val (.ref b1), .val (.int (i &&& (3 : Int32))), .val (.int (j &&& (3 : Int32))), .val (.ref (own_at (i &&& (3 : Int32)) w_ENABLE w_DISABLE w_ALLOW w_DISALLOW)), .val (.ref (own_at (j &&& (3 : Int32)) w_ENABLE w_DISABLE w_ALLOW w_DISALLOW)), .val (.int (if (i &&& (3 : Int32)) < 2 then (1 : Int32) else 0)), .val (.int (if (j &&& (3 : Int32)) < 2 then (1 : Int32) else 0)), .unset, .unset, .unset] []))
  refine Go.st (fun t' k' => XS.iload X22.here hx rfl (hb hby at_63) rfl k') ?_
  show Go p e below _ (T22.setTop (mkF m 65 #[.val (.int i), .val (.int j), .val (.ref b1), .val (.int (i &&& (3 : Int32))), .val (.int (j &&& (3 : Int32))), .val (.ref (own_at (i &&& (3 : Int32)) w_ENABLE w_DISABLE w_ALLOW w_DISALLOW)), .val (.ref (own_at (j &&& (3 : Int32)) w_ENABLE w_DISABLE w_ALLOW w_DISALLOW)), .val (.int (if (i &&& (3 : Int32)) < 2 then (1 : Int32) else 0)), .val (.int (if (j &&& (3 : Int32)) < 2 then (1 : Int32) else 0)), .unset, .unset, .unset] [(.int (if (i &&& (3 : Int32)) < 2 then (1 : Int32) else 0))]))
  refine Go.st (fun t' k' => XS.iloadN X22.here hx rfl (hb hby at_65) rfl k') ?_
  show Go p e below _ (T22.setTop (mkF m 66 #[.val (.int i), .val (.int j), .val (.ref b1), .val (.int (i &&& (3 : Int32))), .val (.int (j &&& (3 : Int32))), .val (.ref (own_at (i &&& (3 : Int32)) w_ENABLE w_DISABLE w_ALLOW w_DISALLOW)), .val (.ref (own_at (j &&& (3 : Int32)) w_ENABLE w_DISABLE w_ALLOW w_DISALLOW)), .val (.int (if (i &&& (3 : Int32)) < 2 then (1 : Int32) else 0)), .val (.int (if (j &&& (3 : Int32)) < 2 then (1 : Int32) else 0)), .unset, .unset, .unset] [(.int (i &&& (3 : Int32))), (.int (if (i &&& (3 : Int32)) < 2 then (1 : Int32) else 0))]))
  refine Go.st (fun t' k' => XS.iconst X22.here hx rfl (hb hby at_66) k') ?_
  show Go p e below _ (T22.setTop (mkF m 67 #[.val (.int i), .val (.int j), .val (.ref b1), .val (.int (i &&& (3 : Int32))), .val (.int (j &&& (3 : Int32))), .val (.ref (own_at (i &&& (3 : Int32)) w_ENABLE w_DISABLE w_ALLOW w_DISALLOW)), .val (.ref (own_at (j &&& (3 : Int32)) w_ENABLE w_DISABLE w_ALLOW w_DISALLOW)), .val (.int (if (i &&& (3 : Int32)) < 2 then (1 : Int32) else 0)), .val (.int (if (j &&& (3 : Int32)) < 2 then (1 : Int32) else 0)), .unset, .unset, .unset] [(.int (2 : Int32)), (.int (i &&& (3 : Int32))), (.int (if (i &&& (3 : Int32)) < 2 then (1 : Int32) else 0))]))
  by_cases hc67_23 : (i &&& (3 : Int32)) < (2 : Int32)
  · refine Go.st (fun t' k' => XS.icmpNo X22.here hx rfl (hb hby at_67) rfl (tlt hc67_23).2.1 k') ?_
    show Go p e below _ (T22.setTop (mkF m 70 #[.val (.int i), .val (.int j), .val (.ref b1), .val (.int (i &&& (3 : Int32))), .val (.int (j &&& (3 : Int32))), .val (.ref (own_at (i &&& (3 : Int32)) w_ENABLE w_DISABLE w_ALLOW w_DISALLOW)), .val (.ref (own_at (j &&& (3 : Int32)) w_ENABLE w_DISABLE w_ALLOW w_DISALLOW)), .val (.int (if (i &&& (3 : Int32)) < 2 then (1 : Int32) else 0)), .val (.int (if (j &&& (3 : Int32)) < 2 then (1 : Int32) else 0)), .unset, .unset, .unset] [(.int (if (i &&& (3 : Int32)) < 2 then (1 : Int32) else 0))]))
    refine Go.st (fun t' k' => XS.iconst X22.here hx rfl (hb hby at_70) k') ?_
    show Go p e below _ (T22.setTop (mkF m 71 #[.val (.int i), .val (.int j), .val (.ref b1), .val (.int (i &&& (3 : Int32))), .val (.int (j &&& (3 : Int32))), .val (.ref (own_at (i &&& (3 : Int32)) w_ENABLE w_DISABLE w_ALLOW w_DISALLOW)), .val (.ref (own_at (j &&& (3 : Int32)) w_ENABLE w_DISABLE w_ALLOW w_DISALLOW)), .val (.int (if (i &&& (3 : Int32)) < 2 then (1 : Int32) else 0)), .val (.int (if (j &&& (3 : Int32)) < 2 then (1 : Int32) else 0)), .unset, .unset, .unset] [(.int (1 : Int32)), (.int (if (i &&& (3 : Int32)) < 2 then (1 : Int32) else 0))]))
    refine Go.st (fun t' k' => XS.goto X22.here hx rfl (pc0 := 71) (pc' := 75) rfl (hb hby at_71) (by decide) (by decide) k') ?_
    show Go p e below _ (T22.setTop (mkF m 75 #[.val (.int i), .val (.int j), .val (.ref b1), .val (.int (i &&& (3 : Int32))), .val (.int (j &&& (3 : Int32))), .val (.ref (own_at (i &&& (3 : Int32)) w_ENABLE w_DISABLE w_ALLOW w_DISALLOW)), .val (.ref (own_at (j &&& (3 : Int32)) w_ENABLE w_DISABLE w_ALLOW w_DISALLOW)), .val (.int (if (i &&& (3 : Int32)) < 2 then (1 : Int32) else 0)), .val (.int (if (j &&& (3 : Int32)) < 2 then (1 : Int32) else 0)), .unset, .unset, .unset] [(.int (1 : Int32)), (.int (if (i &&& (3 : Int32)) < 2 then (1 : Int32) else 0))]))
    refine Go.st (fun t' k' => XS.icmpNo X22.here hx rfl (hb hby at_75) rfl (teq (by simp [hc67_23] : (if (i &&& (3 : Int32)) < 2 then (1 : Int32) else 0) = (1 : Int32))).2 k') ?_
    show Go p e below _ (T22.setTop (mkF m 78 #[.val (.int i), .val (.int j), .val (.ref b1), .val (.int (i &&& (3 : Int32))), .val (.int (j &&& (3 : Int32))), .val (.ref (own_at (i &&& (3 : Int32)) w_ENABLE w_DISABLE w_ALLOW w_DISALLOW)), .val (.ref (own_at (j &&& (3 : Int32)) w_ENABLE w_DISABLE w_ALLOW w_DISALLOW)), .val (.int (if (i &&& (3 : Int32)) < 2 then (1 : Int32) else 0)), .val (.int (if (j &&& (3 : Int32)) < 2 then (1 : Int32) else 0)), .unset, .unset, .unset] []))
    refine Go.st (fun t' k' => XS.iload X22.here hx rfl (hb hby at_78) rfl k') ?_
    show Go p e below _ (T22.setTop (mkF m 80 #[.val (.int i), .val (.int j), .val (.ref b1), .val (.int (i &&& (3 : Int32))), .val (.int (j &&& (3 : Int32))), .val (.ref (own_at (i &&& (3 : Int32)) w_ENABLE w_DISABLE w_ALLOW w_DISALLOW)), .val (.ref (own_at (j &&& (3 : Int32)) w_ENABLE w_DISABLE w_ALLOW w_DISALLOW)), .val (.int (if (i &&& (3 : Int32)) < 2 then (1 : Int32) else 0)), .val (.int (if (j &&& (3 : Int32)) < 2 then (1 : Int32) else 0)), .unset, .unset, .unset] [(.int (if (j &&& (3 : Int32)) < 2 then (1 : Int32) else 0))]))
    refine Go.st (fun t' k' => XS.iload X22.here hx rfl (hb hby at_80) rfl k') ?_
    show Go p e below _ (T22.setTop (mkF m 82 #[.val (.int i), .val (.int j), .val (.ref b1), .val (.int (i &&& (3 : Int32))), .val (.int (j &&& (3 : Int32))), .val (.ref (own_at (i &&& (3 : Int32)) w_ENABLE w_DISABLE w_ALLOW w_DISALLOW)), .val (.ref (own_at (j &&& (3 : Int32)) w_ENABLE w_DISABLE w_ALLOW w_DISALLOW)), .val (.int (if (i &&& (3 : Int32)) < 2 then (1 : Int32) else 0)), .val (.int (if (j &&& (3 : Int32)) < 2 then (1 : Int32) else 0)), .unset, .unset, .unset] [(.int (j &&& (3 : Int32))), (.int (if (j &&& (3 : Int32)) < 2 then (1 : Int32) else 0))]))
    refine Go.st (fun t' k' => XS.iconst X22.here hx rfl (hb hby at_82) k') ?_
    show Go p e below _ (T22.setTop (mkF m 83 #[.val (.int i), .val (.int j), .val (.ref b1), .val (.int (i &&& (3 : Int32))), .val (.int (j &&& (3 : Int32))), .val (.ref (own_at (i &&& (3 : Int32)) w_ENABLE w_DISABLE w_ALLOW w_DISALLOW)), .val (.ref (own_at (j &&& (3 : Int32)) w_ENABLE w_DISABLE w_ALLOW w_DISALLOW)), .val (.int (if (i &&& (3 : Int32)) < 2 then (1 : Int32) else 0)), .val (.int (if (j &&& (3 : Int32)) < 2 then (1 : Int32) else 0)), .unset, .unset, .unset] [(.int (2 : Int32)), (.int (j &&& (3 : Int32))), (.int (if (j &&& (3 : Int32)) < 2 then (1 : Int32) else 0))]))
    by_cases hc83_24 : (j &&& (3 : Int32)) < (2 : Int32)
    · refine Go.st (fun t' k' => XS.icmpNo X22.here hx rfl (hb hby at_83) rfl (tlt hc83_24).2.1 k') ?_
      show Go p e below _ (T22.setTop (mkF m 86 #[.val (.int i), .val (.int j), .val (.ref b1), .val (.int (i &&& (3 : Int32))), .val (.int (j &&& (3 : Int32))), .val (.ref (own_at (i &&& (3 : Int32)) w_ENABLE w_DISABLE w_ALLOW w_DISALLOW)), .val (.ref (own_at (j &&& (3 : Int32)) w_ENABLE w_DISABLE w_ALLOW w_DISALLOW)), .val (.int (if (i &&& (3 : Int32)) < 2 then (1 : Int32) else 0)), .val (.int (if (j &&& (3 : Int32)) < 2 then (1 : Int32) else 0)), .unset, .unset, .unset] [(.int (if (j &&& (3 : Int32)) < 2 then (1 : Int32) else 0))]))
      refine Go.st (fun t' k' => XS.iconst X22.here hx rfl (hb hby at_86) k') ?_
      show Go p e below _ (T22.setTop (mkF m 87 #[.val (.int i), .val (.int j), .val (.ref b1), .val (.int (i &&& (3 : Int32))), .val (.int (j &&& (3 : Int32))), .val (.ref (own_at (i &&& (3 : Int32)) w_ENABLE w_DISABLE w_ALLOW w_DISALLOW)), .val (.ref (own_at (j &&& (3 : Int32)) w_ENABLE w_DISABLE w_ALLOW w_DISALLOW)), .val (.int (if (i &&& (3 : Int32)) < 2 then (1 : Int32) else 0)), .val (.int (if (j &&& (3 : Int32)) < 2 then (1 : Int32) else 0)), .unset, .unset, .unset] [(.int (1 : Int32)), (.int (if (j &&& (3 : Int32)) < 2 then (1 : Int32) else 0))]))
      refine Go.st (fun t' k' => XS.goto X22.here hx rfl (pc0 := 87) (pc' := 91) rfl (hb hby at_87) (by decide) (by decide) k') ?_
      show Go p e below _ (T22.setTop (mkF m 91 #[.val (.int i), .val (.int j), .val (.ref b1), .val (.int (i &&& (3 : Int32))), .val (.int (j &&& (3 : Int32))), .val (.ref (own_at (i &&& (3 : Int32)) w_ENABLE w_DISABLE w_ALLOW w_DISALLOW)), .val (.ref (own_at (j &&& (3 : Int32)) w_ENABLE w_DISABLE w_ALLOW w_DISALLOW)), .val (.int (if (i &&& (3 : Int32)) < 2 then (1 : Int32) else 0)), .val (.int (if (j &&& (3 : Int32)) < 2 then (1 : Int32) else 0)), .unset, .unset, .unset] [(.int (1 : Int32)), (.int (if (j &&& (3 : Int32)) < 2 then (1 : Int32) else 0))]))
      refine Go.st (fun t' k' => XS.icmpNo X22.here hx rfl (hb hby at_91) rfl (teq (by simp [hc67_23, hc83_24] : (if (j &&& (3 : Int32)) < 2 then (1 : Int32) else 0) = (1 : Int32))).2 k') ?_
      show Go p e below _ (T22.setTop (mkF m 94 #[.val (.int i), .val (.int j), .val (.ref b1), .val (.int (i &&& (3 : Int32))), .val (.int (j &&& (3 : Int32))), .val (.ref (own_at (i &&& (3 : Int32)) w_ENABLE w_DISABLE w_ALLOW w_DISALLOW)), .val (.ref (own_at (j &&& (3 : Int32)) w_ENABLE w_DISABLE w_ALLOW w_DISALLOW)), .val (.int (if (i &&& (3 : Int32)) < 2 then (1 : Int32) else 0)), .val (.int (if (j &&& (3 : Int32)) < 2 then (1 : Int32) else 0)), .unset, .unset, .unset] []))
      refine Go.st (fun t' k' => XS.iconst X22.here hx rfl (hb hby at_94) k') ?_
      show Go p e below _ (T22.setTop (mkF m 95 #[.val (.int i), .val (.int j), .val (.ref b1), .val (.int (i &&& (3 : Int32))), .val (.int (j &&& (3 : Int32))), .val (.ref (own_at (i &&& (3 : Int32)) w_ENABLE w_DISABLE w_ALLOW w_DISALLOW)), .val (.ref (own_at (j &&& (3 : Int32)) w_ENABLE w_DISABLE w_ALLOW w_DISALLOW)), .val (.int (if (i &&& (3 : Int32)) < 2 then (1 : Int32) else 0)), .val (.int (if (j &&& (3 : Int32)) < 2 then (1 : Int32) else 0)), .unset, .unset, .unset] [(.int (1 : Int32))]))
      refine Go.st (fun t' k' => XS.goto X22.here hx rfl (pc0 := 95) (pc' := 99) rfl (hb hby at_95) (by decide) (by decide) k') ?_
      show Go p e below _ (T22.setTop (mkF m 99 #[.val (.int i), .val (.int j), .val (.ref b1), .val (.int (i &&& (3 : Int32))), .val (.int (j &&& (3 : Int32))), .val (.ref (own_at (i &&& (3 : Int32)) w_ENABLE w_DISABLE w_ALLOW w_DISALLOW)), .val (.ref (own_at (j &&& (3 : Int32)) w_ENABLE w_DISABLE w_ALLOW w_DISALLOW)), .val (.int (if (i &&& (3 : Int32)) < 2 then (1 : Int32) else 0)), .val (.int (if (j &&& (3 : Int32)) < 2 then (1 : Int32) else 0)), .unset, .unset, .unset] [(.int (1 : Int32))]))
      refine Go.st (fun t' k' => XS.istore X22.here hx rfl (hb hby at_99) rfl (l' := #[.val (.int i), .val (.int j), .val (.ref b1), .val (.int (i &&& (3 : Int32))), .val (.int (j &&& (3 : Int32))), .val (.ref (own_at (i &&& (3 : Int32)) w_ENABLE w_DISABLE w_ALLOW w_DISALLOW)), .val (.ref (own_at (j &&& (3 : Int32)) w_ENABLE w_DISABLE w_ALLOW w_DISALLOW)), .val (.int (if (i &&& (3 : Int32)) < 2 then (1 : Int32) else 0)), .val (.int (if (j &&& (3 : Int32)) < 2 then (1 : Int32) else 0)), .val (.int (1 : Int32)), .unset, .unset]) rfl k') ?_
      show Go p e below _ (T22.setTop (mkF m 101 #[.val (.int i), .val (.int j), .val (.ref b1), .val (.int (i &&& (3 : Int32))), .val (.int (j &&& (3 : Int32))), .val (.ref (own_at (i &&& (3 : Int32)) w_ENABLE w_DISABLE w_ALLOW w_DISALLOW)), .val (.ref (own_at (j &&& (3 : Int32)) w_ENABLE w_DISABLE w_ALLOW w_DISALLOW)), .val (.int (if (i &&& (3 : Int32)) < 2 then (1 : Int32) else 0)), .val (.int (if (j &&& (3 : Int32)) < 2 then (1 : Int32) else 0)), .val (.int (1 : Int32)), .unset, .unset] []))
      refine Go.st (fun t' k' => XS.iload X22.here hx rfl (hb hby at_101) rfl k') ?_
      show Go p e below _ (T22.setTop (mkF m 103 #[.val (.int i), .val (.int j), .val (.ref b1), .val (.int (i &&& (3 : Int32))), .val (.int (j &&& (3 : Int32))), .val (.ref (own_at (i &&& (3 : Int32)) w_ENABLE w_DISABLE w_ALLOW w_DISALLOW)), .val (.ref (own_at (j &&& (3 : Int32)) w_ENABLE w_DISABLE w_ALLOW w_DISALLOW)), .val (.int (if (i &&& (3 : Int32)) < 2 then (1 : Int32) else 0)), .val (.int (if (j &&& (3 : Int32)) < 2 then (1 : Int32) else 0)), .val (.int (1 : Int32)), .unset, .unset] [(.int (if (i &&& (3 : Int32)) < 2 then (1 : Int32) else 0))]))
      refine Go.st (fun t' k' => XS.iload X22.here hx rfl (hb hby at_103) rfl k') ?_
      show Go p e below _ (T22.setTop (mkF m 105 #[.val (.int i), .val (.int j), .val (.ref b1), .val (.int (i &&& (3 : Int32))), .val (.int (j &&& (3 : Int32))), .val (.ref (own_at (i &&& (3 : Int32)) w_ENABLE w_DISABLE w_ALLOW w_DISALLOW)), .val (.ref (own_at (j &&& (3 : Int32)) w_ENABLE w_DISABLE w_ALLOW w_DISALLOW)), .val (.int (if (i &&& (3 : Int32)) < 2 then (1 : Int32) else 0)), .val (.int (if (j &&& (3 : Int32)) < 2 then (1 : Int32) else 0)), .val (.int (1 : Int32)), .unset, .unset] [(.int (if (j &&& (3 : Int32)) < 2 then (1 : Int32) else 0)), (.int (if (i &&& (3 : Int32)) < 2 then (1 : Int32) else 0))]))
      refine Go.st (fun t' k' => XS.icmpNo X22.here hx rfl (hb hby at_105) rfl (teq (by simp [hc67_23, hc83_24] : (if (i &&& (3 : Int32)) < 2 then (1 : Int32) else 0) = (if (j &&& (3 : Int32)) < 2 then (1 : Int32) else 0))).2 k') ?_
      show Go p e below _ (T22.setTop (mkF m 108 #[.val (.int i), .val (.int j), .val (.ref b1), .val (.int (i &&& (3 : Int32))), .val (.int (j &&& (3 : Int32))), .val (.ref (own_at (i &&& (3 : Int32)) w_ENABLE w_DISABLE w_ALLOW w_DISALLOW)), .val (.ref (own_at (j &&& (3 : Int32)) w_ENABLE w_DISABLE w_ALLOW w_DISALLOW)), .val (.int (if (i &&& (3 : Int32)) < 2 then (1 : Int32) else 0)), .val (.int (if (j &&& (3 : Int32)) < 2 then (1 : Int32) else 0)), .val (.int (1 : Int32)), .unset, .unset] []))
      refine Go.st (fun t' k' => XS.aload X22.here hx rfl (hb hby at_108) rfl rfl k') ?_
      show Go p e below _ (T22.setTop (mkF m 110 #[.val (.int i), .val (.int j), .val (.ref b1), .val (.int (i &&& (3 : Int32))), .val (.int (j &&& (3 : Int32))), .val (.ref (own_at (i &&& (3 : Int32)) w_ENABLE w_DISABLE w_ALLOW w_DISALLOW)), .val (.ref (own_at (j &&& (3 : Int32)) w_ENABLE w_DISABLE w_ALLOW w_DISALLOW)), .val (.int (if (i &&& (3 : Int32)) < 2 then (1 : Int32) else 0)), .val (.int (if (j &&& (3 : Int32)) < 2 then (1 : Int32) else 0)), .val (.int (1 : Int32)), .unset, .unset] [(.ref (own_at (i &&& (3 : Int32)) w_ENABLE w_DISABLE w_ALLOW w_DISALLOW))]))
      obtain ⟨cq25, kq25, q25a, q25b, q25c⟩ := isOf hZ e22 (E_at_i.ext O17)
      obtain ⟨_, _, ⟨T25, L25, k25, n25⟩, -, X25, ⟨Lc25, hQ25, l25, y25, z25⟩, st25⟩ := X22.virtualBack hx (y := (⟨"com/example/callweave/callweave/model/Rules$Effect", "permits", "()Z"⟩ : MethodName)) (z := (⟨"com/example/callweave/callweave/model/Rules$Effect", "permits", "()Z"⟩ : MethodName)) hown (mvT hZ (hw _ (List.mem_of_getElem? (i := 19) rfl))) (mvT hZ (hw _ (List.mem_of_getElem? (i := 20) rfl))) (notFace_of_selects (args := #[]) (mvT hZ (hw _ (List.mem_of_getElem? (i := 22) rfl)))) (mvT hZ (hw _ (List.mem_of_getElem? (i := 22) rfl))) (mvT hZ (hw _ (List.mem_of_getElem? (i := 21) rfl))) (by decide) (backOf (W := 0) (rm2 l Z a0 hw [] ((own_at (i &&& (3 : Int32)) w_ENABLE w_DISABLE w_ALLOW w_DISALLOW)) ((i &&& (3 : Int32))) w_ENABLE w_DISABLE w_ALLOW w_DISALLOW h17 O17 S_ENABLE S_ALLOW (own_at_spec i w_ENABLE w_DISABLE w_ALLOW w_DISALLOW) ne_ENABLE_DISABLE ne_ENABLE_ALLOW ne_ENABLE_DISALLOW ne_DISABLE_ALLOW ne_DISABLE_DISALLOW ne_ALLOW_DISALLOW) hZ (hw _ (List.mem_of_getElem? (i := 23) rfl)) (hw _ (List.mem_of_getElem? (i := 3) rfl)) (by decide) (by decide)) q25a q25c (g := (mkF m 110 #[.val (.int i), .val (.int j), .val (.ref b1), .val (.int (i &&& (3 : Int32))), .val (.int (j &&& (3 : Int32))), .val (.ref (own_at (i &&& (3 : Int32)) w_ENABLE w_DISABLE w_ALLOW w_DISALLOW)), .val (.ref (own_at (j &&& (3 : Int32)) w_ENABLE w_DISABLE w_ALLOW w_DISALLOW)), .val (.int (if (i &&& (3 : Int32)) < 2 then (1 : Int32) else 0)), .val (.int (if (j &&& (3 : Int32)) < 2 then (1 : Int32) else 0)), .val (.int (1 : Int32)), .unset, .unset] [(.ref (own_at (i &&& (3 : Int32)) w_ENABLE w_DISABLE w_ALLOW w_DISALLOW))])) rfl (by rw [hml]; rfl) (Steps.refl _) (argsL := []) (rest := []) (lenOf pd___Z rfl) rfl (by show 2 * 0 + _ ≤ _; exact Nat.le_of_eq rfl) (hb hby at_110) (fun _ _ => ⟨rfl, e22, (by decide : 1 + 0 ≤ _), (by decide : 4 + 0 ≤ _)⟩)
      dsimp only [Pt.U, Pt.locs, Pt.cells, Pt.slots] at X25 l25 y25 z25 st25 hQ25
      subst l25 y25 z25
      obtain ⟨rfl, rfl, e25⟩ := hQ25
      have N25 := Fr.app N22 (Fr.nil _)
      refine Go.tr st25 ?_
      show Go p e below _ (T25.setTop (mkF m 113 #[.val (.int i), .val (.int j), .val (.ref b1), .val (.int (i &&& (3 : Int32))), .val (.int (j &&& (3 : Int32))), .val (.ref (own_at (i &&& (3 : Int32)) w_ENABLE w_DISABLE w_ALLOW w_DISALLOW)), .val (.ref (own_at (j &&& (3 : Int32)) w_ENABLE w_DISABLE w_ALLOW w_DISALLOW)), .val (.int (if (i &&& (3 : Int32)) < 2 then (1 : Int32) else 0)), .val (.int (if (j &&& (3 : Int32)) < 2 then (1 : Int32) else 0)), .val (.int (1 : Int32)), .unset, .unset] [(.int (if (i &&& (3 : Int32)) = 0 ∨ (i &&& (3 : Int32)) = 2 then (1 : Int32) else 0))]))
      refine Go.st (fun t' k' => XS.aload X25.here hx rfl (hb hby at_113) rfl rfl k') ?_
      show Go p e below _ (T25.setTop (mkF m 115 #[.val (.int i), .val (.int j), .val (.ref b1), .val (.int (i &&& (3 : Int32))), .val (.int (j &&& (3 : Int32))), .val (.ref (own_at (i &&& (3 : Int32)) w_ENABLE w_DISABLE w_ALLOW w_DISALLOW)), .val (.ref (own_at (j &&& (3 : Int32)) w_ENABLE w_DISABLE w_ALLOW w_DISALLOW)), .val (.int (if (i &&& (3 : Int32)) < 2 then (1 : Int32) else 0)), .val (.int (if (j &&& (3 : Int32)) < 2 then (1 : Int32) else 0)), .val (.int (1 : Int32)), .unset, .unset] [(.ref (own_at (j &&& (3 : Int32)) w_ENABLE w_DISABLE w_ALLOW w_DISALLOW)), (.int (if (i &&& (3 : Int32)) = 0 ∨ (i &&& (3 : Int32)) = 2 then (1 : Int32) else 0))]))
      obtain ⟨cq26, kq26, q26a, q26b, q26c⟩ := isOf hZ e25 (E_at_j.ext O17)
      obtain ⟨_, _, ⟨T26, L26, k26, n26⟩, -, X26, ⟨Lc26, hQ26, l26, y26, z26⟩, st26⟩ := X25.virtualBack hx (y := (⟨"com/example/callweave/callweave/model/Rules$Effect", "permits", "()Z"⟩ : MethodName)) (z := (⟨"com/example/callweave/callweave/model/Rules$Effect", "permits", "()Z"⟩ : MethodName)) hown (mvT hZ (hw _ (List.mem_of_getElem? (i := 19) rfl))) (mvT hZ (hw _ (List.mem_of_getElem? (i := 20) rfl))) (notFace_of_selects (args := #[]) (mvT hZ (hw _ (List.mem_of_getElem? (i := 22) rfl)))) (mvT hZ (hw _ (List.mem_of_getElem? (i := 22) rfl))) (mvT hZ (hw _ (List.mem_of_getElem? (i := 21) rfl))) (by decide) (backOf (W := 1) (rm2 l Z a0 hw [] ((own_at (j &&& (3 : Int32)) w_ENABLE w_DISABLE w_ALLOW w_DISALLOW)) ((j &&& (3 : Int32))) w_ENABLE w_DISABLE w_ALLOW w_DISALLOW h17 O17 S_ENABLE S_ALLOW (own_at_spec j w_ENABLE w_DISABLE w_ALLOW w_DISALLOW) ne_ENABLE_DISABLE ne_ENABLE_ALLOW ne_ENABLE_DISALLOW ne_DISABLE_ALLOW ne_DISABLE_DISALLOW ne_ALLOW_DISALLOW) hZ (hw _ (List.mem_of_getElem? (i := 23) rfl)) (hw _ (List.mem_of_getElem? (i := 3) rfl)) (by decide) (by decide)) q26a q26c (g := (mkF m 115 #[.val (.int i), .val (.int j), .val (.ref b1), .val (.int (i &&& (3 : Int32))), .val (.int (j &&& (3 : Int32))), .val (.ref (own_at (i &&& (3 : Int32)) w_ENABLE w_DISABLE w_ALLOW w_DISALLOW)), .val (.ref (own_at (j &&& (3 : Int32)) w_ENABLE w_DISABLE w_ALLOW w_DISALLOW)), .val (.int (if (i &&& (3 : Int32)) < 2 then (1 : Int32) else 0)), .val (.int (if (j &&& (3 : Int32)) < 2 then (1 : Int32) else 0)), .val (.int (1 : Int32)), .unset, .unset] [(.ref (own_at (j &&& (3 : Int32)) w_ENABLE w_DISABLE w_ALLOW w_DISALLOW)), (.int (if (i &&& (3 : Int32)) = 0 ∨ (i &&& (3 : Int32)) = 2 then (1 : Int32) else 0))])) rfl (by rw [hml]; rfl) (Steps.refl _) (argsL := []) (rest := [(.int (if (i &&& (3 : Int32)) = 0 ∨ (i &&& (3 : Int32)) = 2 then (1 : Int32) else 0))]) (lenOf pd___Z rfl) rfl (by show 2 * 0 + _ ≤ _; exact Nat.le_of_eq rfl) (hb hby at_115) (fun _ _ => ⟨rfl, e25, (by decide : 1 + 0 ≤ _), (by decide : 4 + 0 ≤ _)⟩)
      dsimp only [Pt.U, Pt.locs, Pt.cells, Pt.slots] at X26 l26 y26 z26 st26 hQ26
      subst l26 y26 z26
      obtain ⟨rfl, rfl, e26⟩ := hQ26
      have N26 := Fr.app N25 (Fr.nil _)
      refine Go.tr st26 ?_
      show Go p e below _ (T26.setTop (mkF m 118 #[.val (.int i), .val (.int j), .val (.ref b1), .val (.int (i &&& (3 : Int32))), .val (.int (j &&& (3 : Int32))), .val (.ref (own_at (i &&& (3 : Int32)) w_ENABLE w_DISABLE w_ALLOW w_DISALLOW)), .val (.ref (own_at (j &&& (3 : Int32)) w_ENABLE w_DISABLE w_ALLOW w_DISALLOW)), .val (.int (if (i &&& (3 : Int32)) < 2 then (1 : Int32) else 0)), .val (.int (if (j &&& (3 : Int32)) < 2 then (1 : Int32) else 0)), .val (.int (1 : Int32)), .unset, .unset] [(.int (if (j &&& (3 : Int32)) = 0 ∨ (j &&& (3 : Int32)) = 2 then (1 : Int32) else 0)), (.int (if (i &&& (3 : Int32)) = 0 ∨ (i &&& (3 : Int32)) = 2 then (1 : Int32) else 0))]))
      by_cases hc118_27 : (if (i &&& (3 : Int32)) = 0 ∨ (i &&& (3 : Int32)) = 2 then (1 : Int32) else 0) = (if (j &&& (3 : Int32)) = 0 ∨ (j &&& (3 : Int32)) = 2 then (1 : Int32) else 0)
      · refine Go.st (fun t' k' => XS.icmpNo X26.here hx rfl (hb hby at_118) rfl (teq hc118_27).2 k') ?_
        show Go p e below _ (T26.setTop (mkF m 121 #[.val (.int i), .val (.int j), .val (.ref b1), .val (.int (i &&& (3 : Int32))), .val (.int (j &&& (3 : Int32))), .val (.ref (own_at (i &&& (3 : Int32)) w_ENABLE w_DISABLE w_ALLOW w_DISALLOW)), .val (.ref (own_at (j &&& (3 : Int32)) w_ENABLE w_DISABLE w_ALLOW w_DISALLOW)), .val (.int (if (i &&& (3 : Int32)) < 2 then (1 : Int32) else 0)), .val (.int (if (j &&& (3 : Int32)) < 2 then (1 : Int32) else 0)), .val (.int (1 : Int32)), .unset, .unset] []))
        refine Go.st (fun t' k' => XS.iconst X26.here hx rfl (hb hby at_121) k') ?_
        show Go p e below _ (T26.setTop (mkF m 122 #[.val (.int i), .val (.int j), .val (.ref b1), .val (.int (i &&& (3 : Int32))), .val (.int (j &&& (3 : Int32))), .val (.ref (own_at (i &&& (3 : Int32)) w_ENABLE w_DISABLE w_ALLOW w_DISALLOW)), .val (.ref (own_at (j &&& (3 : Int32)) w_ENABLE w_DISABLE w_ALLOW w_DISALLOW)), .val (.int (if (i &&& (3 : Int32)) < 2 then (1 : Int32) else 0)), .val (.int (if (j &&& (3 : Int32)) < 2 then (1 : Int32) else 0)), .val (.int (1 : Int32)), .unset, .unset] [(.int (1 : Int32))]))
        refine Go.st (fun t' k' => XS.goto X26.here hx rfl (pc0 := 122) (pc' := 126) rfl (hb hby at_122) (by decide) (by decide) k') ?_
        show Go p e below _ (T26.setTop (mkF m 126 #[.val (.int i), .val (.int j), .val (.ref b1), .val (.int (i &&& (3 : Int32))), .val (.int (j &&& (3 : Int32))), .val (.ref (own_at (i &&& (3 : Int32)) w_ENABLE w_DISABLE w_ALLOW w_DISALLOW)), .val (.ref (own_at (j &&& (3 : Int32)) w_ENABLE w_DISABLE w_ALLOW w_DISALLOW)), .val (.int (if (i &&& (3 : Int32)) < 2 then (1 : Int32) else 0)), .val (.int (if (j &&& (3 : Int32)) < 2 then (1 : Int32) else 0)), .val (.int (1 : Int32)), .unset, .unset] [(.int (1 : Int32))]))
        refine Go.st (fun t' k' => XS.istore X26.here hx rfl (hb hby at_126) rfl (l' := #[.val (.int i), .val (.int j), .val (.ref b1), .val (.int (i &&& (3 : Int32))), .val (.int (j &&& (3 : Int32))), .val (.ref (own_at (i &&& (3 : Int32)) w_ENABLE w_DISABLE w_ALLOW w_DISALLOW)), .val (.ref (own_at (j &&& (3 : Int32)) w_ENABLE w_DISABLE w_ALLOW w_DISALLOW)), .val (.int (if (i &&& (3 : Int32)) < 2 then (1 : Int32) else 0)), .val (.int (if (j &&& (3 : Int32)) < 2 then (1 : Int32) else 0)), .val (.int (1 : Int32)), .val (.int (1 : Int32)), .unset]) rfl k') ?_
        show Go p e below _ (T26.setTop (mkF m 128 #[.val (.int i), .val (.int j), .val (.ref b1), .val (.int (i &&& (3 : Int32))), .val (.int (j &&& (3 : Int32))), .val (.ref (own_at (i &&& (3 : Int32)) w_ENABLE w_DISABLE w_ALLOW w_DISALLOW)), .val (.ref (own_at (j &&& (3 : Int32)) w_ENABLE w_DISABLE w_ALLOW w_DISALLOW)), .val (.int (if (i &&& (3 : Int32)) < 2 then (1 : Int32) else 0)), .val (.int (if (j &&& (3 : Int32)) < 2 then (1 : Int32) else 0)), .val (.int (1 : Int32)), .val (.int (1 : Int32)), .unset] []))
        refine Go.st (fun t' k' => XS.iload X26.here hx rfl (hb hby at_128) rfl k') ?_
        show Go p e below _ (T26.setTop (mkF m 130 #[.val (.int i), .val (.int j), .val (.ref b1), .val (.int (i &&& (3 : Int32))), .val (.int (j &&& (3 : Int32))), .val (.ref (own_at (i &&& (3 : Int32)) w_ENABLE w_DISABLE w_ALLOW w_DISALLOW)), .val (.ref (own_at (j &&& (3 : Int32)) w_ENABLE w_DISABLE w_ALLOW w_DISALLOW)), .val (.int (if (i &&& (3 : Int32)) < 2 then (1 : Int32) else 0)), .val (.int (if (j &&& (3 : Int32)) < 2 then (1 : Int32) else 0)), .val (.int (1 : Int32)), .val (.int (1 : Int32)), .unset] [(.int (1 : Int32))]))
        refine Go.st (fun t' k' => XS.iloadN X26.here hx rfl (hb hby at_130) rfl k') ?_
        show Go p e below _ (T26.setTop (mkF m 131 #[.val (.int i), .val (.int j), .val (.ref b1), .val (.int (i &&& (3 : Int32))), .val (.int (j &&& (3 : Int32))), .val (.ref (own_at (i &&& (3 : Int32)) w_ENABLE w_DISABLE w_ALLOW w_DISALLOW)), .val (.ref (own_at (j &&& (3 : Int32)) w_ENABLE w_DISABLE w_ALLOW w_DISALLOW)), .val (.int (if (i &&& (3 : Int32)) < 2 then (1 : Int32) else 0)), .val (.int (if (j &&& (3 : Int32)) < 2 then (1 : Int32) else 0)), .val (.int (1 : Int32)), .val (.int (1 : Int32)), .unset] [(.int (i &&& (3 : Int32))), (.int (1 : Int32))]))
        refine Go.st (fun t' k' => XS.iload X26.here hx rfl (hb hby at_131) rfl k') ?_
        show Go p e below _ (T26.setTop (mkF m 133 #[.val (.int i), .val (.int j), .val (.ref b1), .val (.int (i &&& (3 : Int32))), .val (.int (j &&& (3 : Int32))), .val (.ref (own_at (i &&& (3 : Int32)) w_ENABLE w_DISABLE w_ALLOW w_DISALLOW)), .val (.ref (own_at (j &&& (3 : Int32)) w_ENABLE w_DISABLE w_ALLOW w_DISALLOW)), .val (.int (if (i &&& (3 : Int32)) < 2 then (1 : Int32) else 0)), .val (.int (if (j &&& (3 : Int32)) < 2 then (1 : Int32) else 0)), .val (.int (1 : Int32)), .val (.int (1 : Int32)), .unset] [(.int (j &&& (3 : Int32))), (.int (i &&& (3 : Int32))), (.int (1 : Int32))]))
        by_cases hc133_28 : (i &&& (3 : Int32)) = (j &&& (3 : Int32))
        · refine Go.st (fun t' k' => XS.icmpNo X26.here hx rfl (hb hby at_133) rfl (teq hc133_28).2 k') ?_
          show Go p e below _ (T26.setTop (mkF m 136 #[.val (.int i), .val (.int j), .val (.ref b1), .val (.int (i &&& (3 : Int32))), .val (.int (j &&& (3 : Int32))), .val (.ref (own_at (i &&& (3 : Int32)) w_ENABLE w_DISABLE w_ALLOW w_DISALLOW)), .val (.ref (own_at (j &&& (3 : Int32)) w_ENABLE w_DISABLE w_ALLOW w_DISALLOW)), .val (.int (if (i &&& (3 : Int32)) < 2 then (1 : Int32) else 0)), .val (.int (if (j &&& (3 : Int32)) < 2 then (1 : Int32) else 0)), .val (.int (1 : Int32)), .val (.int (1 : Int32)), .unset] [(.int (1 : Int32))]))
          refine Go.st (fun t' k' => XS.iconst X26.here hx rfl (hb hby at_136) k') ?_
          show Go p e below _ (T26.setTop (mkF m 137 #[.val (.int i), .val (.int j), .val (.ref b1), .val (.int (i &&& (3 : Int32))), .val (.int (j &&& (3 : Int32))), .val (.ref (own_at (i &&& (3 : Int32)) w_ENABLE w_DISABLE w_ALLOW w_DISALLOW)), .val (.ref (own_at (j &&& (3 : Int32)) w_ENABLE w_DISABLE w_ALLOW w_DISALLOW)), .val (.int (if (i &&& (3 : Int32)) < 2 then (1 : Int32) else 0)), .val (.int (if (j &&& (3 : Int32)) < 2 then (1 : Int32) else 0)), .val (.int (1 : Int32)), .val (.int (1 : Int32)), .unset] [(.int (1 : Int32)), (.int (1 : Int32))]))
          refine Go.st (fun t' k' => XS.goto X26.here hx rfl (pc0 := 137) (pc' := 141) rfl (hb hby at_137) (by decide) (by decide) k') ?_
          show Go p e below _ (T26.setTop (mkF m 141 #[.val (.int i), .val (.int j), .val (.ref b1), .val (.int (i &&& (3 : Int32))), .val (.int (j &&& (3 : Int32))), .val (.ref (own_at (i &&& (3 : Int32)) w_ENABLE w_DISABLE w_ALLOW w_DISALLOW)), .val (.ref (own_at (j &&& (3 : Int32)) w_ENABLE w_DISABLE w_ALLOW w_DISALLOW)), .val (.int (if (i &&& (3 : Int32)) < 2 then (1 : Int32) else 0)), .val (.int (if (j &&& (3 : Int32)) < 2 then (1 : Int32) else 0)), .val (.int (1 : Int32)), .val (.int (1 : Int32)), .unset] [(.int (1 : Int32)), (.int (1 : Int32))]))
          refine Go.st (fun t' k' => XS.icmpNo X26.here hx rfl (hb hby at_141) rfl (teq (by decide : (1 : Int32) = (1 : Int32))).2 k') ?_
          show Go p e below _ (T26.setTop (mkF m 144 #[.val (.int i), .val (.int j), .val (.ref b1), .val (.int (i &&& (3 : Int32))), .val (.int (j &&& (3 : Int32))), .val (.ref (own_at (i &&& (3 : Int32)) w_ENABLE w_DISABLE w_ALLOW w_DISALLOW)), .val (.ref (own_at (j &&& (3 : Int32)) w_ENABLE w_DISABLE w_ALLOW w_DISALLOW)), .val (.int (if (i &&& (3 : Int32)) < 2 then (1 : Int32) else 0)), .val (.int (if (j &&& (3 : Int32)) < 2 then (1 : Int32) else 0)), .val (.int (1 : Int32)), .val (.int (1 : Int32)), .unset] []))
          refine Go.st (fun t' k' => XS.iconst X26.here hx rfl (hb hby at_144) k') ?_
          show Go p e below _ (T26.setTop (mkF m 145 #[.val (.int i), .val (.int j), .val (.ref b1), .val (.int (i &&& (3 : Int32))), .val (.int (j &&& (3 : Int32))), .val (.ref (own_at (i &&& (3 : Int32)) w_ENABLE w_DISABLE w_ALLOW w_DISALLOW)), .val (.ref (own_at (j &&& (3 : Int32)) w_ENABLE w_DISABLE w_ALLOW w_DISALLOW)), .val (.int (if (i &&& (3 : Int32)) < 2 then (1 : Int32) else 0)), .val (.int (if (j &&& (3 : Int32)) < 2 then (1 : Int32) else 0)), .val (.int (1 : Int32)), .val (.int (1 : Int32)), .unset] [(.int (1 : Int32))]))
          refine Go.st (fun t' k' => XS.goto X26.here hx rfl (pc0 := 145) (pc' := 149) rfl (hb hby at_145) (by decide) (by decide) k') ?_
          show Go p e below _ (T26.setTop (mkF m 149 #[.val (.int i), .val (.int j), .val (.ref b1), .val (.int (i &&& (3 : Int32))), .val (.int (j &&& (3 : Int32))), .val (.ref (own_at (i &&& (3 : Int32)) w_ENABLE w_DISABLE w_ALLOW w_DISALLOW)), .val (.ref (own_at (j &&& (3 : Int32)) w_ENABLE w_DISABLE w_ALLOW w_DISALLOW)), .val (.int (if (i &&& (3 : Int32)) < 2 then (1 : Int32) else 0)), .val (.int (if (j &&& (3 : Int32)) < 2 then (1 : Int32) else 0)), .val (.int (1 : Int32)), .val (.int (1 : Int32)), .unset] [(.int (1 : Int32))]))
          refine Go.st (fun t' k' => XS.istore X26.here hx rfl (hb hby at_149) rfl (l' := #[.val (.int i), .val (.int j), .val (.ref b1), .val (.int (i &&& (3 : Int32))), .val (.int (j &&& (3 : Int32))), .val (.ref (own_at (i &&& (3 : Int32)) w_ENABLE w_DISABLE w_ALLOW w_DISALLOW)), .val (.ref (own_at (j &&& (3 : Int32)) w_ENABLE w_DISABLE w_ALLOW w_DISALLOW)), .val (.int (if (i &&& (3 : Int32)) < 2 then (1 : Int32) else 0)), .val (.int (if (j &&& (3 : Int32)) < 2 then (1 : Int32) else 0)), .val (.int (1 : Int32)), .val (.int (1 : Int32)), .val (.int (1 : Int32))]) rfl k') ?_
          show Go p e below _ (T26.setTop (mkF m 151 #[.val (.int i), .val (.int j), .val (.ref b1), .val (.int (i &&& (3 : Int32))), .val (.int (j &&& (3 : Int32))), .val (.ref (own_at (i &&& (3 : Int32)) w_ENABLE w_DISABLE w_ALLOW w_DISALLOW)), .val (.ref (own_at (j &&& (3 : Int32)) w_ENABLE w_DISABLE w_ALLOW w_DISALLOW)), .val (.int (if (i &&& (3 : Int32)) < 2 then (1 : Int32) else 0)), .val (.int (if (j &&& (3 : Int32)) < 2 then (1 : Int32) else 0)), .val (.int (1 : Int32)), .val (.int (1 : Int32)), .val (.int (1 : Int32))] []))
          refine Go.st (fun t' k' => XS.iload X26.here hx rfl (hb hby at_151) rfl k') ?_
          show Go p e below _ (T26.setTop (mkF m 153 #[.val (.int i), .val (.int j), .val (.ref b1), .val (.int (i &&& (3 : Int32))), .val (.int (j &&& (3 : Int32))), .val (.ref (own_at (i &&& (3 : Int32)) w_ENABLE w_DISABLE w_ALLOW w_DISALLOW)), .val (.ref (own_at (j &&& (3 : Int32)) w_ENABLE w_DISABLE w_ALLOW w_DISALLOW)), .val (.int (if (i &&& (3 : Int32)) < 2 then (1 : Int32) else 0)), .val (.int (if (j &&& (3 : Int32)) < 2 then (1 : Int32) else 0)), .val (.int (1 : Int32)), .val (.int (1 : Int32)), .val (.int (1 : Int32))] [(.int (1 : Int32))]))
          refine Go.st (fun t' k' => XS.ifNo X26.here hx rfl (hb hby at_153) rfl ((if0 _ _).trans (feq (by decide : ¬ ((1 : Int32) = (0 : Int32)))).1) k') ?_
          show Go p e below _ (T26.setTop (mkF m 156 #[.val (.int i), .val (.int j), .val (.ref b1), .val (.int (i &&& (3 : Int32))), .val (.int (j &&& (3 : Int32))), .val (.ref (own_at (i &&& (3 : Int32)) w_ENABLE w_DISABLE w_ALLOW w_DISALLOW)), .val (.ref (own_at (j &&& (3 : Int32)) w_ENABLE w_DISABLE w_ALLOW w_DISALLOW)), .val (.int (if (i &&& (3 : Int32)) < 2 then (1 : Int32) else 0)), .val (.int (if (j &&& (3 : Int32)) < 2 then (1 : Int32) else 0)), .val (.int (1 : Int32)), .val (.int (1 : Int32)), .val (.int (1 : Int32))] []))
          refine Go.st (fun t' k' => XS.iload X26.here hx rfl (hb hby at_156) rfl k') ?_
          show Go p e below _ (T26.setTop (mkF m 158 #[.val (.int i), .val (.int j), .val (.ref b1), .val (.int (i &&& (3 : Int32))), .val (.int (j &&& (3 : Int32))), .val (.ref (own_at (i &&& (3 : Int32)) w_ENABLE w_DISABLE w_ALLOW w_DISALLOW)), .val (.ref (own_at (j &&& (3 : Int32)) w_ENABLE w_DISABLE w_ALLOW w_DISALLOW)), .val (.int (if (i &&& (3 : Int32)) < 2 then (1 : Int32) else 0)), .val (.int (if (j &&& (3 : Int32)) < 2 then (1 : Int32) else 0)), .val (.int (1 : Int32)), .val (.int (1 : Int32)), .val (.int (1 : Int32))] [(.int (1 : Int32))]))
          refine Go.st (fun t' k' => XS.ifNo X26.here hx rfl (hb hby at_158) rfl ((if0 _ _).trans (feq (by decide : ¬ ((1 : Int32) = (0 : Int32)))).1) k') ?_
          show Go p e below _ (T26.setTop (mkF m 161 #[.val (.int i), .val (.int j), .val (.ref b1), .val (.int (i &&& (3 : Int32))), .val (.int (j &&& (3 : Int32))), .val (.ref (own_at (i &&& (3 : Int32)) w_ENABLE w_DISABLE w_ALLOW w_DISALLOW)), .val (.ref (own_at (j &&& (3 : Int32)) w_ENABLE w_DISABLE w_ALLOW w_DISALLOW)), .val (.int (if (i &&& (3 : Int32)) < 2 then (1 : Int32) else 0)), .val (.int (if (j &&& (3 : Int32)) < 2 then (1 : Int32) else 0)), .val (.int (1 : Int32)), .val (.int (1 : Int32)), .val (.int (1 : Int32))] []))
          refine Go.st (fun t' k' => XS.iconst X26.here hx rfl (hb hby at_161) k') ?_
          show Go p e below _ (T26.setTop (mkF m 162 #[.val (.int i), .val (.int j), .val (.ref b1), .val (.int (i &&& (3 : Int32))), .val (.int (j &&& (3 : Int32))), .val (.ref (own_at (i &&& (3 : Int32)) w_ENABLE w_DISABLE w_ALLOW w_DISALLOW)), .val (.ref (own_at (j &&& (3 : Int32)) w_ENABLE w_DISABLE w_ALLOW w_DISALLOW)), .val (.int (if (i &&& (3 : Int32)) < 2 then (1 : Int32) else 0)), .val (.int (if (j &&& (3 : Int32)) < 2 then (1 : Int32) else 0)), .val (.int (1 : Int32)), .val (.int (1 : Int32)), .val (.int (1 : Int32))] [(.int (1 : Int32))]))
          refine Go.st (fun t' k' => XS.goto X26.here hx rfl (pc0 := 162) (pc' := 166) rfl (hb hby at_162) (by decide) (by decide) k') ?_
          show Go p e below _ (T26.setTop (mkF m 166 #[.val (.int i), .val (.int j), .val (.ref b1), .val (.int (i &&& (3 : Int32))), .val (.int (j &&& (3 : Int32))), .val (.ref (own_at (i &&& (3 : Int32)) w_ENABLE w_DISABLE w_ALLOW w_DISALLOW)), .val (.ref (own_at (j &&& (3 : Int32)) w_ENABLE w_DISABLE w_ALLOW w_DISALLOW)), .val (.int (if (i &&& (3 : Int32)) < 2 then (1 : Int32) else 0)), .val (.int (if (j &&& (3 : Int32)) < 2 then (1 : Int32) else 0)), .val (.int (1 : Int32)), .val (.int (1 : Int32)), .val (.int (1 : Int32))] [(.int (1 : Int32))]))
          exact Go.outN X26 hx hlk (t := .boolean) hret (by simp) (hb hby at_166) (Q := Q_rm0 Z i j w_ENABLE w_DISABLE w_ALLOW w_DISALLOW h0) (by rw [e26]; exact ⟨rfl, N26⟩) (by decide) (by decide)
        · exact absurd (own_apart i j (by simp [hc67_23, hc83_24]) (own_ite_iff hc118_27)) hc133_28
      · refine Go.st (fun t' k' => XS.icmpYes X26.here hx rfl (pc0 := 118) (pc' := 125) rfl (hb hby at_118) rfl (feq hc118_27).2 (by decide) (by decide) k') ?_
        show Go p e below _ (T26.setTop (mkF m 125 #[.val (.int i), .val (.int j), .val (.ref b1), .val (.int (i &&& (3 : Int32))), .val (.int (j &&& (3 : Int32))), .val (.ref (own_at (i &&& (3 : Int32)) w_ENABLE w_DISABLE w_ALLOW w_DISALLOW)), .val (.ref (own_at (j &&& (3 : Int32)) w_ENABLE w_DISABLE w_ALLOW w_DISALLOW)), .val (.int (if (i &&& (3 : Int32)) < 2 then (1 : Int32) else 0)), .val (.int (if (j &&& (3 : Int32)) < 2 then (1 : Int32) else 0)), .val (.int (1 : Int32)), .unset, .unset] []))
        refine Go.st (fun t' k' => XS.iconst X26.here hx rfl (hb hby at_125) k') ?_
        show Go p e below _ (T26.setTop (mkF m 126 #[.val (.int i), .val (.int j), .val (.ref b1), .val (.int (i &&& (3 : Int32))), .val (.int (j &&& (3 : Int32))), .val (.ref (own_at (i &&& (3 : Int32)) w_ENABLE w_DISABLE w_ALLOW w_DISALLOW)), .val (.ref (own_at (j &&& (3 : Int32)) w_ENABLE w_DISABLE w_ALLOW w_DISALLOW)), .val (.int (if (i &&& (3 : Int32)) < 2 then (1 : Int32) else 0)), .val (.int (if (j &&& (3 : Int32)) < 2 then (1 : Int32) else 0)), .val (.int (1 : Int32)), .unset, .unset] [(.int (0 : Int32))]))
        refine Go.st (fun t' k' => XS.istore X26.here hx rfl (hb hby at_126) rfl (l' := #[.val (.int i), .val (.int j), .val (.ref b1), .val (.int (i &&& (3 : Int32))), .val (.int (j &&& (3 : Int32))), .val (.ref (own_at (i &&& (3 : Int32)) w_ENABLE w_DISABLE w_ALLOW w_DISALLOW)), .val (.ref (own_at (j &&& (3 : Int32)) w_ENABLE w_DISABLE w_ALLOW w_DISALLOW)), .val (.int (if (i &&& (3 : Int32)) < 2 then (1 : Int32) else 0)), .val (.int (if (j &&& (3 : Int32)) < 2 then (1 : Int32) else 0)), .val (.int (1 : Int32)), .val (.int (0 : Int32)), .unset]) rfl k') ?_
        show Go p e below _ (T26.setTop (mkF m 128 #[.val (.int i), .val (.int j), .val (.ref b1), .val (.int (i &&& (3 : Int32))), .val (.int (j &&& (3 : Int32))), .val (.ref (own_at (i &&& (3 : Int32)) w_ENABLE w_DISABLE w_ALLOW w_DISALLOW)), .val (.ref (own_at (j &&& (3 : Int32)) w_ENABLE w_DISABLE w_ALLOW w_DISALLOW)), .val (.int (if (i &&& (3 : Int32)) < 2 then (1 : Int32) else 0)), .val (.int (if (j &&& (3 : Int32)) < 2 then (1 : Int32) else 0)), .val (.int (1 : Int32)), .val (.int (0 : Int32)), .unset] []))
        refine Go.st (fun t' k' => XS.iload X26.here hx rfl (hb hby at_128) rfl k') ?_
        show Go p e below _ (T26.setTop (mkF m 130 #[.val (.int i), .val (.int j), .val (.ref b1), .val (.int (i &&& (3 : Int32))), .val (.int (j &&& (3 : Int32))), .val (.ref (own_at (i &&& (3 : Int32)) w_ENABLE w_DISABLE w_ALLOW w_DISALLOW)), .val (.ref (own_at (j &&& (3 : Int32)) w_ENABLE w_DISABLE w_ALLOW w_DISALLOW)), .val (.int (if (i &&& (3 : Int32)) < 2 then (1 : Int32) else 0)), .val (.int (if (j &&& (3 : Int32)) < 2 then (1 : Int32) else 0)), .val (.int (1 : Int32)), .val (.int (0 : Int32)), .unset] [(.int (0 : Int32))]))
        refine Go.st (fun t' k' => XS.iloadN X26.here hx rfl (hb hby at_130) rfl k') ?_
        show Go p e below _ (T26.setTop (mkF m 131 #[.val (.int i), .val (.int j), .val (.ref b1), .val (.int (i &&& (3 : Int32))), .val (.int (j &&& (3 : Int32))), .val (.ref (own_at (i &&& (3 : Int32)) w_ENABLE w_DISABLE w_ALLOW w_DISALLOW)), .val (.ref (own_at (j &&& (3 : Int32)) w_ENABLE w_DISABLE w_ALLOW w_DISALLOW)), .val (.int (if (i &&& (3 : Int32)) < 2 then (1 : Int32) else 0)), .val (.int (if (j &&& (3 : Int32)) < 2 then (1 : Int32) else 0)), .val (.int (1 : Int32)), .val (.int (0 : Int32)), .unset] [(.int (i &&& (3 : Int32))), (.int (0 : Int32))]))
        refine Go.st (fun t' k' => XS.iload X26.here hx rfl (hb hby at_131) rfl k') ?_
        show Go p e below _ (T26.setTop (mkF m 133 #[.val (.int i), .val (.int j), .val (.ref b1), .val (.int (i &&& (3 : Int32))), .val (.int (j &&& (3 : Int32))), .val (.ref (own_at (i &&& (3 : Int32)) w_ENABLE w_DISABLE w_ALLOW w_DISALLOW)), .val (.ref (own_at (j &&& (3 : Int32)) w_ENABLE w_DISABLE w_ALLOW w_DISALLOW)), .val (.int (if (i &&& (3 : Int32)) < 2 then (1 : Int32) else 0)), .val (.int (if (j &&& (3 : Int32)) < 2 then (1 : Int32) else 0)), .val (.int (1 : Int32)), .val (.int (0 : Int32)), .unset] [(.int (j &&& (3 : Int32))), (.int (i &&& (3 : Int32))), (.int (0 : Int32))]))
        by_cases hc133_29 : (i &&& (3 : Int32)) = (j &&& (3 : Int32))
        · exact absurd (by rw [hc133_29]) hc118_27
        · refine Go.st (fun t' k' => XS.icmpYes X26.here hx rfl (pc0 := 133) (pc' := 140) rfl (hb hby at_133) rfl (feq hc133_29).2 (by decide) (by decide) k') ?_
          show Go p e below _ (T26.setTop (mkF m 140 #[.val (.int i), .val (.int j), .val (.ref b1), .val (.int (i &&& (3 : Int32))), .val (.int (j &&& (3 : Int32))), .val (.ref (own_at (i &&& (3 : Int32)) w_ENABLE w_DISABLE w_ALLOW w_DISALLOW)), .val (.ref (own_at (j &&& (3 : Int32)) w_ENABLE w_DISABLE w_ALLOW w_DISALLOW)), .val (.int (if (i &&& (3 : Int32)) < 2 then (1 : Int32) else 0)), .val (.int (if (j &&& (3 : Int32)) < 2 then (1 : Int32) else 0)), .val (.int (1 : Int32)), .val (.int (0 : Int32)), .unset] [(.int (0 : Int32))]))
          refine Go.st (fun t' k' => XS.iconst X26.here hx rfl (hb hby at_140) k') ?_
          show Go p e below _ (T26.setTop (mkF m 141 #[.val (.int i), .val (.int j), .val (.ref b1), .val (.int (i &&& (3 : Int32))), .val (.int (j &&& (3 : Int32))), .val (.ref (own_at (i &&& (3 : Int32)) w_ENABLE w_DISABLE w_ALLOW w_DISALLOW)), .val (.ref (own_at (j &&& (3 : Int32)) w_ENABLE w_DISABLE w_ALLOW w_DISALLOW)), .val (.int (if (i &&& (3 : Int32)) < 2 then (1 : Int32) else 0)), .val (.int (if (j &&& (3 : Int32)) < 2 then (1 : Int32) else 0)), .val (.int (1 : Int32)), .val (.int (0 : Int32)), .unset] [(.int (0 : Int32)), (.int (0 : Int32))]))
          refine Go.st (fun t' k' => XS.icmpNo X26.here hx rfl (hb hby at_141) rfl (teq (by decide : (0 : Int32) = (0 : Int32))).2 k') ?_
          show Go p e below _ (T26.setTop (mkF m 144 #[.val (.int i), .val (.int j), .val (.ref b1), .val (.int (i &&& (3 : Int32))), .val (.int (j &&& (3 : Int32))), .val (.ref (own_at (i &&& (3 : Int32)) w_ENABLE w_DISABLE w_ALLOW w_DISALLOW)), .val (.ref (own_at (j &&& (3 : Int32)) w_ENABLE w_DISABLE w_ALLOW w_DISALLOW)), .val (.int (if (i &&& (3 : Int32)) < 2 then (1 : Int32) else 0)), .val (.int (if (j &&& (3 : Int32)) < 2 then (1 : Int32) else 0)), .val (.int (1 : Int32)), .val (.int (0 : Int32)), .unset] []))
          refine Go.st (fun t' k' => XS.iconst X26.here hx rfl (hb hby at_144) k') ?_
          show Go p e below _ (T26.setTop (mkF m 145 #[.val (.int i), .val (.int j), .val (.ref b1), .val (.int (i &&& (3 : Int32))), .val (.int (j &&& (3 : Int32))), .val (.ref (own_at (i &&& (3 : Int32)) w_ENABLE w_DISABLE w_ALLOW w_DISALLOW)), .val (.ref (own_at (j &&& (3 : Int32)) w_ENABLE w_DISABLE w_ALLOW w_DISALLOW)), .val (.int (if (i &&& (3 : Int32)) < 2 then (1 : Int32) else 0)), .val (.int (if (j &&& (3 : Int32)) < 2 then (1 : Int32) else 0)), .val (.int (1 : Int32)), .val (.int (0 : Int32)), .unset] [(.int (1 : Int32))]))
          refine Go.st (fun t' k' => XS.goto X26.here hx rfl (pc0 := 145) (pc' := 149) rfl (hb hby at_145) (by decide) (by decide) k') ?_
          show Go p e below _ (T26.setTop (mkF m 149 #[.val (.int i), .val (.int j), .val (.ref b1), .val (.int (i &&& (3 : Int32))), .val (.int (j &&& (3 : Int32))), .val (.ref (own_at (i &&& (3 : Int32)) w_ENABLE w_DISABLE w_ALLOW w_DISALLOW)), .val (.ref (own_at (j &&& (3 : Int32)) w_ENABLE w_DISABLE w_ALLOW w_DISALLOW)), .val (.int (if (i &&& (3 : Int32)) < 2 then (1 : Int32) else 0)), .val (.int (if (j &&& (3 : Int32)) < 2 then (1 : Int32) else 0)), .val (.int (1 : Int32)), .val (.int (0 : Int32)), .unset] [(.int (1 : Int32))]))
          refine Go.st (fun t' k' => XS.istore X26.here hx rfl (hb hby at_149) rfl (l' := #[.val (.int i), .val (.int j), .val (.ref b1), .val (.int (i &&& (3 : Int32))), .val (.int (j &&& (3 : Int32))), .val (.ref (own_at (i &&& (3 : Int32)) w_ENABLE w_DISABLE w_ALLOW w_DISALLOW)), .val (.ref (own_at (j &&& (3 : Int32)) w_ENABLE w_DISABLE w_ALLOW w_DISALLOW)), .val (.int (if (i &&& (3 : Int32)) < 2 then (1 : Int32) else 0)), .val (.int (if (j &&& (3 : Int32)) < 2 then (1 : Int32) else 0)), .val (.int (1 : Int32)), .val (.int (0 : Int32)), .val (.int (1 : Int32))]) rfl k') ?_
          show Go p e below _ (T26.setTop (mkF m 151 #[.val (.int i), .val (.int j), .val (.ref b1), .val (.int (i &&& (3 : Int32))), .val (.int (j &&& (3 : Int32))), .val (.ref (own_at (i &&& (3 : Int32)) w_ENABLE w_DISABLE w_ALLOW w_DISALLOW)), .val (.ref (own_at (j &&& (3 : Int32)) w_ENABLE w_DISABLE w_ALLOW w_DISALLOW)), .val (.int (if (i &&& (3 : Int32)) < 2 then (1 : Int32) else 0)), .val (.int (if (j &&& (3 : Int32)) < 2 then (1 : Int32) else 0)), .val (.int (1 : Int32)), .val (.int (0 : Int32)), .val (.int (1 : Int32))] []))
          refine Go.st (fun t' k' => XS.iload X26.here hx rfl (hb hby at_151) rfl k') ?_
          show Go p e below _ (T26.setTop (mkF m 153 #[.val (.int i), .val (.int j), .val (.ref b1), .val (.int (i &&& (3 : Int32))), .val (.int (j &&& (3 : Int32))), .val (.ref (own_at (i &&& (3 : Int32)) w_ENABLE w_DISABLE w_ALLOW w_DISALLOW)), .val (.ref (own_at (j &&& (3 : Int32)) w_ENABLE w_DISABLE w_ALLOW w_DISALLOW)), .val (.int (if (i &&& (3 : Int32)) < 2 then (1 : Int32) else 0)), .val (.int (if (j &&& (3 : Int32)) < 2 then (1 : Int32) else 0)), .val (.int (1 : Int32)), .val (.int (0 : Int32)), .val (.int (1 : Int32))] [(.int (1 : Int32))]))
          refine Go.st (fun t' k' => XS.ifNo X26.here hx rfl (hb hby at_153) rfl ((if0 _ _).trans (feq (by decide : ¬ ((1 : Int32) = (0 : Int32)))).1) k') ?_
          show Go p e below _ (T26.setTop (mkF m 156 #[.val (.int i), .val (.int j), .val (.ref b1), .val (.int (i &&& (3 : Int32))), .val (.int (j &&& (3 : Int32))), .val (.ref (own_at (i &&& (3 : Int32)) w_ENABLE w_DISABLE w_ALLOW w_DISALLOW)), .val (.ref (own_at (j &&& (3 : Int32)) w_ENABLE w_DISABLE w_ALLOW w_DISALLOW)), .val (.int (if (i &&& (3 : Int32)) < 2 then (1 : Int32) else 0)), .val (.int (if (j &&& (3 : Int32)) < 2 then (1 : Int32) else 0)), .val (.int (1 : Int32)), .val (.int (0 : Int32)), .val (.int (1 : Int32))] []))
          refine Go.st (fun t' k' => XS.iload X26.here hx rfl (hb hby at_156) rfl k') ?_
          show Go p e below _ (T26.setTop (mkF m 158 #[.val (.int i), .val (.int j), .val (.ref b1), .val (.int (i &&& (3 : Int32))), .val (.int (j &&& (3 : Int32))), .val (.ref (own_at (i &&& (3 : Int32)) w_ENABLE w_DISABLE w_ALLOW w_DISALLOW)), .val (.ref (own_at (j &&& (3 : Int32)) w_ENABLE w_DISABLE w_ALLOW w_DISALLOW)), .val (.int (if (i &&& (3 : Int32)) < 2 then (1 : Int32) else 0)), .val (.int (if (j &&& (3 : Int32)) < 2 then (1 : Int32) else 0)), .val (.int (1 : Int32)), .val (.int (0 : Int32)), .val (.int (1 : Int32))] [(.int (1 : Int32))]))
          refine Go.st (fun t' k' => XS.ifNo X26.here hx rfl (hb hby at_158) rfl ((if0 _ _).trans (feq (by decide : ¬ ((1 : Int32) = (0 : Int32)))).1) k') ?_
          show Go p e below _ (T26.setTop (mkF m 161 #[.val (.int i), .val (.int j), .val (.ref b1), .val (.int (i &&& (3 : Int32))), .val (.int (j &&& (3 : Int32))), .val (.ref (own_at (i &&& (3 : Int32)) w_ENABLE w_DISABLE w_ALLOW w_DISALLOW)), .val (.ref (own_at (j &&& (3 : Int32)) w_ENABLE w_DISABLE w_ALLOW w_DISALLOW)), .val (.int (if (i &&& (3 : Int32)) < 2 then (1 : Int32) else 0)), .val (.int (if (j &&& (3 : Int32)) < 2 then (1 : Int32) else 0)), .val (.int (1 : Int32)), .val (.int (0 : Int32)), .val (.int (1 : Int32))] []))
          refine Go.st (fun t' k' => XS.iconst X26.here hx rfl (hb hby at_161) k') ?_
          show Go p e below _ (T26.setTop (mkF m 162 #[.val (.int i), .val (.int j), .val (.ref b1), .val (.int (i &&& (3 : Int32))), .val (.int (j &&& (3 : Int32))), .val (.ref (own_at (i &&& (3 : Int32)) w_ENABLE w_DISABLE w_ALLOW w_DISALLOW)), .val (.ref (own_at (j &&& (3 : Int32)) w_ENABLE w_DISABLE w_ALLOW w_DISALLOW)), .val (.int (if (i &&& (3 : Int32)) < 2 then (1 : Int32) else 0)), .val (.int (if (j &&& (3 : Int32)) < 2 then (1 : Int32) else 0)), .val (.int (1 : Int32)), .val (.int (0 : Int32)), .val (.int (1 : Int32))] [(.int (1 : Int32))]))
          refine Go.st (fun t' k' => XS.goto X26.here hx rfl (pc0 := 162) (pc' := 166) rfl (hb hby at_162) (by decide) (by decide) k') ?_
          show Go p e below _ (T26.setTop (mkF m 166 #[.val (.int i), .val (.int j), .val (.ref b1), .val (.int (i &&& (3 : Int32))), .val (.int (j &&& (3 : Int32))), .val (.ref (own_at (i &&& (3 : Int32)) w_ENABLE w_DISABLE w_ALLOW w_DISALLOW)), .val (.ref (own_at (j &&& (3 : Int32)) w_ENABLE w_DISABLE w_ALLOW w_DISALLOW)), .val (.int (if (i &&& (3 : Int32)) < 2 then (1 : Int32) else 0)), .val (.int (if (j &&& (3 : Int32)) < 2 then (1 : Int32) else 0)), .val (.int (1 : Int32)), .val (.int (0 : Int32)), .val (.int (1 : Int32))] [(.int (1 : Int32))]))
          exact Go.outN X26 hx hlk (t := .boolean) hret (by simp) (hb hby at_166) (Q := Q_rm0 Z i j w_ENABLE w_DISABLE w_ALLOW w_DISALLOW h0) (by rw [e26]; exact ⟨rfl, N26⟩) (by decide) (by decide)
    · refine Go.st (fun t' k' => XS.icmpYes X22.here hx rfl (pc0 := 83) (pc' := 90) rfl (hb hby at_83) rfl (flt hc83_24).2.1 (by decide) (by decide) k') ?_
      show Go p e below _ (T22.setTop (mkF m 90 #[.val (.int i), .val (.int j), .val (.ref b1), .val (.int (i &&& (3 : Int32))), .val (.int (j &&& (3 : Int32))), .val (.ref (own_at (i &&& (3 : Int32)) w_ENABLE w_DISABLE w_ALLOW w_DISALLOW)), .val (.ref (own_at (j &&& (3 : Int32)) w_ENABLE w_DISABLE w_ALLOW w_DISALLOW)), .val (.int (if (i &&& (3 : Int32)) < 2 then (1 : Int32) else 0)), .val (.int (if (j &&& (3 : Int32)) < 2 then (1 : Int32) else 0)), .unset, .unset, .unset] [(.int (if (j &&& (3 : Int32)) < 2 then (1 : Int32) else 0))]))
      refine Go.st (fun t' k' => XS.iconst X22.here hx rfl (hb hby at_90) k') ?_
      show Go p e below _ (T22.setTop (mkF m 91 #[.val (.int i), .val (.int j), .val (.ref b1), .val (.int (i &&& (3 : Int32))), .val (.int (j &&& (3 : Int32))), .val (.ref (own_at (i &&& (3 : Int32)) w_ENABLE w_DISABLE w_ALLOW w_DISALLOW)), .val (.ref (own_at (j &&& (3 : Int32)) w_ENABLE w_DISABLE w_ALLOW w_DISALLOW)), .val (.int (if (i &&& (3 : Int32)) < 2 then (1 : Int32) else 0)), .val (.int (if (j &&& (3 : Int32)) < 2 then (1 : Int32) else 0)), .unset, .unset, .unset] [(.int (0 : Int32)), (.int (if (j &&& (3 : Int32)) < 2 then (1 : Int32) else 0))]))
      refine Go.st (fun t' k' => XS.icmpNo X22.here hx rfl (hb hby at_91) rfl (teq (by simp [hc67_23, hc83_24] : (if (j &&& (3 : Int32)) < 2 then (1 : Int32) else 0) = (0 : Int32))).2 k') ?_
      show Go p e below _ (T22.setTop (mkF m 94 #[.val (.int i), .val (.int j), .val (.ref b1), .val (.int (i &&& (3 : Int32))), .val (.int (j &&& (3 : Int32))), .val (.ref (own_at (i &&& (3 : Int32)) w_ENABLE w_DISABLE w_ALLOW w_DISALLOW)), .val (.ref (own_at (j &&& (3 : Int32)) w_ENABLE w_DISABLE w_ALLOW w_DISALLOW)), .val (.int (if (i &&& (3 : Int32)) < 2 then (1 : Int32) else 0)), .val (.int (if (j &&& (3 : Int32)) < 2 then (1 : Int32) else 0)), .unset, .unset, .unset] []))
      refine Go.st (fun t' k' => XS.iconst X22.here hx rfl (hb hby at_94) k') ?_
      show Go p e below _ (T22.setTop (mkF m 95 #[.val (.int i), .val (.int j), .val (.ref b1), .val (.int (i &&& (3 : Int32))), .val (.int (j &&& (3 : Int32))), .val (.ref (own_at (i &&& (3 : Int32)) w_ENABLE w_DISABLE w_ALLOW w_DISALLOW)), .val (.ref (own_at (j &&& (3 : Int32)) w_ENABLE w_DISABLE w_ALLOW w_DISALLOW)), .val (.int (if (i &&& (3 : Int32)) < 2 then (1 : Int32) else 0)), .val (.int (if (j &&& (3 : Int32)) < 2 then (1 : Int32) else 0)), .unset, .unset, .unset] [(.int (1 : Int32))]))
      refine Go.st (fun t' k' => XS.goto X22.here hx rfl (pc0 := 95) (pc' := 99) rfl (hb hby at_95) (by decide) (by decide) k') ?_
      show Go p e below _ (T22.setTop (mkF m 99 #[.val (.int i), .val (.int j), .val (.ref b1), .val (.int (i &&& (3 : Int32))), .val (.int (j &&& (3 : Int32))), .val (.ref (own_at (i &&& (3 : Int32)) w_ENABLE w_DISABLE w_ALLOW w_DISALLOW)), .val (.ref (own_at (j &&& (3 : Int32)) w_ENABLE w_DISABLE w_ALLOW w_DISALLOW)), .val (.int (if (i &&& (3 : Int32)) < 2 then (1 : Int32) else 0)), .val (.int (if (j &&& (3 : Int32)) < 2 then (1 : Int32) else 0)), .unset, .unset, .unset] [(.int (1 : Int32))]))
      refine Go.st (fun t' k' => XS.istore X22.here hx rfl (hb hby at_99) rfl (l' := #[.val (.int i), .val (.int j), .val (.ref b1), .val (.int (i &&& (3 : Int32))), .val (.int (j &&& (3 : Int32))), .val (.ref (own_at (i &&& (3 : Int32)) w_ENABLE w_DISABLE w_ALLOW w_DISALLOW)), .val (.ref (own_at (j &&& (3 : Int32)) w_ENABLE w_DISABLE w_ALLOW w_DISALLOW)), .val (.int (if (i &&& (3 : Int32)) < 2 then (1 : Int32) else 0)), .val (.int (if (j &&& (3 : Int32)) < 2 then (1 : Int32) else 0)), .val (.int (1 : Int32)), .unset, .unset]) rfl k') ?_
      show Go p e below _ (T22.setTop (mkF m 101 #[.val (.int i), .val (.int j), .val (.ref b1), .val (.int (i &&& (3 : Int32))), .val (.int (j &&& (3 : Int32))), .val (.ref (own_at (i &&& (3 : Int32)) w_ENABLE w_DISABLE w_ALLOW w_DISALLOW)), .val (.ref (own_at (j &&& (3 : Int32)) w_ENABLE w_DISABLE w_ALLOW w_DISALLOW)), .val (.int (if (i &&& (3 : Int32)) < 2 then (1 : Int32) else 0)), .val (.int (if (j &&& (3 : Int32)) < 2 then (1 : Int32) else 0)), .val (.int (1 : Int32)), .unset, .unset] []))
      refine Go.st (fun t' k' => XS.iload X22.here hx rfl (hb hby at_101) rfl k') ?_
      show Go p e below _ (T22.setTop (mkF m 103 #[.val (.int i), .val (.int j), .val (.ref b1), .val (.int (i &&& (3 : Int32))), .val (.int (j &&& (3 : Int32))), .val (.ref (own_at (i &&& (3 : Int32)) w_ENABLE w_DISABLE w_ALLOW w_DISALLOW)), .val (.ref (own_at (j &&& (3 : Int32)) w_ENABLE w_DISABLE w_ALLOW w_DISALLOW)), .val (.int (if (i &&& (3 : Int32)) < 2 then (1 : Int32) else 0)), .val (.int (if (j &&& (3 : Int32)) < 2 then (1 : Int32) else 0)), .val (.int (1 : Int32)), .unset, .unset] [(.int (if (i &&& (3 : Int32)) < 2 then (1 : Int32) else 0))]))
      refine Go.st (fun t' k' => XS.iload X22.here hx rfl (hb hby at_103) rfl k') ?_
      show Go p e below _ (T22.setTop (mkF m 105 #[.val (.int i), .val (.int j), .val (.ref b1), .val (.int (i &&& (3 : Int32))), .val (.int (j &&& (3 : Int32))), .val (.ref (own_at (i &&& (3 : Int32)) w_ENABLE w_DISABLE w_ALLOW w_DISALLOW)), .val (.ref (own_at (j &&& (3 : Int32)) w_ENABLE w_DISABLE w_ALLOW w_DISALLOW)), .val (.int (if (i &&& (3 : Int32)) < 2 then (1 : Int32) else 0)), .val (.int (if (j &&& (3 : Int32)) < 2 then (1 : Int32) else 0)), .val (.int (1 : Int32)), .unset, .unset] [(.int (if (j &&& (3 : Int32)) < 2 then (1 : Int32) else 0)), (.int (if (i &&& (3 : Int32)) < 2 then (1 : Int32) else 0))]))
      refine Go.st (fun t' k' => XS.icmpYes X22.here hx rfl (pc0 := 105) (pc' := 125) rfl (hb hby at_105) rfl (feq (by simp [hc67_23, hc83_24] : ¬ ((if (i &&& (3 : Int32)) < 2 then (1 : Int32) else 0) = (if (j &&& (3 : Int32)) < 2 then (1 : Int32) else 0)))).2 (by decide) (by decide) k') ?_
      show Go p e below _ (T22.setTop (mkF m 125 #[.val (.int i), .val (.int j), .val (.ref b1), .val (.int (i &&& (3 : Int32))), .val (.int (j &&& (3 : Int32))), .val (.ref (own_at (i &&& (3 : Int32)) w_ENABLE w_DISABLE w_ALLOW w_DISALLOW)), .val (.ref (own_at (j &&& (3 : Int32)) w_ENABLE w_DISABLE w_ALLOW w_DISALLOW)), .val (.int (if (i &&& (3 : Int32)) < 2 then (1 : Int32) else 0)), .val (.int (if (j &&& (3 : Int32)) < 2 then (1 : Int32) else 0)), .val (.int (1 : Int32)), .unset, .unset] []))
      refine Go.st (fun t' k' => XS.iconst X22.here hx rfl (hb hby at_125) k') ?_
      show Go p e below _ (T22.setTop (mkF m 126 #[.val (.int i), .val (.int j), .val (.ref b1), .val (.int (i &&& (3 : Int32))), .val (.int (j &&& (3 : Int32))), .val (.ref (own_at (i &&& (3 : Int32)) w_ENABLE w_DISABLE w_ALLOW w_DISALLOW)), .val (.ref (own_at (j &&& (3 : Int32)) w_ENABLE w_DISABLE w_ALLOW w_DISALLOW)), .val (.int (if (i &&& (3 : Int32)) < 2 then (1 : Int32) else 0)), .val (.int (if (j &&& (3 : Int32)) < 2 then (1 : Int32) else 0)), .val (.int (1 : Int32)), .unset, .unset] [(.int (0 : Int32))]))
      refine Go.st (fun t' k' => XS.istore X22.here hx rfl (hb hby at_126) rfl (l' := #[.val (.int i), .val (.int j), .val (.ref b1), .val (.int (i &&& (3 : Int32))), .val (.int (j &&& (3 : Int32))), .val (.ref (own_at (i &&& (3 : Int32)) w_ENABLE w_DISABLE w_ALLOW w_DISALLOW)), .val (.ref (own_at (j &&& (3 : Int32)) w_ENABLE w_DISABLE w_ALLOW w_DISALLOW)), .val (.int (if (i &&& (3 : Int32)) < 2 then (1 : Int32) else 0)), .val (.int (if (j &&& (3 : Int32)) < 2 then (1 : Int32) else 0)), .val (.int (1 : Int32)), .val (.int (0 : Int32)), .unset]) rfl k') ?_
      show Go p e below _ (T22.setTop (mkF m 128 #[.val (.int i), .val (.int j), .val (.ref b1), .val (.int (i &&& (3 : Int32))), .val (.int (j &&& (3 : Int32))), .val (.ref (own_at (i &&& (3 : Int32)) w_ENABLE w_DISABLE w_ALLOW w_DISALLOW)), .val (.ref (own_at (j &&& (3 : Int32)) w_ENABLE w_DISABLE w_ALLOW w_DISALLOW)), .val (.int (if (i &&& (3 : Int32)) < 2 then (1 : Int32) else 0)), .val (.int (if (j &&& (3 : Int32)) < 2 then (1 : Int32) else 0)), .val (.int (1 : Int32)), .val (.int (0 : Int32)), .unset] []))
      refine Go.st (fun t' k' => XS.iload X22.here hx rfl (hb hby at_128) rfl k') ?_
      show Go p e below _ (T22.setTop (mkF m 130 #[.val (.int i), .val (.int j), .val (.ref b1), .val (.int (i &&& (3 : Int32))), .val (.int (j &&& (3 : Int32))), .val (.ref (own_at (i &&& (3 : Int32)) w_ENABLE w_DISABLE w_ALLOW w_DISALLOW)), .val (.ref (own_at (j &&& (3 : Int32)) w_ENABLE w_DISABLE w_ALLOW w_DISALLOW)), .val (.int (if (i &&& (3 : Int32)) < 2 then (1 : Int32) else 0)), .val (.int (if (j &&& (3 : Int32)) < 2 then (1 : Int32) else 0)), .val (.int (1 : Int32)), .val (.int (0 : Int32)), .unset] [(.int (0 : Int32))]))
      refine Go.st (fun t' k' => XS.iloadN X22.here hx rfl (hb hby at_130) rfl k') ?_
      show Go p e below _ (T22.setTop (mkF m 131 #[.val (.int i), .val (.int j), .val (.ref b1), .val (.int (i &&& (3 : Int32))), .val (.int (j &&& (3 : Int32))), .val (.ref (own_at (i &&& (3 : Int32)) w_ENABLE w_DISABLE w_ALLOW w_DISALLOW)), .val (.ref (own_at (j &&& (3 : Int32)) w_ENABLE w_DISABLE w_ALLOW w_DISALLOW)), .val (.int (if (i &&& (3 : Int32)) < 2 then (1 : Int32) else 0)), .val (.int (if (j &&& (3 : Int32)) < 2 then (1 : Int32) else 0)), .val (.int (1 : Int32)), .val (.int (0 : Int32)), .unset] [(.int (i &&& (3 : Int32))), (.int (0 : Int32))]))
      refine Go.st (fun t' k' => XS.iload X22.here hx rfl (hb hby at_131) rfl k') ?_
      show Go p e below _ (T22.setTop (mkF m 133 #[.val (.int i), .val (.int j), .val (.ref b1), .val (.int (i &&& (3 : Int32))), .val (.int (j &&& (3 : Int32))), .val (.ref (own_at (i &&& (3 : Int32)) w_ENABLE w_DISABLE w_ALLOW w_DISALLOW)), .val (.ref (own_at (j &&& (3 : Int32)) w_ENABLE w_DISABLE w_ALLOW w_DISALLOW)), .val (.int (if (i &&& (3 : Int32)) < 2 then (1 : Int32) else 0)), .val (.int (if (j &&& (3 : Int32)) < 2 then (1 : Int32) else 0)), .val (.int (1 : Int32)), .val (.int (0 : Int32)), .unset] [(.int (j &&& (3 : Int32))), (.int (i &&& (3 : Int32))), (.int (0 : Int32))]))
      by_cases hc133_30 : (i &&& (3 : Int32)) = (j &&& (3 : Int32))
      · (exfalso; rw [hc133_30] at hc67_23; contradiction)
      · refine Go.st (fun t' k' => XS.icmpYes X22.here hx rfl (pc0 := 133) (pc' := 140) rfl (hb hby at_133) rfl (feq hc133_30).2 (by decide) (by decide) k') ?_
        show Go p e below _ (T22.setTop (mkF m 140 #[.val (.int i), .val (.int j), .val (.ref b1), .val (.int (i &&& (3 : Int32))), .val (.int (j &&& (3 : Int32))), .val (.ref (own_at (i &&& (3 : Int32)) w_ENABLE w_DISABLE w_ALLOW w_DISALLOW)), .val (.ref (own_at (j &&& (3 : Int32)) w_ENABLE w_DISABLE w_ALLOW w_DISALLOW)), .val (.int (if (i &&& (3 : Int32)) < 2 then (1 : Int32) else 0)), .val (.int (if (j &&& (3 : Int32)) < 2 then (1 : Int32) else 0)), .val (.int (1 : Int32)), .val (.int (0 : Int32)), .unset] [(.int (0 : Int32))]))
        refine Go.st (fun t' k' => XS.iconst X22.here hx rfl (hb hby at_140) k') ?_
        show Go p e below _ (T22.setTop (mkF m 141 #[.val (.int i), .val (.int j), .val (.ref b1), .val (.int (i &&& (3 : Int32))), .val (.int (j &&& (3 : Int32))), .val (.ref (own_at (i &&& (3 : Int32)) w_ENABLE w_DISABLE w_ALLOW w_DISALLOW)), .val (.ref (own_at (j &&& (3 : Int32)) w_ENABLE w_DISABLE w_ALLOW w_DISALLOW)), .val (.int (if (i &&& (3 : Int32)) < 2 then (1 : Int32) else 0)), .val (.int (if (j &&& (3 : Int32)) < 2 then (1 : Int32) else 0)), .val (.int (1 : Int32)), .val (.int (0 : Int32)), .unset] [(.int (0 : Int32)), (.int (0 : Int32))]))
        refine Go.st (fun t' k' => XS.icmpNo X22.here hx rfl (hb hby at_141) rfl (teq (by decide : (0 : Int32) = (0 : Int32))).2 k') ?_
        show Go p e below _ (T22.setTop (mkF m 144 #[.val (.int i), .val (.int j), .val (.ref b1), .val (.int (i &&& (3 : Int32))), .val (.int (j &&& (3 : Int32))), .val (.ref (own_at (i &&& (3 : Int32)) w_ENABLE w_DISABLE w_ALLOW w_DISALLOW)), .val (.ref (own_at (j &&& (3 : Int32)) w_ENABLE w_DISABLE w_ALLOW w_DISALLOW)), .val (.int (if (i &&& (3 : Int32)) < 2 then (1 : Int32) else 0)), .val (.int (if (j &&& (3 : Int32)) < 2 then (1 : Int32) else 0)), .val (.int (1 : Int32)), .val (.int (0 : Int32)), .unset] []))
        refine Go.st (fun t' k' => XS.iconst X22.here hx rfl (hb hby at_144) k') ?_
        show Go p e below _ (T22.setTop (mkF m 145 #[.val (.int i), .val (.int j), .val (.ref b1), .val (.int (i &&& (3 : Int32))), .val (.int (j &&& (3 : Int32))), .val (.ref (own_at (i &&& (3 : Int32)) w_ENABLE w_DISABLE w_ALLOW w_DISALLOW)), .val (.ref (own_at (j &&& (3 : Int32)) w_ENABLE w_DISABLE w_ALLOW w_DISALLOW)), .val (.int (if (i &&& (3 : Int32)) < 2 then (1 : Int32) else 0)), .val (.int (if (j &&& (3 : Int32)) < 2 then (1 : Int32) else 0)), .val (.int (1 : Int32)), .val (.int (0 : Int32)), .unset] [(.int (1 : Int32))]))
        refine Go.st (fun t' k' => XS.goto X22.here hx rfl (pc0 := 145) (pc' := 149) rfl (hb hby at_145) (by decide) (by decide) k') ?_
        show Go p e below _ (T22.setTop (mkF m 149 #[.val (.int i), .val (.int j), .val (.ref b1), .val (.int (i &&& (3 : Int32))), .val (.int (j &&& (3 : Int32))), .val (.ref (own_at (i &&& (3 : Int32)) w_ENABLE w_DISABLE w_ALLOW w_DISALLOW)), .val (.ref (own_at (j &&& (3 : Int32)) w_ENABLE w_DISABLE w_ALLOW w_DISALLOW)), .val (.int (if (i &&& (3 : Int32)) < 2 then (1 : Int32) else 0)), .val (.int (if (j &&& (3 : Int32)) < 2 then (1 : Int32) else 0)), .val (.int (1 : Int32)), .val (.int (0 : Int32)), .unset] [(.int (1 : Int32))]))
        refine Go.st (fun t' k' => XS.istore X22.here hx rfl (hb hby at_149) rfl (l' := #[.val (.int i), .val (.int j), .val (.ref b1), .val (.int (i &&& (3 : Int32))), .val (.int (j &&& (3 : Int32))), .val (.ref (own_at (i &&& (3 : Int32)) w_ENABLE w_DISABLE w_ALLOW w_DISALLOW)), .val (.ref (own_at (j &&& (3 : Int32)) w_ENABLE w_DISABLE w_ALLOW w_DISALLOW)), .val (.int (if (i &&& (3 : Int32)) < 2 then (1 : Int32) else 0)), .val (.int (if (j &&& (3 : Int32)) < 2 then (1 : Int32) else 0)), .val (.int (1 : Int32)), .val (.int (0 : Int32)), .val (.int (1 : Int32))]) rfl k') ?_
        show Go p e below _ (T22.setTop (mkF m 151 #[.val (.int i), .val (.int j), .val (.ref b1), .val (.int (i &&& (3 : Int32))), .val (.int (j &&& (3 : Int32))), .val (.ref (own_at (i &&& (3 : Int32)) w_ENABLE w_DISABLE w_ALLOW w_DISALLOW)), .val (.ref (own_at (j &&& (3 : Int32)) w_ENABLE w_DISABLE w_ALLOW w_DISALLOW)), .val (.int (if (i &&& (3 : Int32)) < 2 then (1 : Int32) else 0)), .val (.int (if (j &&& (3 : Int32)) < 2 then (1 : Int32) else 0)), .val (.int (1 : Int32)), .val (.int (0 : Int32)), .val (.int (1 : Int32))] []))
        refine Go.st (fun t' k' => XS.iload X22.here hx rfl (hb hby at_151) rfl k') ?_
        show Go p e below _ (T22.setTop (mkF m 153 #[.val (.int i), .val (.int j), .val (.ref b1), .val (.int (i &&& (3 : Int32))), .val (.int (j &&& (3 : Int32))), .val (.ref (own_at (i &&& (3 : Int32)) w_ENABLE w_DISABLE w_ALLOW w_DISALLOW)), .val (.ref (own_at (j &&& (3 : Int32)) w_ENABLE w_DISABLE w_ALLOW w_DISALLOW)), .val (.int (if (i &&& (3 : Int32)) < 2 then (1 : Int32) else 0)), .val (.int (if (j &&& (3 : Int32)) < 2 then (1 : Int32) else 0)), .val (.int (1 : Int32)), .val (.int (0 : Int32)), .val (.int (1 : Int32))] [(.int (1 : Int32))]))
        refine Go.st (fun t' k' => XS.ifNo X22.here hx rfl (hb hby at_153) rfl ((if0 _ _).trans (feq (by decide : ¬ ((1 : Int32) = (0 : Int32)))).1) k') ?_
        show Go p e below _ (T22.setTop (mkF m 156 #[.val (.int i), .val (.int j), .val (.ref b1), .val (.int (i &&& (3 : Int32))), .val (.int (j &&& (3 : Int32))), .val (.ref (own_at (i &&& (3 : Int32)) w_ENABLE w_DISABLE w_ALLOW w_DISALLOW)), .val (.ref (own_at (j &&& (3 : Int32)) w_ENABLE w_DISABLE w_ALLOW w_DISALLOW)), .val (.int (if (i &&& (3 : Int32)) < 2 then (1 : Int32) else 0)), .val (.int (if (j &&& (3 : Int32)) < 2 then (1 : Int32) else 0)), .val (.int (1 : Int32)), .val (.int (0 : Int32)), .val (.int (1 : Int32))] []))
        refine Go.st (fun t' k' => XS.iload X22.here hx rfl (hb hby at_156) rfl k') ?_
        show Go p e below _ (T22.setTop (mkF m 158 #[.val (.int i), .val (.int j), .val (.ref b1), .val (.int (i &&& (3 : Int32))), .val (.int (j &&& (3 : Int32))), .val (.ref (own_at (i &&& (3 : Int32)) w_ENABLE w_DISABLE w_ALLOW w_DISALLOW)), .val (.ref (own_at (j &&& (3 : Int32)) w_ENABLE w_DISABLE w_ALLOW w_DISALLOW)), .val (.int (if (i &&& (3 : Int32)) < 2 then (1 : Int32) else 0)), .val (.int (if (j &&& (3 : Int32)) < 2 then (1 : Int32) else 0)), .val (.int (1 : Int32)), .val (.int (0 : Int32)), .val (.int (1 : Int32))] [(.int (1 : Int32))]))
        refine Go.st (fun t' k' => XS.ifNo X22.here hx rfl (hb hby at_158) rfl ((if0 _ _).trans (feq (by decide : ¬ ((1 : Int32) = (0 : Int32)))).1) k') ?_
        show Go p e below _ (T22.setTop (mkF m 161 #[.val (.int i), .val (.int j), .val (.ref b1), .val (.int (i &&& (3 : Int32))), .val (.int (j &&& (3 : Int32))), .val (.ref (own_at (i &&& (3 : Int32)) w_ENABLE w_DISABLE w_ALLOW w_DISALLOW)), .val (.ref (own_at (j &&& (3 : Int32)) w_ENABLE w_DISABLE w_ALLOW w_DISALLOW)), .val (.int (if (i &&& (3 : Int32)) < 2 then (1 : Int32) else 0)), .val (.int (if (j &&& (3 : Int32)) < 2 then (1 : Int32) else 0)), .val (.int (1 : Int32)), .val (.int (0 : Int32)), .val (.int (1 : Int32))] []))
        refine Go.st (fun t' k' => XS.iconst X22.here hx rfl (hb hby at_161) k') ?_
        show Go p e below _ (T22.setTop (mkF m 162 #[.val (.int i), .val (.int j), .val (.ref b1), .val (.int (i &&& (3 : Int32))), .val (.int (j &&& (3 : Int32))), .val (.ref (own_at (i &&& (3 : Int32)) w_ENABLE w_DISABLE w_ALLOW w_DISALLOW)), .val (.ref (own_at (j &&& (3 : Int32)) w_ENABLE w_DISABLE w_ALLOW w_DISALLOW)), .val (.int (if (i &&& (3 : Int32)) < 2 then (1 : Int32) else 0)), .val (.int (if (j &&& (3 : Int32)) < 2 then (1 : Int32) else 0)), .val (.int (1 : Int32)), .val (.int (0 : Int32)), .val (.int (1 : Int32))] [(.int (1 : Int32))]))
        refine Go.st (fun t' k' => XS.goto X22.here hx rfl (pc0 := 162) (pc' := 166) rfl (hb hby at_162) (by decide) (by decide) k') ?_
        show Go p e below _ (T22.setTop (mkF m 166 #[.val (.int i), .val (.int j), .val (.ref b1), .val (.int (i &&& (3 : Int32))), .val (.int (j &&& (3 : Int32))), .val (.ref (own_at (i &&& (3 : Int32)) w_ENABLE w_DISABLE w_ALLOW w_DISALLOW)), .val (.ref (own_at (j &&& (3 : Int32)) w_ENABLE w_DISABLE w_ALLOW w_DISALLOW)), .val (.int (if (i &&& (3 : Int32)) < 2 then (1 : Int32) else 0)), .val (.int (if (j &&& (3 : Int32)) < 2 then (1 : Int32) else 0)), .val (.int (1 : Int32)), .val (.int (0 : Int32)), .val (.int (1 : Int32))] [(.int (1 : Int32))]))
        exact Go.outN X22 hx hlk (t := .boolean) hret (by simp) (hb hby at_166) (Q := Q_rm0 Z i j w_ENABLE w_DISABLE w_ALLOW w_DISALLOW h0) (by rw [e22]; exact ⟨rfl, N22⟩) (by decide) (by decide)
  · refine Go.st (fun t' k' => XS.icmpYes X22.here hx rfl (pc0 := 67) (pc' := 74) rfl (hb hby at_67) rfl (flt hc67_23).2.1 (by decide) (by decide) k') ?_
    show Go p e below _ (T22.setTop (mkF m 74 #[.val (.int i), .val (.int j), .val (.ref b1), .val (.int (i &&& (3 : Int32))), .val (.int (j &&& (3 : Int32))), .val (.ref (own_at (i &&& (3 : Int32)) w_ENABLE w_DISABLE w_ALLOW w_DISALLOW)), .val (.ref (own_at (j &&& (3 : Int32)) w_ENABLE w_DISABLE w_ALLOW w_DISALLOW)), .val (.int (if (i &&& (3 : Int32)) < 2 then (1 : Int32) else 0)), .val (.int (if (j &&& (3 : Int32)) < 2 then (1 : Int32) else 0)), .unset, .unset, .unset] [(.int (if (i &&& (3 : Int32)) < 2 then (1 : Int32) else 0))]))
    refine Go.st (fun t' k' => XS.iconst X22.here hx rfl (hb hby at_74) k') ?_
    show Go p e below _ (T22.setTop (mkF m 75 #[.val (.int i), .val (.int j), .val (.ref b1), .val (.int (i &&& (3 : Int32))), .val (.int (j &&& (3 : Int32))), .val (.ref (own_at (i &&& (3 : Int32)) w_ENABLE w_DISABLE w_ALLOW w_DISALLOW)), .val (.ref (own_at (j &&& (3 : Int32)) w_ENABLE w_DISABLE w_ALLOW w_DISALLOW)), .val (.int (if (i &&& (3 : Int32)) < 2 then (1 : Int32) else 0)), .val (.int (if (j &&& (3 : Int32)) < 2 then (1 : Int32) else 0)), .unset, .unset, .unset] [(.int (0 : Int32)), (.int (if (i &&& (3 : Int32)) < 2 then (1 : Int32) else 0))]))
    refine Go.st (fun t' k' => XS.icmpNo X22.here hx rfl (hb hby at_75) rfl (teq (by simp [hc67_23] : (if (i &&& (3 : Int32)) < 2 then (1 : Int32) else 0) = (0 : Int32))).2 k') ?_
    show Go p e below _ (T22.setTop (mkF m 78 #[.val (.int i), .val (.int j), .val (.ref b1), .val (.int (i &&& (3 : Int32))), .val (.int (j &&& (3 : Int32))), .val (.ref (own_at (i &&& (3 : Int32)) w_ENABLE w_DISABLE w_ALLOW w_DISALLOW)), .val (.ref (own_at (j &&& (3 : Int32)) w_ENABLE w_DISABLE w_ALLOW w_DISALLOW)), .val (.int (if (i &&& (3 : Int32)) < 2 then (1 : Int32) else 0)), .val (.int (if (j &&& (3 : Int32)) < 2 then (1 : Int32) else 0)), .unset, .unset, .unset] []))
    refine Go.st (fun t' k' => XS.iload X22.here hx rfl (hb hby at_78) rfl k') ?_
    show Go p e below _ (T22.setTop (mkF m 80 #[.val (.int i), .val (.int j), .val (.ref b1), .val (.int (i &&& (3 : Int32))), .val (.int (j &&& (3 : Int32))), .val (.ref (own_at (i &&& (3 : Int32)) w_ENABLE w_DISABLE w_ALLOW w_DISALLOW)), .val (.ref (own_at (j &&& (3 : Int32)) w_ENABLE w_DISABLE w_ALLOW w_DISALLOW)), .val (.int (if (i &&& (3 : Int32)) < 2 then (1 : Int32) else 0)), .val (.int (if (j &&& (3 : Int32)) < 2 then (1 : Int32) else 0)), .unset, .unset, .unset] [(.int (if (j &&& (3 : Int32)) < 2 then (1 : Int32) else 0))]))
    refine Go.st (fun t' k' => XS.iload X22.here hx rfl (hb hby at_80) rfl k') ?_
    show Go p e below _ (T22.setTop (mkF m 82 #[.val (.int i), .val (.int j), .val (.ref b1), .val (.int (i &&& (3 : Int32))), .val (.int (j &&& (3 : Int32))), .val (.ref (own_at (i &&& (3 : Int32)) w_ENABLE w_DISABLE w_ALLOW w_DISALLOW)), .val (.ref (own_at (j &&& (3 : Int32)) w_ENABLE w_DISABLE w_ALLOW w_DISALLOW)), .val (.int (if (i &&& (3 : Int32)) < 2 then (1 : Int32) else 0)), .val (.int (if (j &&& (3 : Int32)) < 2 then (1 : Int32) else 0)), .unset, .unset, .unset] [(.int (j &&& (3 : Int32))), (.int (if (j &&& (3 : Int32)) < 2 then (1 : Int32) else 0))]))
    refine Go.st (fun t' k' => XS.iconst X22.here hx rfl (hb hby at_82) k') ?_
    show Go p e below _ (T22.setTop (mkF m 83 #[.val (.int i), .val (.int j), .val (.ref b1), .val (.int (i &&& (3 : Int32))), .val (.int (j &&& (3 : Int32))), .val (.ref (own_at (i &&& (3 : Int32)) w_ENABLE w_DISABLE w_ALLOW w_DISALLOW)), .val (.ref (own_at (j &&& (3 : Int32)) w_ENABLE w_DISABLE w_ALLOW w_DISALLOW)), .val (.int (if (i &&& (3 : Int32)) < 2 then (1 : Int32) else 0)), .val (.int (if (j &&& (3 : Int32)) < 2 then (1 : Int32) else 0)), .unset, .unset, .unset] [(.int (2 : Int32)), (.int (j &&& (3 : Int32))), (.int (if (j &&& (3 : Int32)) < 2 then (1 : Int32) else 0))]))
    by_cases hc83_31 : (j &&& (3 : Int32)) < (2 : Int32)
    · refine Go.st (fun t' k' => XS.icmpNo X22.here hx rfl (hb hby at_83) rfl (tlt hc83_31).2.1 k') ?_
      show Go p e below _ (T22.setTop (mkF m 86 #[.val (.int i), .val (.int j), .val (.ref b1), .val (.int (i &&& (3 : Int32))), .val (.int (j &&& (3 : Int32))), .val (.ref (own_at (i &&& (3 : Int32)) w_ENABLE w_DISABLE w_ALLOW w_DISALLOW)), .val (.ref (own_at (j &&& (3 : Int32)) w_ENABLE w_DISABLE w_ALLOW w_DISALLOW)), .val (.int (if (i &&& (3 : Int32)) < 2 then (1 : Int32) else 0)), .val (.int (if (j &&& (3 : Int32)) < 2 then (1 : Int32) else 0)), .unset, .unset, .unset] [(.int (if (j &&& (3 : Int32)) < 2 then (1 : Int32) else 0))]))
      refine Go.st (fun t' k' => XS.iconst X22.here hx rfl (hb hby at_86) k') ?_
      show Go p e below _ (T22.setTop (mkF m 87 #[.val (.int i), .val (.int j), .val (.ref b1), .val (.int (i &&& (3 : Int32))), .val (.int (j &&& (3 : Int32))), .val (.ref (own_at (i &&& (3 : Int32)) w_ENABLE w_DISABLE w_ALLOW w_DISALLOW)), .val (.ref (own_at (j &&& (3 : Int32)) w_ENABLE w_DISABLE w_ALLOW w_DISALLOW)), .val (.int (if (i &&& (3 : Int32)) < 2 then (1 : Int32) else 0)), .val (.int (if (j &&& (3 : Int32)) < 2 then (1 : Int32) else 0)), .unset, .unset, .unset] [(.int (1 : Int32)), (.int (if (j &&& (3 : Int32)) < 2 then (1 : Int32) else 0))]))
      refine Go.st (fun t' k' => XS.goto X22.here hx rfl (pc0 := 87) (pc' := 91) rfl (hb hby at_87) (by decide) (by decide) k') ?_
      show Go p e below _ (T22.setTop (mkF m 91 #[.val (.int i), .val (.int j), .val (.ref b1), .val (.int (i &&& (3 : Int32))), .val (.int (j &&& (3 : Int32))), .val (.ref (own_at (i &&& (3 : Int32)) w_ENABLE w_DISABLE w_ALLOW w_DISALLOW)), .val (.ref (own_at (j &&& (3 : Int32)) w_ENABLE w_DISABLE w_ALLOW w_DISALLOW)), .val (.int (if (i &&& (3 : Int32)) < 2 then (1 : Int32) else 0)), .val (.int (if (j &&& (3 : Int32)) < 2 then (1 : Int32) else 0)), .unset, .unset, .unset] [(.int (1 : Int32)), (.int (if (j &&& (3 : Int32)) < 2 then (1 : Int32) else 0))]))
      refine Go.st (fun t' k' => XS.icmpNo X22.here hx rfl (hb hby at_91) rfl (teq (by simp [hc67_23, hc83_31] : (if (j &&& (3 : Int32)) < 2 then (1 : Int32) else 0) = (1 : Int32))).2 k') ?_
      show Go p e below _ (T22.setTop (mkF m 94 #[.val (.int i), .val (.int j), .val (.ref b1), .val (.int (i &&& (3 : Int32))), .val (.int (j &&& (3 : Int32))), .val (.ref (own_at (i &&& (3 : Int32)) w_ENABLE w_DISABLE w_ALLOW w_DISALLOW)), .val (.ref (own_at (j &&& (3 : Int32)) w_ENABLE w_DISABLE w_ALLOW w_DISALLOW)), .val (.int (if (i &&& (3 : Int32)) < 2 then (1 : Int32) else 0)), .val (.int (if (j &&& (3 : Int32)) < 2 then (1 : Int32) else 0)), .unset, .unset, .unset] []))
      refine Go.st (fun t' k' => XS.iconst X22.here hx rfl (hb hby at_94) k') ?_
      show Go p e below _ (T22.setTop (mkF m 95 #[.val (.int i), .val (.int j), .val (.ref b1), .val (.int (i &&& (3 : Int32))), .val (.int (j &&& (3 : Int32))), .val (.ref (own_at (i &&& (3 : Int32)) w_ENABLE w_DISABLE w_ALLOW w_DISALLOW)), .val (.ref (own_at (j &&& (3 : Int32)) w_ENABLE w_DISABLE w_ALLOW w_DISALLOW)), .val (.int (if (i &&& (3 : Int32)) < 2 then (1 : Int32) else 0)), .val (.int (if (j &&& (3 : Int32)) < 2 then (1 : Int32) else 0)), .unset, .unset, .unset] [(.int (1 : Int32))]))
      refine Go.st (fun t' k' => XS.goto X22.here hx rfl (pc0 := 95) (pc' := 99) rfl (hb hby at_95) (by decide) (by decide) k') ?_
      show Go p e below _ (T22.setTop (mkF m 99 #[.val (.int i), .val (.int j), .val (.ref b1), .val (.int (i &&& (3 : Int32))), .val (.int (j &&& (3 : Int32))), .val (.ref (own_at (i &&& (3 : Int32)) w_ENABLE w_DISABLE w_ALLOW w_DISALLOW)), .val (.ref (own_at (j &&& (3 : Int32)) w_ENABLE w_DISABLE w_ALLOW w_DISALLOW)), .val (.int (if (i &&& (3 : Int32)) < 2 then (1 : Int32) else 0)), .val (.int (if (j &&& (3 : Int32)) < 2 then (1 : Int32) else 0)), .unset, .unset, .unset] [(.int (1 : Int32))]))
      refine Go.st (fun t' k' => XS.istore X22.here hx rfl (hb hby at_99) rfl (l' := #[.val (.int i), .val (.int j), .val (.ref b1), .val (.int (i &&& (3 : Int32))), .val (.int (j &&& (3 : Int32))), .val (.ref (own_at (i &&& (3 : Int32)) w_ENABLE w_DISABLE w_ALLOW w_DISALLOW)), .val (.ref (own_at (j &&& (3 : Int32)) w_ENABLE w_DISABLE w_ALLOW w_DISALLOW)), .val (.int (if (i &&& (3 : Int32)) < 2 then (1 : Int32) else 0)), .val (.int (if (j &&& (3 : Int32)) < 2 then (1 : Int32) else 0)), .val (.int (1 : Int32)), .unset, .unset]) rfl k') ?_
      show Go p e below _ (T22.setTop (mkF m 101 #[.val (.int i), .val (.int j), .val (.ref b1), .val (.int (i &&& (3 : Int32))), .val (.int (j &&& (3 : Int32))), .val (.ref (own_at (i &&& (3 : Int32)) w_ENABLE w_DISABLE w_ALLOW w_DISALLOW)), .val (.ref (own_at (j &&& (3 : Int32)) w_ENABLE w_DISABLE w_ALLOW w_DISALLOW)), .val (.int (if (i &&& (3 : Int32)) < 2 then (1 : Int32) else 0)), .val (.int (if (j &&& (3 : Int32)) < 2 then (1 : Int32) else 0)), .val (.int (1 : Int32)), .unset, .unset] []))
      refine Go.st (fun t' k' => XS.iload X22.here hx rfl (hb hby at_101) rfl k') ?_
      show Go p e below _ (T22.setTop (mkF m 103 #[.val (.int i), .val (.int j), .val (.ref b1), .val (.int (i &&& (3 : Int32))), .val (.int (j &&& (3 : Int32))), .val (.ref (own_at (i &&& (3 : Int32)) w_ENABLE w_DISABLE w_ALLOW w_DISALLOW)), .val (.ref (own_at (j &&& (3 : Int32)) w_ENABLE w_DISABLE w_ALLOW w_DISALLOW)), .val (.int (if (i &&& (3 : Int32)) < 2 then (1 : Int32) else 0)), .val (.int (if (j &&& (3 : Int32)) < 2 then (1 : Int32) else 0)), .val (.int (1 : Int32)), .unset, .unset] [(.int (if (i &&& (3 : Int32)) < 2 then (1 : Int32) else 0))]))
      refine Go.st (fun t' k' => XS.iload X22.here hx rfl (hb hby at_103) rfl k') ?_
      show Go p e below _ (T22.setTop (mkF m 105 #[.val (.int i), .val (.int j), .val (.ref b1), .val (.int (i &&& (3 : Int32))), .val (.int (j &&& (3 : Int32))), .val (.ref (own_at (i &&& (3 : Int32)) w_ENABLE w_DISABLE w_ALLOW w_DISALLOW)), .val (.ref (own_at (j &&& (3 : Int32)) w_ENABLE w_DISABLE w_ALLOW w_DISALLOW)), .val (.int (if (i &&& (3 : Int32)) < 2 then (1 : Int32) else 0)), .val (.int (if (j &&& (3 : Int32)) < 2 then (1 : Int32) else 0)), .val (.int (1 : Int32)), .unset, .unset] [(.int (if (j &&& (3 : Int32)) < 2 then (1 : Int32) else 0)), (.int (if (i &&& (3 : Int32)) < 2 then (1 : Int32) else 0))]))
      refine Go.st (fun t' k' => XS.icmpYes X22.here hx rfl (pc0 := 105) (pc' := 125) rfl (hb hby at_105) rfl (feq (by simp [hc67_23, hc83_31] : ¬ ((if (i &&& (3 : Int32)) < 2 then (1 : Int32) else 0) = (if (j &&& (3 : Int32)) < 2 then (1 : Int32) else 0)))).2 (by decide) (by decide) k') ?_
      show Go p e below _ (T22.setTop (mkF m 125 #[.val (.int i), .val (.int j), .val (.ref b1), .val (.int (i &&& (3 : Int32))), .val (.int (j &&& (3 : Int32))), .val (.ref (own_at (i &&& (3 : Int32)) w_ENABLE w_DISABLE w_ALLOW w_DISALLOW)), .val (.ref (own_at (j &&& (3 : Int32)) w_ENABLE w_DISABLE w_ALLOW w_DISALLOW)), .val (.int (if (i &&& (3 : Int32)) < 2 then (1 : Int32) else 0)), .val (.int (if (j &&& (3 : Int32)) < 2 then (1 : Int32) else 0)), .val (.int (1 : Int32)), .unset, .unset] []))
      refine Go.st (fun t' k' => XS.iconst X22.here hx rfl (hb hby at_125) k') ?_
      show Go p e below _ (T22.setTop (mkF m 126 #[.val (.int i), .val (.int j), .val (.ref b1), .val (.int (i &&& (3 : Int32))), .val (.int (j &&& (3 : Int32))), .val (.ref (own_at (i &&& (3 : Int32)) w_ENABLE w_DISABLE w_ALLOW w_DISALLOW)), .val (.ref (own_at (j &&& (3 : Int32)) w_ENABLE w_DISABLE w_ALLOW w_DISALLOW)), .val (.int (if (i &&& (3 : Int32)) < 2 then (1 : Int32) else 0)), .val (.int (if (j &&& (3 : Int32)) < 2 then (1 : Int32) else 0)), .val (.int (1 : Int32)), .unset, .unset] [(.int (0 : Int32))]))
      refine Go.st (fun t' k' => XS.istore X22.here hx rfl (hb hby at_126) rfl (l' := #[.val (.int i), .val (.int j), .val (.ref b1), .val (.int (i &&& (3 : Int32))), .val (.int (j &&& (3 : Int32))), .val (.ref (own_at (i &&& (3 : Int32)) w_ENABLE w_DISABLE w_ALLOW w_DISALLOW)), .val (.ref (own_at (j &&& (3 : Int32)) w_ENABLE w_DISABLE w_ALLOW w_DISALLOW)), .val (.int (if (i &&& (3 : Int32)) < 2 then (1 : Int32) else 0)), .val (.int (if (j &&& (3 : Int32)) < 2 then (1 : Int32) else 0)), .val (.int (1 : Int32)), .val (.int (0 : Int32)), .unset]) rfl k') ?_
      show Go p e below _ (T22.setTop (mkF m 128 #[.val (.int i), .val (.int j), .val (.ref b1), .val (.int (i &&& (3 : Int32))), .val (.int (j &&& (3 : Int32))), .val (.ref (own_at (i &&& (3 : Int32)) w_ENABLE w_DISABLE w_ALLOW w_DISALLOW)), .val (.ref (own_at (j &&& (3 : Int32)) w_ENABLE w_DISABLE w_ALLOW w_DISALLOW)), .val (.int (if (i &&& (3 : Int32)) < 2 then (1 : Int32) else 0)), .val (.int (if (j &&& (3 : Int32)) < 2 then (1 : Int32) else 0)), .val (.int (1 : Int32)), .val (.int (0 : Int32)), .unset] []))
      refine Go.st (fun t' k' => XS.iload X22.here hx rfl (hb hby at_128) rfl k') ?_
      show Go p e below _ (T22.setTop (mkF m 130 #[.val (.int i), .val (.int j), .val (.ref b1), .val (.int (i &&& (3 : Int32))), .val (.int (j &&& (3 : Int32))), .val (.ref (own_at (i &&& (3 : Int32)) w_ENABLE w_DISABLE w_ALLOW w_DISALLOW)), .val (.ref (own_at (j &&& (3 : Int32)) w_ENABLE w_DISABLE w_ALLOW w_DISALLOW)), .val (.int (if (i &&& (3 : Int32)) < 2 then (1 : Int32) else 0)), .val (.int (if (j &&& (3 : Int32)) < 2 then (1 : Int32) else 0)), .val (.int (1 : Int32)), .val (.int (0 : Int32)), .unset] [(.int (0 : Int32))]))
      refine Go.st (fun t' k' => XS.iloadN X22.here hx rfl (hb hby at_130) rfl k') ?_
      show Go p e below _ (T22.setTop (mkF m 131 #[.val (.int i), .val (.int j), .val (.ref b1), .val (.int (i &&& (3 : Int32))), .val (.int (j &&& (3 : Int32))), .val (.ref (own_at (i &&& (3 : Int32)) w_ENABLE w_DISABLE w_ALLOW w_DISALLOW)), .val (.ref (own_at (j &&& (3 : Int32)) w_ENABLE w_DISABLE w_ALLOW w_DISALLOW)), .val (.int (if (i &&& (3 : Int32)) < 2 then (1 : Int32) else 0)), .val (.int (if (j &&& (3 : Int32)) < 2 then (1 : Int32) else 0)), .val (.int (1 : Int32)), .val (.int (0 : Int32)), .unset] [(.int (i &&& (3 : Int32))), (.int (0 : Int32))]))
      refine Go.st (fun t' k' => XS.iload X22.here hx rfl (hb hby at_131) rfl k') ?_
      show Go p e below _ (T22.setTop (mkF m 133 #[.val (.int i), .val (.int j), .val (.ref b1), .val (.int (i &&& (3 : Int32))), .val (.int (j &&& (3 : Int32))), .val (.ref (own_at (i &&& (3 : Int32)) w_ENABLE w_DISABLE w_ALLOW w_DISALLOW)), .val (.ref (own_at (j &&& (3 : Int32)) w_ENABLE w_DISABLE w_ALLOW w_DISALLOW)), .val (.int (if (i &&& (3 : Int32)) < 2 then (1 : Int32) else 0)), .val (.int (if (j &&& (3 : Int32)) < 2 then (1 : Int32) else 0)), .val (.int (1 : Int32)), .val (.int (0 : Int32)), .unset] [(.int (j &&& (3 : Int32))), (.int (i &&& (3 : Int32))), (.int (0 : Int32))]))
      by_cases hc133_32 : (i &&& (3 : Int32)) = (j &&& (3 : Int32))
      · (exfalso; rw [hc133_32] at hc67_23; contradiction)
      · refine Go.st (fun t' k' => XS.icmpYes X22.here hx rfl (pc0 := 133) (pc' := 140) rfl (hb hby at_133) rfl (feq hc133_32).2 (by decide) (by decide) k') ?_
        show Go p e below _ (T22.setTop (mkF m 140 #[.val (.int i), .val (.int j), .val (.ref b1), .val (.int (i &&& (3 : Int32))), .val (.int (j &&& (3 : Int32))), .val (.ref (own_at (i &&& (3 : Int32)) w_ENABLE w_DISABLE w_ALLOW w_DISALLOW)), .val (.ref (own_at (j &&& (3 : Int32)) w_ENABLE w_DISABLE w_ALLOW w_DISALLOW)), .val (.int (if (i &&& (3 : Int32)) < 2 then (1 : Int32) else 0)), .val (.int (if (j &&& (3 : Int32)) < 2 then (1 : Int32) else 0)), .val (.int (1 : Int32)), .val (.int (0 : Int32)), .unset] [(.int (0 : Int32))]))
        refine Go.st (fun t' k' => XS.iconst X22.here hx rfl (hb hby at_140) k') ?_
        show Go p e below _ (T22.setTop (mkF m 141 #[.val (.int i), .val (.int j), .val (.ref b1), .val (.int (i &&& (3 : Int32))), .val (.int (j &&& (3 : Int32))), .val (.ref (own_at (i &&& (3 : Int32)) w_ENABLE w_DISABLE w_ALLOW w_DISALLOW)), .val (.ref (own_at (j &&& (3 : Int32)) w_ENABLE w_DISABLE w_ALLOW w_DISALLOW)), .val (.int (if (i &&& (3 : Int32)) < 2 then (1 : Int32) else 0)), .val (.int (if (j &&& (3 : Int32)) < 2 then (1 : Int32) else 0)), .val (.int (1 : Int32)), .val (.int (0 : Int32)), .unset] [(.int (0 : Int32)), (.int (0 : Int32))]))
        refine Go.st (fun t' k' => XS.icmpNo X22.here hx rfl (hb hby at_141) rfl (teq (by decide : (0 : Int32) = (0 : Int32))).2 k') ?_
        show Go p e below _ (T22.setTop (mkF m 144 #[.val (.int i), .val (.int j), .val (.ref b1), .val (.int (i &&& (3 : Int32))), .val (.int (j &&& (3 : Int32))), .val (.ref (own_at (i &&& (3 : Int32)) w_ENABLE w_DISABLE w_ALLOW w_DISALLOW)), .val (.ref (own_at (j &&& (3 : Int32)) w_ENABLE w_DISABLE w_ALLOW w_DISALLOW)), .val (.int (if (i &&& (3 : Int32)) < 2 then (1 : Int32) else 0)), .val (.int (if (j &&& (3 : Int32)) < 2 then (1 : Int32) else 0)), .val (.int (1 : Int32)), .val (.int (0 : Int32)), .unset] []))
        refine Go.st (fun t' k' => XS.iconst X22.here hx rfl (hb hby at_144) k') ?_
        show Go p e below _ (T22.setTop (mkF m 145 #[.val (.int i), .val (.int j), .val (.ref b1), .val (.int (i &&& (3 : Int32))), .val (.int (j &&& (3 : Int32))), .val (.ref (own_at (i &&& (3 : Int32)) w_ENABLE w_DISABLE w_ALLOW w_DISALLOW)), .val (.ref (own_at (j &&& (3 : Int32)) w_ENABLE w_DISABLE w_ALLOW w_DISALLOW)), .val (.int (if (i &&& (3 : Int32)) < 2 then (1 : Int32) else 0)), .val (.int (if (j &&& (3 : Int32)) < 2 then (1 : Int32) else 0)), .val (.int (1 : Int32)), .val (.int (0 : Int32)), .unset] [(.int (1 : Int32))]))
        refine Go.st (fun t' k' => XS.goto X22.here hx rfl (pc0 := 145) (pc' := 149) rfl (hb hby at_145) (by decide) (by decide) k') ?_
        show Go p e below _ (T22.setTop (mkF m 149 #[.val (.int i), .val (.int j), .val (.ref b1), .val (.int (i &&& (3 : Int32))), .val (.int (j &&& (3 : Int32))), .val (.ref (own_at (i &&& (3 : Int32)) w_ENABLE w_DISABLE w_ALLOW w_DISALLOW)), .val (.ref (own_at (j &&& (3 : Int32)) w_ENABLE w_DISABLE w_ALLOW w_DISALLOW)), .val (.int (if (i &&& (3 : Int32)) < 2 then (1 : Int32) else 0)), .val (.int (if (j &&& (3 : Int32)) < 2 then (1 : Int32) else 0)), .val (.int (1 : Int32)), .val (.int (0 : Int32)), .unset] [(.int (1 : Int32))]))
        refine Go.st (fun t' k' => XS.istore X22.here hx rfl (hb hby at_149) rfl (l' := #[.val (.int i), .val (.int j), .val (.ref b1), .val (.int (i &&& (3 : Int32))), .val (.int (j &&& (3 : Int32))), .val (.ref (own_at (i &&& (3 : Int32)) w_ENABLE w_DISABLE w_ALLOW w_DISALLOW)), .val (.ref (own_at (j &&& (3 : Int32)) w_ENABLE w_DISABLE w_ALLOW w_DISALLOW)), .val (.int (if (i &&& (3 : Int32)) < 2 then (1 : Int32) else 0)), .val (.int (if (j &&& (3 : Int32)) < 2 then (1 : Int32) else 0)), .val (.int (1 : Int32)), .val (.int (0 : Int32)), .val (.int (1 : Int32))]) rfl k') ?_
        show Go p e below _ (T22.setTop (mkF m 151 #[.val (.int i), .val (.int j), .val (.ref b1), .val (.int (i &&& (3 : Int32))), .val (.int (j &&& (3 : Int32))), .val (.ref (own_at (i &&& (3 : Int32)) w_ENABLE w_DISABLE w_ALLOW w_DISALLOW)), .val (.ref (own_at (j &&& (3 : Int32)) w_ENABLE w_DISABLE w_ALLOW w_DISALLOW)), .val (.int (if (i &&& (3 : Int32)) < 2 then (1 : Int32) else 0)), .val (.int (if (j &&& (3 : Int32)) < 2 then (1 : Int32) else 0)), .val (.int (1 : Int32)), .val (.int (0 : Int32)), .val (.int (1 : Int32))] []))
        refine Go.st (fun t' k' => XS.iload X22.here hx rfl (hb hby at_151) rfl k') ?_
        show Go p e below _ (T22.setTop (mkF m 153 #[.val (.int i), .val (.int j), .val (.ref b1), .val (.int (i &&& (3 : Int32))), .val (.int (j &&& (3 : Int32))), .val (.ref (own_at (i &&& (3 : Int32)) w_ENABLE w_DISABLE w_ALLOW w_DISALLOW)), .val (.ref (own_at (j &&& (3 : Int32)) w_ENABLE w_DISABLE w_ALLOW w_DISALLOW)), .val (.int (if (i &&& (3 : Int32)) < 2 then (1 : Int32) else 0)), .val (.int (if (j &&& (3 : Int32)) < 2 then (1 : Int32) else 0)), .val (.int (1 : Int32)), .val (.int (0 : Int32)), .val (.int (1 : Int32))] [(.int (1 : Int32))]))
        refine Go.st (fun t' k' => XS.ifNo X22.here hx rfl (hb hby at_153) rfl ((if0 _ _).trans (feq (by decide : ¬ ((1 : Int32) = (0 : Int32)))).1) k') ?_
        show Go p e below _ (T22.setTop (mkF m 156 #[.val (.int i), .val (.int j), .val (.ref b1), .val (.int (i &&& (3 : Int32))), .val (.int (j &&& (3 : Int32))), .val (.ref (own_at (i &&& (3 : Int32)) w_ENABLE w_DISABLE w_ALLOW w_DISALLOW)), .val (.ref (own_at (j &&& (3 : Int32)) w_ENABLE w_DISABLE w_ALLOW w_DISALLOW)), .val (.int (if (i &&& (3 : Int32)) < 2 then (1 : Int32) else 0)), .val (.int (if (j &&& (3 : Int32)) < 2 then (1 : Int32) else 0)), .val (.int (1 : Int32)), .val (.int (0 : Int32)), .val (.int (1 : Int32))] []))
        refine Go.st (fun t' k' => XS.iload X22.here hx rfl (hb hby at_156) rfl k') ?_
        show Go p e below _ (T22.setTop (mkF m 158 #[.val (.int i), .val (.int j), .val (.ref b1), .val (.int (i &&& (3 : Int32))), .val (.int (j &&& (3 : Int32))), .val (.ref (own_at (i &&& (3 : Int32)) w_ENABLE w_DISABLE w_ALLOW w_DISALLOW)), .val (.ref (own_at (j &&& (3 : Int32)) w_ENABLE w_DISABLE w_ALLOW w_DISALLOW)), .val (.int (if (i &&& (3 : Int32)) < 2 then (1 : Int32) else 0)), .val (.int (if (j &&& (3 : Int32)) < 2 then (1 : Int32) else 0)), .val (.int (1 : Int32)), .val (.int (0 : Int32)), .val (.int (1 : Int32))] [(.int (1 : Int32))]))
        refine Go.st (fun t' k' => XS.ifNo X22.here hx rfl (hb hby at_158) rfl ((if0 _ _).trans (feq (by decide : ¬ ((1 : Int32) = (0 : Int32)))).1) k') ?_
        show Go p e below _ (T22.setTop (mkF m 161 #[.val (.int i), .val (.int j), .val (.ref b1), .val (.int (i &&& (3 : Int32))), .val (.int (j &&& (3 : Int32))), .val (.ref (own_at (i &&& (3 : Int32)) w_ENABLE w_DISABLE w_ALLOW w_DISALLOW)), .val (.ref (own_at (j &&& (3 : Int32)) w_ENABLE w_DISABLE w_ALLOW w_DISALLOW)), .val (.int (if (i &&& (3 : Int32)) < 2 then (1 : Int32) else 0)), .val (.int (if (j &&& (3 : Int32)) < 2 then (1 : Int32) else 0)), .val (.int (1 : Int32)), .val (.int (0 : Int32)), .val (.int (1 : Int32))] []))
        refine Go.st (fun t' k' => XS.iconst X22.here hx rfl (hb hby at_161) k') ?_
        show Go p e below _ (T22.setTop (mkF m 162 #[.val (.int i), .val (.int j), .val (.ref b1), .val (.int (i &&& (3 : Int32))), .val (.int (j &&& (3 : Int32))), .val (.ref (own_at (i &&& (3 : Int32)) w_ENABLE w_DISABLE w_ALLOW w_DISALLOW)), .val (.ref (own_at (j &&& (3 : Int32)) w_ENABLE w_DISABLE w_ALLOW w_DISALLOW)), .val (.int (if (i &&& (3 : Int32)) < 2 then (1 : Int32) else 0)), .val (.int (if (j &&& (3 : Int32)) < 2 then (1 : Int32) else 0)), .val (.int (1 : Int32)), .val (.int (0 : Int32)), .val (.int (1 : Int32))] [(.int (1 : Int32))]))
        refine Go.st (fun t' k' => XS.goto X22.here hx rfl (pc0 := 162) (pc' := 166) rfl (hb hby at_162) (by decide) (by decide) k') ?_
        show Go p e below _ (T22.setTop (mkF m 166 #[.val (.int i), .val (.int j), .val (.ref b1), .val (.int (i &&& (3 : Int32))), .val (.int (j &&& (3 : Int32))), .val (.ref (own_at (i &&& (3 : Int32)) w_ENABLE w_DISABLE w_ALLOW w_DISALLOW)), .val (.ref (own_at (j &&& (3 : Int32)) w_ENABLE w_DISABLE w_ALLOW w_DISALLOW)), .val (.int (if (i &&& (3 : Int32)) < 2 then (1 : Int32) else 0)), .val (.int (if (j &&& (3 : Int32)) < 2 then (1 : Int32) else 0)), .val (.int (1 : Int32)), .val (.int (0 : Int32)), .val (.int (1 : Int32))] [(.int (1 : Int32))]))
        exact Go.outN X22 hx hlk (t := .boolean) hret (by simp) (hb hby at_166) (Q := Q_rm0 Z i j w_ENABLE w_DISABLE w_ALLOW w_DISALLOW h0) (by rw [e22]; exact ⟨rfl, N22⟩) (by decide) (by decide)
    · refine Go.st (fun t' k' => XS.icmpYes X22.here hx rfl (pc0 := 83) (pc' := 90) rfl (hb hby at_83) rfl (flt hc83_31).2.1 (by decide) (by decide) k') ?_
      show Go p e below _ (T22.setTop (mkF m 90 #[.val (.int i), .val (.int j), .val (.ref b1), .val (.int (i &&& (3 : Int32))), .val (.int (j &&& (3 : Int32))), .val (.ref (own_at (i &&& (3 : Int32)) w_ENABLE w_DISABLE w_ALLOW w_DISALLOW)), .val (.ref (own_at (j &&& (3 : Int32)) w_ENABLE w_DISABLE w_ALLOW w_DISALLOW)), .val (.int (if (i &&& (3 : Int32)) < 2 then (1 : Int32) else 0)), .val (.int (if (j &&& (3 : Int32)) < 2 then (1 : Int32) else 0)), .unset, .unset, .unset] [(.int (if (j &&& (3 : Int32)) < 2 then (1 : Int32) else 0))]))
      refine Go.st (fun t' k' => XS.iconst X22.here hx rfl (hb hby at_90) k') ?_
      show Go p e below _ (T22.setTop (mkF m 91 #[.val (.int i), .val (.int j), .val (.ref b1), .val (.int (i &&& (3 : Int32))), .val (.int (j &&& (3 : Int32))), .val (.ref (own_at (i &&& (3 : Int32)) w_ENABLE w_DISABLE w_ALLOW w_DISALLOW)), .val (.ref (own_at (j &&& (3 : Int32)) w_ENABLE w_DISABLE w_ALLOW w_DISALLOW)), .val (.int (if (i &&& (3 : Int32)) < 2 then (1 : Int32) else 0)), .val (.int (if (j &&& (3 : Int32)) < 2 then (1 : Int32) else 0)), .unset, .unset, .unset] [(.int (0 : Int32)), (.int (if (j &&& (3 : Int32)) < 2 then (1 : Int32) else 0))]))
      refine Go.st (fun t' k' => XS.icmpNo X22.here hx rfl (hb hby at_91) rfl (teq (by simp [hc67_23, hc83_31] : (if (j &&& (3 : Int32)) < 2 then (1 : Int32) else 0) = (0 : Int32))).2 k') ?_
      show Go p e below _ (T22.setTop (mkF m 94 #[.val (.int i), .val (.int j), .val (.ref b1), .val (.int (i &&& (3 : Int32))), .val (.int (j &&& (3 : Int32))), .val (.ref (own_at (i &&& (3 : Int32)) w_ENABLE w_DISABLE w_ALLOW w_DISALLOW)), .val (.ref (own_at (j &&& (3 : Int32)) w_ENABLE w_DISABLE w_ALLOW w_DISALLOW)), .val (.int (if (i &&& (3 : Int32)) < 2 then (1 : Int32) else 0)), .val (.int (if (j &&& (3 : Int32)) < 2 then (1 : Int32) else 0)), .unset, .unset, .unset] []))
      refine Go.st (fun t' k' => XS.iconst X22.here hx rfl (hb hby at_94) k') ?_
      show Go p e below _ (T22.setTop (mkF m 95 #[.val (.int i), .val (.int j), .val (.ref b1), .val (.int (i &&& (3 : Int32))), .val (.int (j &&& (3 : Int32))), .val (.ref (own_at (i &&& (3 : Int32)) w_ENABLE w_DISABLE w_ALLOW w_DISALLOW)), .val (.ref (own_at (j &&& (3 : Int32)) w_ENABLE w_DISABLE w_ALLOW w_DISALLOW)), .val (.int (if (i &&& (3 : Int32)) < 2 then (1 : Int32) else 0)), .val (.int (if (j &&& (3 : Int32)) < 2 then (1 : Int32) else 0)), .unset, .unset, .unset] [(.int (1 : Int32))]))
      refine Go.st (fun t' k' => XS.goto X22.here hx rfl (pc0 := 95) (pc' := 99) rfl (hb hby at_95) (by decide) (by decide) k') ?_
      show Go p e below _ (T22.setTop (mkF m 99 #[.val (.int i), .val (.int j), .val (.ref b1), .val (.int (i &&& (3 : Int32))), .val (.int (j &&& (3 : Int32))), .val (.ref (own_at (i &&& (3 : Int32)) w_ENABLE w_DISABLE w_ALLOW w_DISALLOW)), .val (.ref (own_at (j &&& (3 : Int32)) w_ENABLE w_DISABLE w_ALLOW w_DISALLOW)), .val (.int (if (i &&& (3 : Int32)) < 2 then (1 : Int32) else 0)), .val (.int (if (j &&& (3 : Int32)) < 2 then (1 : Int32) else 0)), .unset, .unset, .unset] [(.int (1 : Int32))]))
      refine Go.st (fun t' k' => XS.istore X22.here hx rfl (hb hby at_99) rfl (l' := #[.val (.int i), .val (.int j), .val (.ref b1), .val (.int (i &&& (3 : Int32))), .val (.int (j &&& (3 : Int32))), .val (.ref (own_at (i &&& (3 : Int32)) w_ENABLE w_DISABLE w_ALLOW w_DISALLOW)), .val (.ref (own_at (j &&& (3 : Int32)) w_ENABLE w_DISABLE w_ALLOW w_DISALLOW)), .val (.int (if (i &&& (3 : Int32)) < 2 then (1 : Int32) else 0)), .val (.int (if (j &&& (3 : Int32)) < 2 then (1 : Int32) else 0)), .val (.int (1 : Int32)), .unset, .unset]) rfl k') ?_
      show Go p e below _ (T22.setTop (mkF m 101 #[.val (.int i), .val (.int j), .val (.ref b1), .val (.int (i &&& (3 : Int32))), .val (.int (j &&& (3 : Int32))), .val (.ref (own_at (i &&& (3 : Int32)) w_ENABLE w_DISABLE w_ALLOW w_DISALLOW)), .val (.ref (own_at (j &&& (3 : Int32)) w_ENABLE w_DISABLE w_ALLOW w_DISALLOW)), .val (.int (if (i &&& (3 : Int32)) < 2 then (1 : Int32) else 0)), .val (.int (if (j &&& (3 : Int32)) < 2 then (1 : Int32) else 0)), .val (.int (1 : Int32)), .unset, .unset] []))
      refine Go.st (fun t' k' => XS.iload X22.here hx rfl (hb hby at_101) rfl k') ?_
      show Go p e below _ (T22.setTop (mkF m 103 #[.val (.int i), .val (.int j), .val (.ref b1), .val (.int (i &&& (3 : Int32))), .val (.int (j &&& (3 : Int32))), .val (.ref (own_at (i &&& (3 : Int32)) w_ENABLE w_DISABLE w_ALLOW w_DISALLOW)), .val (.ref (own_at (j &&& (3 : Int32)) w_ENABLE w_DISABLE w_ALLOW w_DISALLOW)), .val (.int (if (i &&& (3 : Int32)) < 2 then (1 : Int32) else 0)), .val (.int (if (j &&& (3 : Int32)) < 2 then (1 : Int32) else 0)), .val (.int (1 : Int32)), .unset, .unset] [(.int (if (i &&& (3 : Int32)) < 2 then (1 : Int32) else 0))]))
      refine Go.st (fun t' k' => XS.iload X22.here hx rfl (hb hby at_103) rfl k') ?_
      show Go p e below _ (T22.setTop (mkF m 105 #[.val (.int i), .val (.int j), .val (.ref b1), .val (.int (i &&& (3 : Int32))), .val (.int (j &&& (3 : Int32))), .val (.ref (own_at (i &&& (3 : Int32)) w_ENABLE w_DISABLE w_ALLOW w_DISALLOW)), .val (.ref (own_at (j &&& (3 : Int32)) w_ENABLE w_DISABLE w_ALLOW w_DISALLOW)), .val (.int (if (i &&& (3 : Int32)) < 2 then (1 : Int32) else 0)), .val (.int (if (j &&& (3 : Int32)) < 2 then (1 : Int32) else 0)), .val (.int (1 : Int32)), .unset, .unset] [(.int (if (j &&& (3 : Int32)) < 2 then (1 : Int32) else 0)), (.int (if (i &&& (3 : Int32)) < 2 then (1 : Int32) else 0))]))
      refine Go.st (fun t' k' => XS.icmpNo X22.here hx rfl (hb hby at_105) rfl (teq (by simp [hc67_23, hc83_31] : (if (i &&& (3 : Int32)) < 2 then (1 : Int32) else 0) = (if (j &&& (3 : Int32)) < 2 then (1 : Int32) else 0))).2 k') ?_
      show Go p e below _ (T22.setTop (mkF m 108 #[.val (.int i), .val (.int j), .val (.ref b1), .val (.int (i &&& (3 : Int32))), .val (.int (j &&& (3 : Int32))), .val (.ref (own_at (i &&& (3 : Int32)) w_ENABLE w_DISABLE w_ALLOW w_DISALLOW)), .val (.ref (own_at (j &&& (3 : Int32)) w_ENABLE w_DISABLE w_ALLOW w_DISALLOW)), .val (.int (if (i &&& (3 : Int32)) < 2 then (1 : Int32) else 0)), .val (.int (if (j &&& (3 : Int32)) < 2 then (1 : Int32) else 0)), .val (.int (1 : Int32)), .unset, .unset] []))
      refine Go.st (fun t' k' => XS.aload X22.here hx rfl (hb hby at_108) rfl rfl k') ?_
      show Go p e below _ (T22.setTop (mkF m 110 #[.val (.int i), .val (.int j), .val (.ref b1), .val (.int (i &&& (3 : Int32))), .val (.int (j &&& (3 : Int32))), .val (.ref (own_at (i &&& (3 : Int32)) w_ENABLE w_DISABLE w_ALLOW w_DISALLOW)), .val (.ref (own_at (j &&& (3 : Int32)) w_ENABLE w_DISABLE w_ALLOW w_DISALLOW)), .val (.int (if (i &&& (3 : Int32)) < 2 then (1 : Int32) else 0)), .val (.int (if (j &&& (3 : Int32)) < 2 then (1 : Int32) else 0)), .val (.int (1 : Int32)), .unset, .unset] [(.ref (own_at (i &&& (3 : Int32)) w_ENABLE w_DISABLE w_ALLOW w_DISALLOW))]))
      obtain ⟨cq33, kq33, q33a, q33b, q33c⟩ := isOf hZ e22 (E_at_i.ext O17)
      obtain ⟨_, _, ⟨T33, L33, k33, n33⟩, -, X33, ⟨Lc33, hQ33, l33, y33, z33⟩, st33⟩ := X22.virtualBack hx (y := (⟨"com/example/callweave/callweave/model/Rules$Effect", "permits", "()Z"⟩ : MethodName)) (z := (⟨"com/example/callweave/callweave/model/Rules$Effect", "permits", "()Z"⟩ : MethodName)) hown (mvT hZ (hw _ (List.mem_of_getElem? (i := 19) rfl))) (mvT hZ (hw _ (List.mem_of_getElem? (i := 20) rfl))) (notFace_of_selects (args := #[]) (mvT hZ (hw _ (List.mem_of_getElem? (i := 22) rfl)))) (mvT hZ (hw _ (List.mem_of_getElem? (i := 22) rfl))) (mvT hZ (hw _ (List.mem_of_getElem? (i := 21) rfl))) (by decide) (backOf (W := 0) (rm2 l Z a0 hw [] ((own_at (i &&& (3 : Int32)) w_ENABLE w_DISABLE w_ALLOW w_DISALLOW)) ((i &&& (3 : Int32))) w_ENABLE w_DISABLE w_ALLOW w_DISALLOW h17 O17 S_ENABLE S_ALLOW (own_at_spec i w_ENABLE w_DISABLE w_ALLOW w_DISALLOW) ne_ENABLE_DISABLE ne_ENABLE_ALLOW ne_ENABLE_DISALLOW ne_DISABLE_ALLOW ne_DISABLE_DISALLOW ne_ALLOW_DISALLOW) hZ (hw _ (List.mem_of_getElem? (i := 23) rfl)) (hw _ (List.mem_of_getElem? (i := 3) rfl)) (by decide) (by decide)) q33a q33c (g := (mkF m 110 #[.val (.int i), .val (.int j), .val (.ref b1), .val (.int (i &&& (3 : Int32))), .val (.int (j &&& (3 : Int32))), .val (.ref (own_at (i &&& (3 : Int32)) w_ENABLE w_DISABLE w_ALLOW w_DISALLOW)), .val (.ref (own_at (j &&& (3 : Int32)) w_ENABLE w_DISABLE w_ALLOW w_DISALLOW)), .val (.int (if (i &&& (3 : Int32)) < 2 then (1 : Int32) else 0)), .val (.int (if (j &&& (3 : Int32)) < 2 then (1 : Int32) else 0)), .val (.int (1 : Int32)), .unset, .unset] [(.ref (own_at (i &&& (3 : Int32)) w_ENABLE w_DISABLE w_ALLOW w_DISALLOW))])) rfl (by rw [hml]; rfl) (Steps.refl _) (argsL := []) (rest := []) (lenOf pd___Z rfl) rfl (by show 2 * 0 + _ ≤ _; exact Nat.le_of_eq rfl) (hb hby at_110) (fun _ _ => ⟨rfl, e22, (by decide : 1 + 0 ≤ _), (by decide : 4 + 0 ≤ _)⟩)
      dsimp only [Pt.U, Pt.locs, Pt.cells, Pt.slots] at X33 l33 y33 z33 st33 hQ33
      subst l33 y33 z33
      obtain ⟨rfl, rfl, e33⟩ := hQ33
      have N33 := Fr.app N22 (Fr.nil _)
      refine Go.tr st33 ?_
      show Go p e below _ (T33.setTop (mkF m 113 #[.val (.int i), .val (.int j), .val (.ref b1), .val (.int (i &&& (3 : Int32))), .val (.int (j &&& (3 : Int32))), .val (.ref (own_at (i &&& (3 : Int32)) w_ENABLE w_DISABLE w_ALLOW w_DISALLOW)), .val (.ref (own_at (j &&& (3 : Int32)) w_ENABLE w_DISABLE w_ALLOW w_DISALLOW)), .val (.int (if (i &&& (3 : Int32)) < 2 then (1 : Int32) else 0)), .val (.int (if (j &&& (3 : Int32)) < 2 then (1 : Int32) else 0)), .val (.int (1 : Int32)), .unset, .unset] [(.int (if (i &&& (3 : Int32)) = 0 ∨ (i &&& (3 : Int32)) = 2 then (1 : Int32) else 0))]))
      refine Go.st (fun t' k' => XS.aload X33.here hx rfl (hb hby at_113) rfl rfl k') ?_
      show Go p e below _ (T33.setTop (mkF m 115 #[.val (.int i), .val (.int j), .val (.ref b1), .val (.int (i &&& (3 : Int32))), .val (.int (j &&& (3 : Int32))), .val (.ref (own_at (i &&& (3 : Int32)) w_ENABLE w_DISABLE w_ALLOW w_DISALLOW)), .val (.ref (own_at (j &&& (3 : Int32)) w_ENABLE w_DISABLE w_ALLOW w_DISALLOW)), .val (.int (if (i &&& (3 : Int32)) < 2 then (1 : Int32) else 0)), .val (.int (if (j &&& (3 : Int32)) < 2 then (1 : Int32) else 0)), .val (.int (1 : Int32)), .unset, .unset] [(.ref (own_at (j &&& (3 : Int32)) w_ENABLE w_DISABLE w_ALLOW w_DISALLOW)), (.int (if (i &&& (3 : Int32)) = 0 ∨ (i &&& (3 : Int32)) = 2 then (1 : Int32) else 0))]))
      obtain ⟨cq34, kq34, q34a, q34b, q34c⟩ := isOf hZ e33 (E_at_j.ext O17)
      obtain ⟨_, _, ⟨T34, L34, k34, n34⟩, -, X34, ⟨Lc34, hQ34, l34, y34, z34⟩, st34⟩ := X33.virtualBack hx (y := (⟨"com/example/callweave/callweave/model/Rules$Effect", "permits", "()Z"⟩ : MethodName)) (z := (⟨"com/example/callweave/callweave/model/Rules$Effect", "permits", "()Z"⟩ : MethodName)) hown (mvT hZ (hw _ (List.mem_of_getElem? (i := 19) rfl))) (mvT hZ (hw _ (List.mem_of_getElem? (i := 20) rfl))) (notFace_of_selects (args := #[]) (mvT hZ (hw _ (List.mem_of_getElem? (i := 22) rfl)))) (mvT hZ (hw _ (List.mem_of_getElem? (i := 22) rfl))) (mvT hZ (hw _ (List.mem_of_getElem? (i := 21) rfl))) (by decide) (backOf (W := 1) (rm2 l Z a0 hw [] ((own_at (j &&& (3 : Int32)) w_ENABLE w_DISABLE w_ALLOW w_DISALLOW)) ((j &&& (3 : Int32))) w_ENABLE w_DISABLE w_ALLOW w_DISALLOW h17 O17 S_ENABLE S_ALLOW (own_at_spec j w_ENABLE w_DISABLE w_ALLOW w_DISALLOW) ne_ENABLE_DISABLE ne_ENABLE_ALLOW ne_ENABLE_DISALLOW ne_DISABLE_ALLOW ne_DISABLE_DISALLOW ne_ALLOW_DISALLOW) hZ (hw _ (List.mem_of_getElem? (i := 23) rfl)) (hw _ (List.mem_of_getElem? (i := 3) rfl)) (by decide) (by decide)) q34a q34c (g := (mkF m 115 #[.val (.int i), .val (.int j), .val (.ref b1), .val (.int (i &&& (3 : Int32))), .val (.int (j &&& (3 : Int32))), .val (.ref (own_at (i &&& (3 : Int32)) w_ENABLE w_DISABLE w_ALLOW w_DISALLOW)), .val (.ref (own_at (j &&& (3 : Int32)) w_ENABLE w_DISABLE w_ALLOW w_DISALLOW)), .val (.int (if (i &&& (3 : Int32)) < 2 then (1 : Int32) else 0)), .val (.int (if (j &&& (3 : Int32)) < 2 then (1 : Int32) else 0)), .val (.int (1 : Int32)), .unset, .unset] [(.ref (own_at (j &&& (3 : Int32)) w_ENABLE w_DISABLE w_ALLOW w_DISALLOW)), (.int (if (i &&& (3 : Int32)) = 0 ∨ (i &&& (3 : Int32)) = 2 then (1 : Int32) else 0))])) rfl (by rw [hml]; rfl) (Steps.refl _) (argsL := []) (rest := [(.int (if (i &&& (3 : Int32)) = 0 ∨ (i &&& (3 : Int32)) = 2 then (1 : Int32) else 0))]) (lenOf pd___Z rfl) rfl (by show 2 * 0 + _ ≤ _; exact Nat.le_of_eq rfl) (hb hby at_115) (fun _ _ => ⟨rfl, e33, (by decide : 1 + 0 ≤ _), (by decide : 4 + 0 ≤ _)⟩)
      dsimp only [Pt.U, Pt.locs, Pt.cells, Pt.slots] at X34 l34 y34 z34 st34 hQ34
      subst l34 y34 z34
      obtain ⟨rfl, rfl, e34⟩ := hQ34
      have N34 := Fr.app N33 (Fr.nil _)
      refine Go.tr st34 ?_
      show Go p e below _ (T34.setTop (mkF m 118 #[.val (.int i), .val (.int j), .val (.ref b1), .val (.int (i &&& (3 : Int32))), .val (.int (j &&& (3 : Int32))), .val (.ref (own_at (i &&& (3 : Int32)) w_ENABLE w_DISABLE w_ALLOW w_DISALLOW)), .val (.ref (own_at (j &&& (3 : Int32)) w_ENABLE w_DISABLE w_ALLOW w_DISALLOW)), .val (.int (if (i &&& (3 : Int32)) < 2 then (1 : Int32) else 0)), .val (.int (if (j &&& (3 : Int32)) < 2 then (1 : Int32) else 0)), .val (.int (1 : Int32)), .unset, .unset] [(.int (if (j &&& (3 : Int32)) = 0 ∨ (j &&& (3 : Int32)) = 2 then (1 : Int32) else 0)), (.int (if (i &&& (3 : Int32)) = 0 ∨ (i &&& (3 : Int32)) = 2 then (1 : Int32) else 0))]))
      by_cases hc118_35 : (if (i &&& (3 : Int32)) = 0 ∨ (i &&& (3 : Int32)) = 2 then (1 : Int32) else 0) = (if (j &&& (3 : Int32)) = 0 ∨ (j &&& (3 : Int32)) = 2 then (1 : Int32) else 0)
      · refine Go.st (fun t' k' => XS.icmpNo X34.here hx rfl (hb hby at_118) rfl (teq hc118_35).2 k') ?_
        show Go p e below _ (T34.setTop (mkF m 121 #[.val (.int i), .val (.int j), .val (.ref b1), .val (.int (i &&& (3 : Int32))), .val (.int (j &&& (3 : Int32))), .val (.ref (own_at (i &&& (3 : Int32)) w_ENABLE w_DISABLE w_ALLOW w_DISALLOW)), .val (.ref (own_at (j &&& (3 : Int32)) w_ENABLE w_DISABLE w_ALLOW w_DISALLOW)), .val (.int (if (i &&& (3 : Int32)) < 2 then (1 : Int32) else 0)), .val (.int (if (j &&& (3 : Int32)) < 2 then (1 : Int32) else 0)), .val (.int (1 : Int32)), .unset, .unset] []))
        refine Go.st (fun t' k' => XS.iconst X34.here hx rfl (hb hby at_121) k') ?_
        show Go p e below _ (T34.setTop (mkF m 122 #[.val (.int i), .val (.int j), .val (.ref b1), .val (.int (i &&& (3 : Int32))), .val (.int (j &&& (3 : Int32))), .val (.ref (own_at (i &&& (3 : Int32)) w_ENABLE w_DISABLE w_ALLOW w_DISALLOW)), .val (.ref (own_at (j &&& (3 : Int32)) w_ENABLE w_DISABLE w_ALLOW w_DISALLOW)), .val (.int (if (i &&& (3 : Int32)) < 2 then (1 : Int32) else 0)), .val (.int (if (j &&& (3 : Int32)) < 2 then (1 : Int32) else 0)), .val (.int (1 : Int32)), .unset, .unset] [(.int (1 : Int32))]))
        refine Go.st (fun t' k' => XS.goto X34.here hx rfl (pc0 := 122) (pc' := 126) rfl (hb hby at_122) (by decide) (by decide) k') ?_
        show Go p e below _ (T34.setTop (mkF m 126 #[.val (.int i), .val (.int j), .val (.ref b1), .val (.int (i &&& (3 : Int32))), .val (.int (j &&& (3 : Int32))), .val (.ref (own_at (i &&& (3 : Int32)) w_ENABLE w_DISABLE w_ALLOW w_DISALLOW)), .val (.ref (own_at (j &&& (3 : Int32)) w_ENABLE w_DISABLE w_ALLOW w_DISALLOW)), .val (.int (if (i &&& (3 : Int32)) < 2 then (1 : Int32) else 0)), .val (.int (if (j &&& (3 : Int32)) < 2 then (1 : Int32) else 0)), .val (.int (1 : Int32)), .unset, .unset] [(.int (1 : Int32))]))
        refine Go.st (fun t' k' => XS.istore X34.here hx rfl (hb hby at_126) rfl (l' := #[.val (.int i), .val (.int j), .val (.ref b1), .val (.int (i &&& (3 : Int32))), .val (.int (j &&& (3 : Int32))), .val (.ref (own_at (i &&& (3 : Int32)) w_ENABLE w_DISABLE w_ALLOW w_DISALLOW)), .val (.ref (own_at (j &&& (3 : Int32)) w_ENABLE w_DISABLE w_ALLOW w_DISALLOW)), .val (.int (if (i &&& (3 : Int32)) < 2 then (1 : Int32) else 0)), .val (.int (if (j &&& (3 : Int32)) < 2 then (1 : Int32) else 0)), .val (.int (1 : Int32)), .val (.int (1 : Int32)), .unset]) rfl k') ?_
        show Go p e below _ (T34.setTop (mkF m 128 #[.val (.int i), .val (.int j), .val (.ref b1), .val (.int (i &&& (3 : Int32))), .val (.int (j &&& (3 : Int32))), .val (.ref (own_at (i &&& (3 : Int32)) w_ENABLE w_DISABLE w_ALLOW w_DISALLOW)), .val (.ref (own_at (j &&& (3 : Int32)) w_ENABLE w_DISABLE w_ALLOW w_DISALLOW)), .val (.int (if (i &&& (3 : Int32)) < 2 then (1 : Int32) else 0)), .val (.int (if (j &&& (3 : Int32)) < 2 then (1 : Int32) else 0)), .val (.int (1 : Int32)), .val (.int (1 : Int32)), .unset] []))
        refine Go.st (fun t' k' => XS.iload X34.here hx rfl (hb hby at_128) rfl k') ?_
        show Go p e below _ (T34.setTop (mkF m 130 #[.val (.int i), .val (.int j), .val (.ref b1), .val (.int (i &&& (3 : Int32))), .val (.int (j &&& (3 : Int32))), .val (.ref (own_at (i &&& (3 : Int32)) w_ENABLE w_DISABLE w_ALLOW w_DISALLOW)), .val (.ref (own_at (j &&& (3 : Int32)) w_ENABLE w_DISABLE w_ALLOW w_DISALLOW)), .val (.int (if (i &&& (3 : Int32)) < 2 then (1 : Int32) else 0)), .val (.int (if (j &&& (3 : Int32)) < 2 then (1 : Int32) else 0)), .val (.int (1 : Int32)), .val (.int (1 : Int32)), .unset] [(.int (1 : Int32))]))
        refine Go.st (fun t' k' => XS.iloadN X34.here hx rfl (hb hby at_130) rfl k') ?_
        show Go p e below _ (T34.setTop (mkF m 131 #[.val (.int i), .val (.int j), .val (.ref b1), .val (.int (i &&& (3 : Int32))), .val (.int (j &&& (3 : Int32))), .val (.ref (own_at (i &&& (3 : Int32)) w_ENABLE w_DISABLE w_ALLOW w_DISALLOW)), .val (.ref (own_at (j &&& (3 : Int32)) w_ENABLE w_DISABLE w_ALLOW w_DISALLOW)), .val (.int (if (i &&& (3 : Int32)) < 2 then (1 : Int32) else 0)), .val (.int (if (j &&& (3 : Int32)) < 2 then (1 : Int32) else 0)), .val (.int (1 : Int32)), .val (.int (1 : Int32)), .unset] [(.int (i &&& (3 : Int32))), (.int (1 : Int32))]))
        refine Go.st (fun t' k' => XS.iload X34.here hx rfl (hb hby at_131) rfl k') ?_
        show Go p e below _ (T34.setTop (mkF m 133 #[.val (.int i), .val (.int j), .val (.ref b1), .val (.int (i &&& (3 : Int32))), .val (.int (j &&& (3 : Int32))), .val (.ref (own_at (i &&& (3 : Int32)) w_ENABLE w_DISABLE w_ALLOW w_DISALLOW)), .val (.ref (own_at (j &&& (3 : Int32)) w_ENABLE w_DISABLE w_ALLOW w_DISALLOW)), .val (.int (if (i &&& (3 : Int32)) < 2 then (1 : Int32) else 0)), .val (.int (if (j &&& (3 : Int32)) < 2 then (1 : Int32) else 0)), .val (.int (1 : Int32)), .val (.int (1 : Int32)), .unset] [(.int (j &&& (3 : Int32))), (.int (i &&& (3 : Int32))), (.int (1 : Int32))]))
        by_cases hc133_36 : (i &&& (3 : Int32)) = (j &&& (3 : Int32))
        · refine Go.st (fun t' k' => XS.icmpNo X34.here hx rfl (hb hby at_133) rfl (teq hc133_36).2 k') ?_
          show Go p e below _ (T34.setTop (mkF m 136 #[.val (.int i), .val (.int j), .val (.ref b1), .val (.int (i &&& (3 : Int32))), .val (.int (j &&& (3 : Int32))), .val (.ref (own_at (i &&& (3 : Int32)) w_ENABLE w_DISABLE w_ALLOW w_DISALLOW)), .val (.ref (own_at (j &&& (3 : Int32)) w_ENABLE w_DISABLE w_ALLOW w_DISALLOW)), .val (.int (if (i &&& (3 : Int32)) < 2 then (1 : Int32) else 0)), .val (.int (if (j &&& (3 : Int32)) < 2 then (1 : Int32) else 0)), .val (.int (1 : Int32)), .val (.int (1 : Int32)), .unset] [(.int (1 : Int32))]))
          refine Go.st (fun t' k' => XS.iconst X34.here hx rfl (hb hby at_136) k') ?_
          show Go p e below _ (T34.setTop (mkF m 137 #[.val (.int i), .val (.int j), .val (.ref b1), .val (.int (i &&& (3 : Int32))), .val (.int (j &&& (3 : Int32))), .val (.ref (own_at (i &&& (3 : Int32)) w_ENABLE w_DISABLE w_ALLOW w_DISALLOW)), .val (.ref (own_at (j &&& (3 : Int32)) w_ENABLE w_DISABLE w_ALLOW w_DISALLOW)), .val (.int (if (i &&& (3 : Int32)) < 2 then (1 : Int32) else 0)), .val (.int (if (j &&& (3 : Int32)) < 2 then (1 : Int32) else 0)), .val (.int (1 : Int32)), .val (.int (1 : Int32)), .unset] [(.int (1 : Int32)), (.int (1 : Int32))]))
          refine Go.st (fun t' k' => XS.goto X34.here hx rfl (pc0 := 137) (pc' := 141) rfl (hb hby at_137) (by decide) (by decide) k') ?_
          show Go p e below _ (T34.setTop (mkF m 141 #[.val (.int i), .val (.int j), .val (.ref b1), .val (.int (i &&& (3 : Int32))), .val (.int (j &&& (3 : Int32))), .val (.ref (own_at (i &&& (3 : Int32)) w_ENABLE w_DISABLE w_ALLOW w_DISALLOW)), .val (.ref (own_at (j &&& (3 : Int32)) w_ENABLE w_DISABLE w_ALLOW w_DISALLOW)), .val (.int (if (i &&& (3 : Int32)) < 2 then (1 : Int32) else 0)), .val (.int (if (j &&& (3 : Int32)) < 2 then (1 : Int32) else 0)), .val (.int (1 : Int32)), .val (.int (1 : Int32)), .unset] [(.int (1 : Int32)), (.int (1 : Int32))]))
          refine Go.st (fun t' k' => XS.icmpNo X34.here hx rfl (hb hby at_141) rfl (teq (by decide : (1 : Int32) = (1 : Int32))).2 k') ?_
          show Go p e below _ (T34.setTop (mkF m 144 #[.val (.int i), .val (.int j), .val (.ref b1), .val (.int (i &&& (3 : Int32))), .val (.int (j &&& (3 : Int32))), .val (.ref (own_at (i &&& (3 : Int32)) w_ENABLE w_DISABLE w_ALLOW w_DISALLOW)), .val (.ref (own_at (j &&& (3 : Int32)) w_ENABLE w_DISABLE w_ALLOW w_DISALLOW)), .val (.int (if (i &&& (3 : Int32)) < 2 then (1 : Int32) else 0)), .val (.int (if (j &&& (3 : Int32)) < 2 then (1 : Int32) else 0)), .val (.int (1 : Int32)), .val (.int (1 : Int32)), .unset] []))
          refine Go.st (fun t' k' => XS.iconst X34.here hx rfl (hb hby at_144) k') ?_
          show Go p e below _ (T34.setTop (mkF m 145 #[.val (.int i), .val (.int j), .val (.ref b1), .val (.int (i &&& (3 : Int32))), .val (.int (j &&& (3 : Int32))), .val (.ref (own_at (i &&& (3 : Int32)) w_ENABLE w_DISABLE w_ALLOW w_DISALLOW)), .val (.ref (own_at (j &&& (3 : Int32)) w_ENABLE w_DISABLE w_ALLOW w_DISALLOW)), .val (.int (if (i &&& (3 : Int32)) < 2 then (1 : Int32) else 0)), .val (.int (if (j &&& (3 : Int32)) < 2 then (1 : Int32) else 0)), .val (.int (1 : Int32)), .val (.int (1 : Int32)), .unset] [(.int (1 : Int32))]))
          refine Go.st (fun t' k' => XS.goto X34.here hx rfl (pc0 := 145) (pc' := 149) rfl (hb hby at_145) (by decide) (by decide) k') ?_
          show Go p e below _ (T34.setTop (mkF m 149 #[.val (.int i), .val (.int j), .val (.ref b1), .val (.int (i &&& (3 : Int32))), .val (.int (j &&& (3 : Int32))), .val (.ref (own_at (i &&& (3 : Int32)) w_ENABLE w_DISABLE w_ALLOW w_DISALLOW)), .val (.ref (own_at (j &&& (3 : Int32)) w_ENABLE w_DISABLE w_ALLOW w_DISALLOW)), .val (.int (if (i &&& (3 : Int32)) < 2 then (1 : Int32) else 0)), .val (.int (if (j &&& (3 : Int32)) < 2 then (1 : Int32) else 0)), .val (.int (1 : Int32)), .val (.int (1 : Int32)), .unset] [(.int (1 : Int32))]))
          refine Go.st (fun t' k' => XS.istore X34.here hx rfl (hb hby at_149) rfl (l' := #[.val (.int i), .val (.int j), .val (.ref b1), .val (.int (i &&& (3 : Int32))), .val (.int (j &&& (3 : Int32))), .val (.ref (own_at (i &&& (3 : Int32)) w_ENABLE w_DISABLE w_ALLOW w_DISALLOW)), .val (.ref (own_at (j &&& (3 : Int32)) w_ENABLE w_DISABLE w_ALLOW w_DISALLOW)), .val (.int (if (i &&& (3 : Int32)) < 2 then (1 : Int32) else 0)), .val (.int (if (j &&& (3 : Int32)) < 2 then (1 : Int32) else 0)), .val (.int (1 : Int32)), .val (.int (1 : Int32)), .val (.int (1 : Int32))]) rfl k') ?_
          show Go p e below _ (T34.setTop (mkF m 151 #[.val (.int i), .val (.int j), .val (.ref b1), .val (.int (i &&& (3 : Int32))), .val (.int (j &&& (3 : Int32))), .val (.ref (own_at (i &&& (3 : Int32)) w_ENABLE w_DISABLE w_ALLOW w_DISALLOW)), .val (.ref (own_at (j &&& (3 : Int32)) w_ENABLE w_DISABLE w_ALLOW w_DISALLOW)), .val (.int (if (i &&& (3 : Int32)) < 2 then (1 : Int32) else 0)), .val (.int (if (j &&& (3 : Int32)) < 2 then (1 : Int32) else 0)), .val (.int (1 : Int32)), .val (.int (1 : Int32)), .val (.int (1 : Int32))] []))
          refine Go.st (fun t' k' => XS.iload X34.here hx rfl (hb hby at_151) rfl k') ?_
          show Go p e below _ (T34.setTop (mkF m 153 #[.val (.int i), .val (.int j), .val (.ref b1), .val (.int (i &&& (3 : Int32))), .val (.int (j &&& (3 : Int32))), .val (.ref (own_at (i &&& (3 : Int32)) w_ENABLE w_DISABLE w_ALLOW w_DISALLOW)), .val (.ref (own_at (j &&& (3 : Int32)) w_ENABLE w_DISABLE w_ALLOW w_DISALLOW)), .val (.int (if (i &&& (3 : Int32)) < 2 then (1 : Int32) else 0)), .val (.int (if (j &&& (3 : Int32)) < 2 then (1 : Int32) else 0)), .val (.int (1 : Int32)), .val (.int (1 : Int32)), .val (.int (1 : Int32))] [(.int (1 : Int32))]))
          refine Go.st (fun t' k' => XS.ifNo X34.here hx rfl (hb hby at_153) rfl ((if0 _ _).trans (feq (by decide : ¬ ((1 : Int32) = (0 : Int32)))).1) k') ?_
          show Go p e below _ (T34.setTop (mkF m 156 #[.val (.int i), .val (.int j), .val (.ref b1), .val (.int (i &&& (3 : Int32))), .val (.int (j &&& (3 : Int32))), .val (.ref (own_at (i &&& (3 : Int32)) w_ENABLE w_DISABLE w_ALLOW w_DISALLOW)), .val (.ref (own_at (j &&& (3 : Int32)) w_ENABLE w_DISABLE w_ALLOW w_DISALLOW)), .val (.int (if (i &&& (3 : Int32)) < 2 then (1 : Int32) else 0)), .val (.int (if (j &&& (3 : Int32)) < 2 then (1 : Int32) else 0)), .val (.int (1 : Int32)), .val (.int (1 : Int32)), .val (.int (1 : Int32))] []))
          refine Go.st (fun t' k' => XS.iload X34.here hx rfl (hb hby at_156) rfl k') ?_
          show Go p e below _ (T34.setTop (mkF m 158 #[.val (.int i), .val (.int j), .val (.ref b1), .val (.int (i &&& (3 : Int32))), .val (.int (j &&& (3 : Int32))), .val (.ref (own_at (i &&& (3 : Int32)) w_ENABLE w_DISABLE w_ALLOW w_DISALLOW)), .val (.ref (own_at (j &&& (3 : Int32)) w_ENABLE w_DISABLE w_ALLOW w_DISALLOW)), .val (.int (if (i &&& (3 : Int32)) < 2 then (1 : Int32) else 0)), .val (.int (if (j &&& (3 : Int32)) < 2 then (1 : Int32) else 0)), .val (.int (1 : Int32)), .val (.int (1 : Int32)), .val (.int (1 : Int32))] [(.int (1 : Int32))]))
          refine Go.st (fun t' k' => XS.ifNo X34.here hx rfl (hb hby at_158) rfl ((if0 _ _).trans (feq (by decide : ¬ ((1 : Int32) = (0 : Int32)))).1) k') ?_
          show Go p e below _ (T34.setTop (mkF m 161 #[.val (.int i), .val (.int j), .val (.ref b1), .val (.int (i &&& (3 : Int32))), .val (.int (j &&& (3 : Int32))), .val (.ref (own_at (i &&& (3 : Int32)) w_ENABLE w_DISABLE w_ALLOW w_DISALLOW)), .val (.ref (own_at (j &&& (3 : Int32)) w_ENABLE w_DISABLE w_ALLOW w_DISALLOW)), .val (.int (if (i &&& (3 : Int32)) < 2 then (1 : Int32) else 0)), .val (.int (if (j &&& (3 : Int32)) < 2 then (1 : Int32) else 0)), .val (.int (1 : Int32)), .val (.int (1 : Int32)), .val (.int (1 : Int32))] []))
          refine Go.st (fun t' k' => XS.iconst X34.here hx rfl (hb hby at_161) k') ?_
          show Go p e below _ (T34.setTop (mkF m 162 #[.val (.int i), .val (.int j), .val (.ref b1), .val (.int (i &&& (3 : Int32))), .val (.int (j &&& (3 : Int32))), .val (.ref (own_at (i &&& (3 : Int32)) w_ENABLE w_DISABLE w_ALLOW w_DISALLOW)), .val (.ref (own_at (j &&& (3 : Int32)) w_ENABLE w_DISABLE w_ALLOW w_DISALLOW)), .val (.int (if (i &&& (3 : Int32)) < 2 then (1 : Int32) else 0)), .val (.int (if (j &&& (3 : Int32)) < 2 then (1 : Int32) else 0)), .val (.int (1 : Int32)), .val (.int (1 : Int32)), .val (.int (1 : Int32))] [(.int (1 : Int32))]))
          refine Go.st (fun t' k' => XS.goto X34.here hx rfl (pc0 := 162) (pc' := 166) rfl (hb hby at_162) (by decide) (by decide) k') ?_
          show Go p e below _ (T34.setTop (mkF m 166 #[.val (.int i), .val (.int j), .val (.ref b1), .val (.int (i &&& (3 : Int32))), .val (.int (j &&& (3 : Int32))), .val (.ref (own_at (i &&& (3 : Int32)) w_ENABLE w_DISABLE w_ALLOW w_DISALLOW)), .val (.ref (own_at (j &&& (3 : Int32)) w_ENABLE w_DISABLE w_ALLOW w_DISALLOW)), .val (.int (if (i &&& (3 : Int32)) < 2 then (1 : Int32) else 0)), .val (.int (if (j &&& (3 : Int32)) < 2 then (1 : Int32) else 0)), .val (.int (1 : Int32)), .val (.int (1 : Int32)), .val (.int (1 : Int32))] [(.int (1 : Int32))]))
          exact Go.outN X34 hx hlk (t := .boolean) hret (by simp) (hb hby at_166) (Q := Q_rm0 Z i j w_ENABLE w_DISABLE w_ALLOW w_DISALLOW h0) (by rw [e34]; exact ⟨rfl, N34⟩) (by decide) (by decide)
        · exact absurd (own_apart i j (by simp [hc67_23, hc83_31]) (own_ite_iff hc118_35)) hc133_36
      · refine Go.st (fun t' k' => XS.icmpYes X34.here hx rfl (pc0 := 118) (pc' := 125) rfl (hb hby at_118) rfl (feq hc118_35).2 (by decide) (by decide) k') ?_
        show Go p e below _ (T34.setTop (mkF m 125 #[.val (.int i), .val (.int j), .val (.ref b1), .val (.int (i &&& (3 : Int32))), .val (.int (j &&& (3 : Int32))), .val (.ref (own_at (i &&& (3 : Int32)) w_ENABLE w_DISABLE w_ALLOW w_DISALLOW)), .val (.ref (own_at (j &&& (3 : Int32)) w_ENABLE w_DISABLE w_ALLOW w_DISALLOW)), .val (.int (if (i &&& (3 : Int32)) < 2 then (1 : Int32) else 0)), .val (.int (if (j &&& (3 : Int32)) < 2 then (1 : Int32) else 0)), .val (.int (1 : Int32)), .unset, .unset] []))
        refine Go.st (fun t' k' => XS.iconst X34.here hx rfl (hb hby at_125) k') ?_
        show Go p e below _ (T34.setTop (mkF m 126 #[.val (.int i), .val (.int j), .val (.ref b1), .val (.int (i &&& (3 : Int32))), .val (.int (j &&& (3 : Int32))), .val (.ref (own_at (i &&& (3 : Int32)) w_ENABLE w_DISABLE w_ALLOW w_DISALLOW)), .val (.ref (own_at (j &&& (3 : Int32)) w_ENABLE w_DISABLE w_ALLOW w_DISALLOW)), .val (.int (if (i &&& (3 : Int32)) < 2 then (1 : Int32) else 0)), .val (.int (if (j &&& (3 : Int32)) < 2 then (1 : Int32) else 0)), .val (.int (1 : Int32)), .unset, .unset] [(.int (0 : Int32))]))
        refine Go.st (fun t' k' => XS.istore X34.here hx rfl (hb hby at_126) rfl (l' := #[.val (.int i), .val (.int j), .val (.ref b1), .val (.int (i &&& (3 : Int32))), .val (.int (j &&& (3 : Int32))), .val (.ref (own_at (i &&& (3 : Int32)) w_ENABLE w_DISABLE w_ALLOW w_DISALLOW)), .val (.ref (own_at (j &&& (3 : Int32)) w_ENABLE w_DISABLE w_ALLOW w_DISALLOW)), .val (.int (if (i &&& (3 : Int32)) < 2 then (1 : Int32) else 0)), .val (.int (if (j &&& (3 : Int32)) < 2 then (1 : Int32) else 0)), .val (.int (1 : Int32)), .val (.int (0 : Int32)), .unset]) rfl k') ?_
        show Go p e below _ (T34.setTop (mkF m 128 #[.val (.int i), .val (.int j), .val (.ref b1), .val (.int (i &&& (3 : Int32))), .val (.int (j &&& (3 : Int32))), .val (.ref (own_at (i &&& (3 : Int32)) w_ENABLE w_DISABLE w_ALLOW w_DISALLOW)), .val (.ref (own_at (j &&& (3 : Int32)) w_ENABLE w_DISABLE w_ALLOW w_DISALLOW)), .val (.int (if (i &&& (3 : Int32)) < 2 then (1 : Int32) else 0)), .val (.int (if (j &&& (3 : Int32)) < 2 then (1 : Int32) else 0)), .val (.int (1 : Int32)), .val (.int (0 : Int32)), .unset] []))
        refine Go.st (fun t' k' => XS.iload X34.here hx rfl (hb hby at_128) rfl k') ?_
        show Go p e below _ (T34.setTop (mkF m 130 #[.val (.int i), .val (.int j), .val (.ref b1), .val (.int (i &&& (3 : Int32))), .val (.int (j &&& (3 : Int32))), .val (.ref (own_at (i &&& (3 : Int32)) w_ENABLE w_DISABLE w_ALLOW w_DISALLOW)), .val (.ref (own_at (j &&& (3 : Int32)) w_ENABLE w_DISABLE w_ALLOW w_DISALLOW)), .val (.int (if (i &&& (3 : Int32)) < 2 then (1 : Int32) else 0)), .val (.int (if (j &&& (3 : Int32)) < 2 then (1 : Int32) else 0)), .val (.int (1 : Int32)), .val (.int (0 : Int32)), .unset] [(.int (0 : Int32))]))
        refine Go.st (fun t' k' => XS.iloadN X34.here hx rfl (hb hby at_130) rfl k') ?_
        show Go p e below _ (T34.setTop (mkF m 131 #[.val (.int i), .val (.int j), .val (.ref b1), .val (.int (i &&& (3 : Int32))), .val (.int (j &&& (3 : Int32))), .val (.ref (own_at (i &&& (3 : Int32)) w_ENABLE w_DISABLE w_ALLOW w_DISALLOW)), .val (.ref (own_at (j &&& (3 : Int32)) w_ENABLE w_DISABLE w_ALLOW w_DISALLOW)), .val (.int (if (i &&& (3 : Int32)) < 2 then (1 : Int32) else 0)), .val (.int (if (j &&& (3 : Int32)) < 2 then (1 : Int32) else 0)), .val (.int (1 : Int32)), .val (.int (0 : Int32)), .unset] [(.int (i &&& (3 : Int32))), (.int (0 : Int32))]))
        refine Go.st (fun t' k' => XS.iload X34.here hx rfl (hb hby at_131) rfl k') ?_
        show Go p e below _ (T34.setTop (mkF m 133 #[.val (.int i), .val (.int j), .val (.ref b1), .val (.int (i &&& (3 : Int32))), .val (.int (j &&& (3 : Int32))), .val (.ref (own_at (i &&& (3 : Int32)) w_ENABLE w_DISABLE w_ALLOW w_DISALLOW)), .val (.ref (own_at (j &&& (3 : Int32)) w_ENABLE w_DISABLE w_ALLOW w_DISALLOW)), .val (.int (if (i &&& (3 : Int32)) < 2 then (1 : Int32) else 0)), .val (.int (if (j &&& (3 : Int32)) < 2 then (1 : Int32) else 0)), .val (.int (1 : Int32)), .val (.int (0 : Int32)), .unset] [(.int (j &&& (3 : Int32))), (.int (i &&& (3 : Int32))), (.int (0 : Int32))]))
        by_cases hc133_37 : (i &&& (3 : Int32)) = (j &&& (3 : Int32))
        · exact absurd (by rw [hc133_37]) hc118_35
        · refine Go.st (fun t' k' => XS.icmpYes X34.here hx rfl (pc0 := 133) (pc' := 140) rfl (hb hby at_133) rfl (feq hc133_37).2 (by decide) (by decide) k') ?_
          show Go p e below _ (T34.setTop (mkF m 140 #[.val (.int i), .val (.int j), .val (.ref b1), .val (.int (i &&& (3 : Int32))), .val (.int (j &&& (3 : Int32))), .val (.ref (own_at (i &&& (3 : Int32)) w_ENABLE w_DISABLE w_ALLOW w_DISALLOW)), .val (.ref (own_at (j &&& (3 : Int32)) w_ENABLE w_DISABLE w_ALLOW w_DISALLOW)), .val (.int (if (i &&& (3 : Int32)) < 2 then (1 : Int32) else 0)), .val (.int (if (j &&& (3 : Int32)) < 2 then (1 : Int32) else 0)), .val (.int (1 : Int32)), .val (.int (0 : Int32)), .unset] [(.int (0 : Int32))]))
          refine Go.st (fun t' k' => XS.iconst X34.here hx rfl (hb hby at_140) k') ?_
          show Go p e below _ (T34.setTop (mkF m 141 #[.val (.int i), .val (.int j), .val (.ref b1), .val (.int (i &&& (3 : Int32))), .val (.int (j &&& (3 : Int32))), .val (.ref (own_at (i &&& (3 : Int32)) w_ENABLE w_DISABLE w_ALLOW w_DISALLOW)), .val (.ref (own_at (j &&& (3 : Int32)) w_ENABLE w_DISABLE w_ALLOW w_DISALLOW)), .val (.int (if (i &&& (3 : Int32)) < 2 then (1 : Int32) else 0)), .val (.int (if (j &&& (3 : Int32)) < 2 then (1 : Int32) else 0)), .val (.int (1 : Int32)), .val (.int (0 : Int32)), .unset] [(.int (0 : Int32)), (.int (0 : Int32))]))
          refine Go.st (fun t' k' => XS.icmpNo X34.here hx rfl (hb hby at_141) rfl (teq (by decide : (0 : Int32) = (0 : Int32))).2 k') ?_
          show Go p e below _ (T34.setTop (mkF m 144 #[.val (.int i), .val (.int j), .val (.ref b1), .val (.int (i &&& (3 : Int32))), .val (.int (j &&& (3 : Int32))), .val (.ref (own_at (i &&& (3 : Int32)) w_ENABLE w_DISABLE w_ALLOW w_DISALLOW)), .val (.ref (own_at (j &&& (3 : Int32)) w_ENABLE w_DISABLE w_ALLOW w_DISALLOW)), .val (.int (if (i &&& (3 : Int32)) < 2 then (1 : Int32) else 0)), .val (.int (if (j &&& (3 : Int32)) < 2 then (1 : Int32) else 0)), .val (.int (1 : Int32)), .val (.int (0 : Int32)), .unset] []))
          refine Go.st (fun t' k' => XS.iconst X34.here hx rfl (hb hby at_144) k') ?_
          show Go p e below _ (T34.setTop (mkF m 145 #[.val (.int i), .val (.int j), .val (.ref b1), .val (.int (i &&& (3 : Int32))), .val (.int (j &&& (3 : Int32))), .val (.ref (own_at (i &&& (3 : Int32)) w_ENABLE w_DISABLE w_ALLOW w_DISALLOW)), .val (.ref (own_at (j &&& (3 : Int32)) w_ENABLE w_DISABLE w_ALLOW w_DISALLOW)), .val (.int (if (i &&& (3 : Int32)) < 2 then (1 : Int32) else 0)), .val (.int (if (j &&& (3 : Int32)) < 2 then (1 : Int32) else 0)), .val (.int (1 : Int32)), .val (.int (0 : Int32)), .unset] [(.int (1 : Int32))]))
          refine Go.st (fun t' k' => XS.goto X34.here hx rfl (pc0 := 145) (pc' := 149) rfl (hb hby at_145) (by decide) (by decide) k') ?_
          show Go p e below _ (T34.setTop (mkF m 149 #[.val (.int i), .val (.int j), .val (.ref b1), .val (.int (i &&& (3 : Int32))), .val (.int (j &&& (3 : Int32))), .val (.ref (own_at (i &&& (3 : Int32)) w_ENABLE w_DISABLE w_ALLOW w_DISALLOW)), .val (.ref (own_at (j &&& (3 : Int32)) w_ENABLE w_DISABLE w_ALLOW w_DISALLOW)), .val (.int (if (i &&& (3 : Int32)) < 2 then (1 : Int32) else 0)), .val (.int (if (j &&& (3 : Int32)) < 2 then (1 : Int32) else 0)), .val (.int (1 : Int32)), .val (.int (0 : Int32)), .unset] [(.int (1 : Int32))]))
          refine Go.st (fun t' k' => XS.istore X34.here hx rfl (hb hby at_149) rfl (l' := #[.val (.int i), .val (.int j), .val (.ref b1), .val (.int (i &&& (3 : Int32))), .val (.int (j &&& (3 : Int32))), .val (.ref (own_at (i &&& (3 : Int32)) w_ENABLE w_DISABLE w_ALLOW w_DISALLOW)), .val (.ref (own_at (j &&& (3 : Int32)) w_ENABLE w_DISABLE w_ALLOW w_DISALLOW)), .val (.int (if (i &&& (3 : Int32)) < 2 then (1 : Int32) else 0)), .val (.int (if (j &&& (3 : Int32)) < 2 then (1 : Int32) else 0)), .val (.int (1 : Int32)), .val (.int (0 : Int32)), .val (.int (1 : Int32))]) rfl k') ?_
          show Go p e below _ (T34.setTop (mkF m 151 #[.val (.int i), .val (.int j), .val (.ref b1), .val (.int (i &&& (3 : Int32))), .val (.int (j &&& (3 : Int32))), .val (.ref (own_at (i &&& (3 : Int32)) w_ENABLE w_DISABLE w_ALLOW w_DISALLOW)), .val (.ref (own_at (j &&& (3 : Int32)) w_ENABLE w_DISABLE w_ALLOW w_DISALLOW)), .val (.int (if (i &&& (3 : Int32)) < 2 then (1 : Int32) else 0)), .val (.int (if (j &&& (3 : Int32)) < 2 then (1 : Int32) else 0)), .val (.int (1 : Int32)), .val (.int (0 : Int32)), .val (.int (1 : Int32))] []))
          refine Go.st (fun t' k' => XS.iload X34.here hx rfl (hb hby at_151) rfl k') ?_
          show Go p e below _ (T34.setTop (mkF m 153 #[.val (.int i), .val (.int j), .val (.ref b1), .val (.int (i &&& (3 : Int32))), .val (.int (j &&& (3 : Int32))), .val (.ref (own_at (i &&& (3 : Int32)) w_ENABLE w_DISABLE w_ALLOW w_DISALLOW)), .val (.ref (own_at (j &&& (3 : Int32)) w_ENABLE w_DISABLE w_ALLOW w_DISALLOW)), .val (.int (if (i &&& (3 : Int32)) < 2 then (1 : Int32) else 0)), .val (.int (if (j &&& (3 : Int32)) < 2 then (1 : Int32) else 0)), .val (.int (1 : Int32)), .val (.int (0 : Int32)), .val (.int (1 : Int32))] [(.int (1 : Int32))]))
          refine Go.st (fun t' k' => XS.ifNo X34.here hx rfl (hb hby at_153) rfl ((if0 _ _).trans (feq (by decide : ¬ ((1 : Int32) = (0 : Int32)))).1) k') ?_
          show Go p e below _ (T34.setTop (mkF m 156 #[.val (.int i), .val (.int j), .val (.ref b1), .val (.int (i &&& (3 : Int32))), .val (.int (j &&& (3 : Int32))), .val (.ref (own_at (i &&& (3 : Int32)) w_ENABLE w_DISABLE w_ALLOW w_DISALLOW)), .val (.ref (own_at (j &&& (3 : Int32)) w_ENABLE w_DISABLE w_ALLOW w_DISALLOW)), .val (.int (if (i &&& (3 : Int32)) < 2 then (1 : Int32) else 0)), .val (.int (if (j &&& (3 : Int32)) < 2 then (1 : Int32) else 0)), .val (.int (1 : Int32)), .val (.int (0 : Int32)), .val (.int (1 : Int32))] []))
          refine Go.st (fun t' k' => XS.iload X34.here hx rfl (hb hby at_156) rfl k') ?_
          show Go p e below _ (T34.setTop (mkF m 158 #[.val (.int i), .val (.int j), .val (.ref b1), .val (.int (i &&& (3 : Int32))), .val (.int (j &&& (3 : Int32))), .val (.ref (own_at (i &&& (3 : Int32)) w_ENABLE w_DISABLE w_ALLOW w_DISALLOW)), .val (.ref (own_at (j &&& (3 : Int32)) w_ENABLE w_DISABLE w_ALLOW w_DISALLOW)), .val (.int (if (i &&& (3 : Int32)) < 2 then (1 : Int32) else 0)), .val (.int (if (j &&& (3 : Int32)) < 2 then (1 : Int32) else 0)), .val (.int (1 : Int32)), .val (.int (0 : Int32)), .val (.int (1 : Int32))] [(.int (1 : Int32))]))
          refine Go.st (fun t' k' => XS.ifNo X34.here hx rfl (hb hby at_158) rfl ((if0 _ _).trans (feq (by decide : ¬ ((1 : Int32) = (0 : Int32)))).1) k') ?_
          show Go p e below _ (T34.setTop (mkF m 161 #[.val (.int i), .val (.int j), .val (.ref b1), .val (.int (i &&& (3 : Int32))), .val (.int (j &&& (3 : Int32))), .val (.ref (own_at (i &&& (3 : Int32)) w_ENABLE w_DISABLE w_ALLOW w_DISALLOW)), .val (.ref (own_at (j &&& (3 : Int32)) w_ENABLE w_DISABLE w_ALLOW w_DISALLOW)), .val (.int (if (i &&& (3 : Int32)) < 2 then (1 : Int32) else 0)), .val (.int (if (j &&& (3 : Int32)) < 2 then (1 : Int32) else 0)), .val (.int (1 : Int32)), .val (.int (0 : Int32)), .val (.int (1 : Int32))] []))
          refine Go.st (fun t' k' => XS.iconst X34.here hx rfl (hb hby at_161) k') ?_
          show Go p e below _ (T34.setTop (mkF m 162 #[.val (.int i), .val (.int j), .val (.ref b1), .val (.int (i &&& (3 : Int32))), .val (.int (j &&& (3 : Int32))), .val (.ref (own_at (i &&& (3 : Int32)) w_ENABLE w_DISABLE w_ALLOW w_DISALLOW)), .val (.ref (own_at (j &&& (3 : Int32)) w_ENABLE w_DISABLE w_ALLOW w_DISALLOW)), .val (.int (if (i &&& (3 : Int32)) < 2 then (1 : Int32) else 0)), .val (.int (if (j &&& (3 : Int32)) < 2 then (1 : Int32) else 0)), .val (.int (1 : Int32)), .val (.int (0 : Int32)), .val (.int (1 : Int32))] [(.int (1 : Int32))]))
          refine Go.st (fun t' k' => XS.goto X34.here hx rfl (pc0 := 162) (pc' := 166) rfl (hb hby at_162) (by decide) (by decide) k') ?_
          show Go p e below _ (T34.setTop (mkF m 166 #[.val (.int i), .val (.int j), .val (.ref b1), .val (.int (i &&& (3 : Int32))), .val (.int (j &&& (3 : Int32))), .val (.ref (own_at (i &&& (3 : Int32)) w_ENABLE w_DISABLE w_ALLOW w_DISALLOW)), .val (.ref (own_at (j &&& (3 : Int32)) w_ENABLE w_DISABLE w_ALLOW w_DISALLOW)), .val (.int (if (i &&& (3 : Int32)) < 2 then (1 : Int32) else 0)), .val (.int (if (j &&& (3 : Int32)) < 2 then (1 : Int32) else 0)), .val (.int (1 : Int32)), .val (.int (0 : Int32)), .val (.int (1 : Int32))] [(.int (1 : Int32))]))
          exact Go.outN X34 hx hlk (t := .boolean) hret (by simp) (hb hby at_166) (Q := Q_rm0 Z i j w_ENABLE w_DISABLE w_ALLOW w_DISALLOW h0) (by rw [e34]; exact ⟨rfl, N34⟩) (by decide) (by decide)
set_option maxRecDepth 65536 in
set_option maxHeartbeats 40000000 in
theorem comes_1 {Post : Tables → Env → Array Value → State → Outcome → State → Prop} (hpost : ∀ tb e args s v u, (limb_1_1.after args s (.returned v) u = true ∧ limb_1_2.after args s (.returned v) u = true ∧ True) → FrameEnd s (.returned v) u (Jvm.fieldLocs frame_1_writes args s ++ Jvm.arrayLocs frame_1_arrays args s ++ Jvm.staticLocs frame_1_statics s) 16 128 → Post tb e args s (.returned v) u) :
    ArmFor flags0 classFile x code maxLocals ret World_1 tables_1 room_1 Calls_1 rest_1 Pre_1 Post := by
  intro l hfl _ _ p e ha hc hk s m args below hf hA hF happ hP
  obtain ⟨hcalls, hrest, hpre⟩ := hP
  obtain ⟨-, -, -, hnamed, -, -, -, hat⟩ := (Spec.applies_iff hf).mp happ
  obtain ⟨hg, hn⟩ := and_e (Cond.before_iff.mp (show (Jvm.Cond.and given_1 narrow_1).before args s = true from hpre))
  obtain ⟨c1, c2⟩ := and_e hg
  obtain ⟨c3, c4⟩ := and_e c2
  obtain ⟨w0, w1, rfl⟩ : ∃ w0 w1 : Value, args = #[w0, w1] := by
    have hs : args.size = 2 := by simpa [Cond.value, given_1] using c1
    obtain ⟨L⟩ := args
    match L, hs with
    | [w0, w1], _ => exact ⟨w0, w1, rfl⟩
  have hw := fun d (hd : d ∈ tables_1) => atoms_spec (ws := Jvm.Cond.code x code maxLocals ret :: tables_1) hat d (List.mem_cons_of_mem _ hd)
  have hfit : Fit s := fun {y c} hc i hi => by
    obtain ⟨ha, rfl⟩ := Array.getElem?_eq_some_iff.mp hc
    have q := List.all_eq_true.mp ((Array.all_eq_true_iff_forall_mem.mp hF) _ (Array.getElem_mem ha)) i (List.mem_range.mpr hi)
    simpa [Array.getElem?_eq_getElem hi] using q
  obtain ⟨i0, ei0⟩ := is_v c3
  obtain rfl : w0 = (.int i0) := Option.some.inj ei0
  obtain ⟨i1, ei1⟩ := is_v c4
  obtain rfl : w1 = (.int i1) := Option.some.inj ei1
  obtain ⟨c5, c6⟩ := and_e hn
  obtain ⟨c7, c8⟩ := and_e c6
  obtain ⟨c9, c10⟩ := and_e c8
  obtain ⟨c11, c12⟩ := and_e c10
  obtain ⟨c13, c14⟩ := and_e c12
  obtain ⟨c15, c16⟩ := and_e c14
  obtain ⟨c17, c18⟩ := and_e c16
  obtain ⟨w_ENABLE, ev_ENABLE⟩ := exa_v c5
  have S_ENABLE := Sta.start ev_ENABLE (Or.inr ⟨(hw _ (List.mem_of_getElem? (i := 3) rfl)), (hw _ (List.mem_of_getElem? (i := 4) rfl))⟩)
  have E_ENABLE := Exa.start ev_ENABLE c5
  obtain ⟨w_DISABLE, ev_DISABLE⟩ := exa_v c7
  have S_DISABLE := Sta.start ev_DISABLE (Or.inr ⟨(hw _ (List.mem_of_getElem? (i := 3) rfl)), (hw _ (List.mem_of_getElem? (i := 7) rfl))⟩)
  have E_DISABLE := Exa.start ev_DISABLE c7
  obtain ⟨w_ALLOW, ev_ALLOW⟩ := exa_v c9
  have S_ALLOW := Sta.start ev_ALLOW (Or.inr ⟨(hw _ (List.mem_of_getElem? (i := 3) rfl)), (hw _ (List.mem_of_getElem? (i := 9) rfl))⟩)
  have E_ALLOW := Exa.start ev_ALLOW c9
  obtain ⟨w_DISALLOW, ev_DISALLOW⟩ := exa_v c11
  have S_DISALLOW := Sta.start ev_DISALLOW (Or.inr ⟨(hw _ (List.mem_of_getElem? (i := 3) rfl)), (hw _ (List.mem_of_getElem? (i := 11) rfl))⟩)
  have E_DISALLOW := Exa.start ev_DISALLOW c11
  have F_DISALLOW_ordinal := own_fld ev_DISALLOW c13
  have F_ENABLE_ordinal := own_fld ev_ENABLE c15
  have F_DISABLE_ordinal := own_fld ev_DISABLE c17
  have F_ALLOW_ordinal := own_fld ev_ALLOW c18
  obtain ⟨n, o, h1, h2, h3, _, L, rfl, ⟨rfl, N⟩, hq⟩ := rm0 l s _ hw tables_1 i0 i1 w_ENABLE w_DISABLE w_ALLOW w_DISALLOW s.heap (own_ext_refl _) S_ENABLE S_DISABLE S_ALLOW S_DISALLOW E_ENABLE E_DISABLE E_ALLOW E_DISALLOW F_ENABLE_ordinal F_DISABLE_ordinal F_ALLOW_ordinal F_DISALLOW_ordinal p e ha hc hk s m _ below hf ((Spec.applies_iff_loose hf).mp happ).1 ⟨rfl, State.Warmed39.refl s, rfl⟩ trivial
  refine ⟨n, _, h1, h2, h3, hpost _ _ _ _ _ _ ⟨Cond.after_iff.mpr rfl, Cond.after_iff.mpr (eq_i res_at (Term.int_eval (1)) rfl), trivial⟩ ⟨hq.1, hq.2.1, (hq.2.2.sift fun y hy => Or.inr (N y hy)).mono (by decide) (by decide)⟩⟩
theorem main_1_1 : Claimed_1_1 := comes_1 fun _ _ _ _ _ _ h hF => ⟨h.1, hF⟩
theorem main_1_2 : Claimed_1_2 := comes_1 fun _ _ _ _ _ _ h hF => ⟨h.2.1, hF⟩
end Jvm.Pilot.@@N@@
namespace Jvm.Pilot.@@N@@
open Jvm Jvm.ClassFile Sem Op Lib Jvm.Free Jvm.Stand Jvm.Pilot.@@N@@.Jvm.D
/-! MADE BY PROGRAM (witnessworld.py) out of the Statement's table words and the real class files: 13 classes; the members and pool entries that the words name. The judged class is class 1, her method 1. -/
namespace start1
open Jvm.ClassFile
def u (s : String) : CpInfo := .utf8 (stringToUtf16 s)
/-- a pool by its gaps: so many unusable entries, then the entry; so many at the end -/
def gap : Nat → List CpInfo → List CpInfo
  | 0, r => r
  | n + 1, r => .unusable :: gap n r
def poolList (es : List (Nat × CpInfo)) (last : Nat) : List CpInfo := es.foldr (fun e r => gap e.1 (e.2 :: r)) (gap last [])
def pool (es : List (Nat × CpInfo)) (last : Nat) : Array CpInfo := ⟨poolList es last⟩
def fileOf (pool : Array CpInfo) (this : Nat) (attrs : Array Attribute := #[]) (ms : Array MethodInfo := #[]) (fl : Nat := 33) (sup : Nat := 0) (ifs : Array Nat := #[]) (fds : Array FieldInfo := #[]) : ClassFile where
  minorVersion := 0
  majorVersion := 65
  constantPool := pool
  accessFlags := fl
  thisClass := this
  superClass := sup
  interfaces := ifs
  fields := fds
  methods := ms
  attributes := attrs
def plain (name : String) (sup : Option ClassId) : Class where
  name := name
  kind := .ordinary
  loader := none
  accessFlags := 33
  super := sup
  interfaces := #[]
  cf := none
  fields := #[]
  methods := #[]
  instanceTypes := #[]
  staticTypes := #[]
  resolved := #[]
  callSites := []
  init := .initialized
  statics := none
  mirror := none

def pool0 : Array CpInfo := pool [(5, u "<init>"), (0, u "()V"), (1, .class_ 10), (1, u "java/lang/Object")] 113

def k0m0 : Method := { name := "<init>", desc := "()V", sig := { parameters := [], returnType := none }, accessFlags := 1, code := none }
/-- java/lang/Object -/
def k0 : Class := { plain "java/lang/Object" none with
  accessFlags := 33
  interfaces := #[]
  cf := some (fileOf pool0 8 #[] #[{ accessFlags := 1, nameIndex := 5, descriptorIndex := 6, attributes := #[] }] 33 0 #[] #[])
  fields := #[]
  methods := #[k0m0]
  instanceTypes := #[]
  staticTypes := #[]
  resolved := Array.replicate 124 none
  statics := none }

def pool1 : Array CpInfo := pool [(2, .class_ 4), (1, u "java/lang/Object"), (0, u "<init>"), (0, u "()V"), (0, .class_ 8), (0, u "com/example/callweave/callweave/model/Rules$Effect"), (0, .fieldref 7 10), (0, .nameAndType 11 12), (0, u "ENABLE"), (0, u "Lcom/example/callweave/callweave/model/Rules$Effect;"), (0, .fieldref 7 14), (0, .nameAndType 15 12), (0, u "DISABLE"), (0, .fieldref 7 17), (0, .nameAndType 18 12), (0, u "ALLOW"), (0, .fieldref 7 20), (0, .nameAndType 21 12), (0, u "DISALLOW"), (0, .methodref 7 23), (0, .nameAndType 24 25), (0, u "onCallbacks"), (0, u "()Z"), (0, .methodref 7 27), (0, .nameAndType 28 25), (0, u "permits"), (0, .class_ 30), (0, u "com/example/callweave/callweave/model/EffectOnCallbacksPinLaw"), (2, u "law"), (0, u "(II)Z")] 9

def k1m0 : Method := { name := "<init>", desc := "()V", sig := { parameters := [], returnType := none }, accessFlags := 1, code := none }
def k1c1 : Code := { maxStack := 4, maxLocals := 12, code := code, exceptionTable := #[], attributes := #[] }
def k1m1 : Method := { name := "law", desc := "(II)Z", sig := { parameters := [.int, .int], returnType := some .boolean }, accessFlags := 9, code := some k1c1 }
/-- com/example/callweave/callweave/model/EffectOnCallbacksPinLaw -/
def k1 : Class := { plain "com/example/callweave/callweave/model/EffectOnCallbacksPinLaw" (some 0) with
  accessFlags := 49
  interfaces := #[]
  cf := some (fileOf pool1 29 #[] #[{ accessFlags := 1, nameIndex := 5, descriptorIndex := 6, attributes := #[] }, { accessFlags := 9, nameIndex := 33, descriptorIndex := 34, attributes := #[] }] 49 2 #[] #[])
  fields := #[]
  methods := #[k1m0, k1m1]
  instanceTypes := #[]
  staticTypes := #[]
  resolved := Array.replicate 44 none
  statics := none }

def pool2 : Array CpInfo := pool [(1, .class_ 2), (0, u "java/lang/constant/Constable"), (0, .class_ 4), (0, u "java/lang/Object")] 6

/-- java/lang/constant/Constable -/
def k2 : Class := { plain "java/lang/constant/Constable" (some 0) with
  accessFlags := 1537
  interfaces := #[]
  cf := some (fileOf pool2 1 #[] #[] 1537 3 #[] #[])
  fields := #[]
  methods := #[]
  instanceTypes := #[]
  staticTypes := #[]
  resolved := Array.replicate 11 none
  statics := none }

def pool3 : Array CpInfo := pool [(1, .class_ 2), (0, u "java/lang/Comparable"), (0, .class_ 4), (0, u "java/lang/Object")] 7

/-- java/lang/Comparable -/
def k3 : Class := { plain "java/lang/Comparable" (some 0) with
  accessFlags := 1537
  interfaces := #[]
  cf := some (fileOf pool3 1 #[] #[] 1537 3 #[] #[])
  fields := #[]
  methods := #[]
  instanceTypes := #[]
  staticTypes := #[]
  resolved := Array.replicate 12 none
  statics := none }

def pool4 : Array CpInfo := pool [(1, .class_ 2), (0, u "java/io/Serializable"), (0, .class_ 4), (0, u "java/lang/Object")] 2

/-- java/io/Serializable -/
def k4 : Class := { plain "java/io/Serializable" (some 0) with
  accessFlags := 1537
  interfaces := #[]
  cf := some (fileOf pool4 1 #[] #[] 1537 3 #[] #[])
  fields := #[]
  methods := #[]
  instanceTypes := #[]
  staticTypes := #[]
  resolved := Array.replicate 7 none
  statics := none }

def pool5 : Array CpInfo := pool [(2, .class_ 4), (1, u "java/lang/Enum"), (0, u "name"), (0, u "Ljava/lang/String;"), (2, u "ordinal"), (0, u "I"), (1, .class_ 14), (1, u "java/lang/Object"), (4, u "hash"), (86, .class_ 108), (1, u "java/lang/Enum$EnumDesc"), (2, .class_ 112), (0, u "java/lang/constant/Constable"), (0, .class_ 114), (0, u "java/lang/Comparable"), (0, .class_ 116), (0, u "java/io/Serializable")] 87

/-- java/lang/Enum -/
def k5 : Class := { plain "java/lang/Enum" (some 0) with
  accessFlags := 1057
  interfaces := #[2, 3, 4]
  cf := some (fileOf pool5 2 #[.nestMembers #[106]] #[] 1057 12 #[111, 113, 115] #[{ accessFlags := 18, nameIndex := 5, descriptorIndex := 6, attributes := #[] }, { accessFlags := 18, nameIndex := 9, descriptorIndex := 10, attributes := #[] }, { accessFlags := 2, nameIndex := 19, descriptorIndex := 10, attributes := #[] }])
  fields := #[{ name := "name", type := (.object "java/lang/String"), accessFlags := 18, slot := 0, constantValue := 0 }, { name := "ordinal", type := .int, accessFlags := 18, slot := 1, constantValue := 0 }, { name := "hash", type := .int, accessFlags := 2, slot := 2, constantValue := 0 }]
  methods := #[]
  instanceTypes := #[(.object "java/lang/String"), .int, .int]
  staticTypes := #[]
  resolved := Array.replicate 204 none
  statics := none }

def pool6 : Array CpInfo := pool [(1, .class_ 2), (0, u "com/example/callweave/callweave/model/Rules$Effect"), (0, .fieldref 1 4), (0, .nameAndType 5 6), (0, u "ENABLE"), (0, u "Lcom/example/callweave/callweave/model/Rules$Effect;"), (0, .fieldref 1 8), (0, .nameAndType 9 6), (0, u "DISABLE"), (0, .fieldref 1 11), (0, .nameAndType 12 6), (0, u "ALLOW"), (2, u "DISALLOW"), (2, u "$VALUES"), (0, u "[Lcom/example/callweave/callweave/model/Rules$Effect;"), (6, .class_ 28), (1, u "java/lang/Enum"), (38, u "onCallbacks"), (0, u "()Z"), (1, u "permits"), (6, .class_ 78), (0, u "com/example/callweave/callweave/model/Rules")] 2

def k6c0 : Code := { maxStack := 2, maxLocals := 1, code := prog_126_method_4_code, exceptionTable := #[], attributes := #[] }
def k6m0 : Method := { name := "onCallbacks", desc := "()Z", sig := { parameters := [], returnType := some .boolean }, accessFlags := 1, code := some k6c0 }
def k6c1 : Code := { maxStack := 2, maxLocals := 1, code := prog_126_method_5_code, exceptionTable := #[], attributes := #[] }
def k6m1 : Method := { name := "permits", desc := "()Z", sig := { parameters := [], returnType := some .boolean }, accessFlags := 1, code := some k6c1 }
/-- com/example/callweave/callweave/model/Rules$Effect -/
def k6 : Class := { plain "com/example/callweave/callweave/model/Rules$Effect" (some 5) with
  accessFlags := 16433
  interfaces := #[]
  cf := some (fileOf pool6 1 #[.nestHost 77] #[{ accessFlags := 1, nameIndex := 67, descriptorIndex := 68, attributes := #[] }, { accessFlags := 1, nameIndex := 70, descriptorIndex := 68, attributes := #[] }] 16433 26 #[] #[{ accessFlags := 16409, nameIndex := 5, descriptorIndex := 6, attributes := #[] }, { accessFlags := 16409, nameIndex := 9, descriptorIndex := 6, attributes := #[] }, { accessFlags := 16409, nameIndex := 12, descriptorIndex := 6, attributes := #[] }, { accessFlags := 16409, nameIndex := 15, descriptorIndex := 6, attributes := #[] }, { accessFlags := 4122, nameIndex := 18, descriptorIndex := 19, attributes := #[] }])
  fields := #[{ name := "ENABLE", type := (.object "com/example/callweave/callweave/model/Rules$Effect"), accessFlags := 16409, slot := 0, constantValue := 0 }, { name := "DISABLE", type := (.object "com/example/callweave/callweave/model/Rules$Effect"), accessFlags := 16409, slot := 1, constantValue := 0 }, { name := "ALLOW", type := (.object "com/example/callweave/callweave/model/Rules$Effect"), accessFlags := 16409, slot := 2, constantValue := 0 }, { name := "DISALLOW", type := (.object "com/example/callweave/callweave/model/Rules$Effect"), accessFlags := 16409, slot := 3, constantValue := 0 }, { name := "$VALUES", type := (.array (.object "com/example/callweave/callweave/model/Rules$Effect")), accessFlags := 4122, slot := 4, constantValue := 0 }]
  methods := #[k6m0, k6m1]
  instanceTypes := #[(.object "java/lang/String"), .int, .int]
  staticTypes := #[(.object "com/example/callweave/callweave/model/Rules$Effect"), (.object "com/example/callweave/callweave/model/Rules$Effect"), (.object "com/example/callweave/callweave/model/Rules$Effect"), (.object "com/example/callweave/callweave/model/Rules$Effect"), (.array (.object "com/example/callweave/callweave/model/Rules$Effect"))]
  resolved := Array.replicate 81 none
  statics := some 0 }

def pool7 : Array CpInfo := pool [(1, u "java/lang/Cloneable"), (0, .class_ 1), (0, u "java/lang/Object"), (0, .class_ 3)] 3

/-- java/lang/Cloneable -/
def k7 : Class := { plain "java/lang/Cloneable" (some 0) with
  accessFlags := 1537
  interfaces := #[]
  cf := some (fileOf pool7 2 #[] #[] 1537 4 #[] #[])
  fields := #[]
  methods := #[]
  instanceTypes := #[]
  staticTypes := #[]
  resolved := Array.replicate 8 none
  statics := none }

/-- the primitive byte -/
def k8 : Class := { plain "byte" none with kind := .primitive 'B', accessFlags := 0x411 }
/-- [B -/
def k9 : Class := { plain "[B" (some 0) with kind := .array 8 .byte, interfaces := #[7, 4], accessFlags := 1041 }

/-- the primitive int -/
def k10 : Class := { plain "int" none with kind := .primitive 'I', accessFlags := 0x411 }
/-- [I -/
def k11 : Class := { plain "[I" (some 0) with kind := .array 10 .int, interfaces := #[7, 4], accessFlags := 1041 }

/-- [Lcom/example/callweave/callweave/model/Rules$Effect; -/
def k12 : Class := { plain "[Lcom/example/callweave/callweave/model/Rules$Effect;" (some 0) with kind := .array 6 (.object "com/example/callweave/callweave/model/Rules$Effect"), interfaces := #[7, 4], accessFlags := 1041 }

def heap : Heap := #[{ cls := 6, slots := #[.ref 1, .ref 2, .ref 3, .ref 4, .null], vm := .statics 6 },
  { cls := 6, slots := #[.null, .int 0, .int 0], vm := .none },
  { cls := 6, slots := #[.null, .int 1, .int 0], vm := .none },
  { cls := 6, slots := #[.null, .int 2, .int 0], vm := .none },
  { cls := 6, slots := #[.null, .int 3, .int 0], vm := .none }]
def classes : Array Class := #[k0, k1, k2, k3, k4, k5, k6, k7, k8, k9, k10, k11, k12]
def interned : List (Array UInt16 × Addr) := []
def slotsUsed : Nat := 17
def theMethod : MethodId := ⟨1, 1⟩
def args0 : Array Value := #[.int 5, .int 6]
def aboutOver (below : List Frame) : State where
  vm := { classes := classes, interned := interned.toArray }
  heap := heap
  slotsUsed := slotsUsed
  threads := #[{ frames := .invoking theMethod args0 :: below }]
def below0 : List Frame := [.native { method := ⟨0, 0⟩, args := #[] }]
def about1 : State := aboutOver below0
def p0 : Program := .bare "" "" ""
def e0 : Env := launch0.env 0 0 0
theorem w_frames : about1.frames = Frame.invoking theMethod args0 :: below0 := rfl
set_option maxRecDepth 65536 in
theorem w_args : argsFit about1.vm theMethod args0 = true := by decide +kernel
set_option maxRecDepth 65536 in
theorem w_heap : heapFits about1 = true := by decide +kernel
set_option maxRecDepth 65536 in
theorem w_runnable : about1.curStatus? = some .runnable := by decide +kernel
set_option maxRecDepth 65536 in
theorem w_alone : about1.alone = true := by decide +kernel
set_option maxRecDepth 65536 in
theorem w_named : about1.methodNamed? x = some theMethod := by decide +kernel
set_option maxRecDepth 65536 in
theorem w_hears : about1.hears theMethod below0 = true := by decide +kernel
set_option maxRecDepth 65536 in
theorem w_ripe : about1.ripe theMethod args0 below0 = true := by decide +kernel
theorem w_running : about1.status = .running := rfl
set_option maxRecDepth 65536 in
theorem w_room : about1.hasRoom e0.platform room_1 = true :=
  launch0.hasRoom_least _ room_1 (by decide +kernel) (by decide +kernel) (by decide +kernel) (by decide +kernel) (by decide +kernel) (by decide +kernel)
theorem allAtoms_all (ts : List Jvm.Cond) (a : Array Jvm.Value) (st : Jvm.State) : (allAtoms ts).before a st = ts.all (fun c => c.before a st) := by
  induction ts with
  | nil => rfl
  | cons c t ih =>
    show (Jvm.Cond.and c (allAtoms t)).before a st = _
    rw [Jvm.Cond.before_and, ih, List.all_cons]
def words1 : List Jvm.Cond := Jvm.Cond.code x code maxLocals ret :: tables_1
/-- a 'code' word, met by the world's own term for the bytes: nothing is compared byte by byte -/
theorem code_word {y : MethodName} {bytes : ByteArray} {mx : Nat} {rt : Option FieldType} {a : Array Value} {s : State} {m : MethodId} {meth : Method} {c : Code} (h1 : s.methodNamed? y = some m) (h2 : s.vm.method? m = some meth) (h3 : meth.code = some c) (h4 : c.code = bytes)
    (h5 : (c.maxLocals == mx && c.exceptionTable.isEmpty && decide (c.maxStack ≤ mostOperands) && decide (meth.sig.returnType = rt) && !meth.locks && decide (parseMethodDescriptor y.desc = some meth.sig)) = true) : (Jvm.Cond.code y bytes mx rt).before a s = true := by
  simp only [Bool.and_eq_true, beq_iff_eq, Bool.not_eq_true', decide_eq_true_eq] at h5
  obtain ⟨⟨⟨⟨⟨g1, g2⟩, g3⟩, g4⟩, g5⟩, g6⟩ := h5
  simp [Cond.before, Cond.holds, Cond.value, h1, h2, h3, h4, g1, g2, g3, g4, g5, g6]
def isCode : Jvm.Cond → Bool
  | .code _ _ _ _ => true
  | _ => false
theorem all_split {L : List Jvm.Cond} {P : Jvm.Cond → Bool} (h1 : L.all (fun c => isCode c || P c) = true) (h2 : ∀ c ∈ L.filter isCode, P c = true) : L.all P = true := by
  refine List.all_eq_true.mpr fun c hc => ?_
  have h := List.all_eq_true.mp h1 c hc
  rcases Bool.eq_false_or_eq_true (isCode c) with hi | hi
  · exact h2 c (List.mem_filter.mpr ⟨hc, hi⟩)
  · simpa [hi] using h
set_option maxRecDepth 65536 in
theorem w_c0 : (Jvm.Cond.code x code maxLocals ret).before args0 about1 = true := code_word (m := ⟨1, 1⟩) (meth := k1m1) (c := k1c1) (by decide +kernel) rfl rfl rfl (by decide +kernel)
set_option maxRecDepth 65536 in
theorem w_c1 : (Jvm.Cond.code ({ cls := "com/example/callweave/callweave/model/Rules$Effect", name := "onCallbacks", desc := "()Z" } : Jvm.MethodName) prog_126_method_4_code (1 : Nat) (Option.some Jvm.ClassFile.FieldType.boolean)).before args0 about1 = true := code_word (m := ⟨6, 0⟩) (meth := k6m0) (c := k6c0) (by decide +kernel) rfl rfl rfl (by decide +kernel)
set_option maxRecDepth 65536 in
theorem w_c2 : (Jvm.Cond.code ({ cls := "com/example/callweave/callweave/model/Rules$Effect", name := "permits", desc := "()Z" } : Jvm.MethodName) prog_126_method_5_code (1 : Nat) (Option.some Jvm.ClassFile.FieldType.boolean)).before args0 about1 = true := code_word (m := ⟨6, 1⟩) (meth := k6m1) (c := k6c1) (by decide +kernel) rfl rfl rfl (by decide +kernel)
def codes1 : List Jvm.Cond := [Jvm.Cond.code x code maxLocals ret, Jvm.Cond.code ({ cls := "com/example/callweave/callweave/model/Rules$Effect", name := "onCallbacks", desc := "()Z" } : Jvm.MethodName) prog_126_method_4_code (1 : Nat) (Option.some Jvm.ClassFile.FieldType.boolean), Jvm.Cond.code ({ cls := "com/example/callweave/callweave/model/Rules$Effect", name := "permits", desc := "()Z" } : Jvm.MethodName) prog_126_method_5_code (1 : Nat) (Option.some Jvm.ClassFile.FieldType.boolean)]
set_option maxRecDepth 65536 in
theorem codes_eq : words1.filter isCode = codes1 := rfl
theorem w_codes : ∀ c ∈ words1.filter isCode, c.before args0 about1 = true := by
  rw [codes_eq]
  intro c hc
  simp only [codes1, List.mem_cons, List.not_mem_nil, or_false] at hc
  rcases hc with rfl | rfl | rfl
  · exact w_c0
  · exact w_c1
  · exact w_c2
set_option maxRecDepth 65536 in
theorem w_t1 : (words1.take 24).all (fun c => isCode c || c.before args0 about1) = true := by decide +kernel
set_option maxRecDepth 65536 in
theorem w_t2 : (words1.drop 24).all (fun c => isCode c || c.before args0 about1) = true := by decide +kernel
theorem w_tables : (allAtoms (Jvm.Cond.code x code maxLocals ret :: tables_1)).before args0 about1 = true := by
  rw [allAtoms_all]
  show words1.all (fun c => c.before args0 about1) = true
  refine all_split ?_ w_codes
  rw [← List.take_append_drop 24 words1, List.all_append, w_t1, w_t2]
  rfl
set_option maxRecDepth 65536 in
theorem w_case : (Jvm.Cond.and given_1 narrow_1).before args0 about1 = true := by decide +kernel
theorem w_applies : (headSpec (Jvm.Cond.code x code maxLocals ret :: tables_1) room_1).applies x e0.platform about1 = true :=
  (Spec.applies_iff w_frames).mpr ⟨w_running, w_runnable, w_alone, w_named, w_hears, w_ripe, w_room, w_tables⟩
theorem atStart : AtStart classFile x code maxLocals ret World_1 tables_1 room_1 Calls_1 rest_1 Pre_1 launch0 p0 e0 about1 theMethod args0 below0 :=
  ⟨lists_1, trivial, launch0.admits_env _ _ _, launch0.least_env, fairChoices_fair.cas, fairChoices_fair.clock, w_frames, w_args, w_heap, w_applies, trivial, trivial, w_case⟩
end start1
theorem witness_1 : WitnessClaimed_1 := ⟨start1.p0, start1.e0, start1.about1, start1.theMethod, start1.args0, start1.below0, start1.atStart⟩
end Jvm.Pilot.@@N@@
