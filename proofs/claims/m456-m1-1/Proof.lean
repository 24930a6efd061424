import JvmDerived
import JvmDerived.Pilot.@@N@@Statement
import JvmDerived.Pilot.@@N@@Code
set_option linter.unusedVariables false
set_option linter.unusedSimpArgs false
namespace Jvm.Own
open Sem ClassFile Op Lib Jvm.Stand Jvm.Free Jvm.LawKit Jvm.RoadKit
section Own
variable {p : Program} {l : Launch} {e : Env} {R : Room} {s : State} {m : MethodId} {args : Array Value} {below : List Frame} {meth : Method} {c : Code} {T S S' : State} {locs : List Loc} {cells slots : Nat} {G : Outcome → State → Prop} {Q : Option Value → Heap → List Loc → Prop} {C K : Nat}
/-- from S the run comes to an end of which G holds -/
def Go (p : Program) (e : Env) (below : List Frame) (G : Outcome → State → Prop) (S : State) : Prop := ∃ t o, Steps p.tables e below S t ∧ t.status = .running ∧ Ended t below o ∧ G o t
def GO (s : State) (Q : Option Value → Heap → List Loc → Prop) (C K : Nat) (o : Outcome) (t : State) : Prop := ∃ v L, o = .returned v ∧ Q v t.heap L ∧ FrameEnd s o t L C K
theorem Go.st (k : ∀ t, Steps p.tables e below S' t → Steps p.tables e below S t) (h : Go p e below G S') : Go p e below G S := by
  obtain ⟨t, o, h1, h2⟩ := h
  exact ⟨t, o, k t h1, h2⟩
theorem Go.tr (k : Steps p.tables e below S S') (h : Go p e below G S') : Go p e below G S := by
  obtain ⟨t, o, h1, h2⟩ := h
  exact ⟨t, o, k.trans h1, h2⟩
theorem Go.outN (X : Stand p l e R s m args below meth c T locs cells slots) (hx : p.tables.exec = Jvm.exec) (hlk : meth.locks = false) {pc : Nat} {Ls : Array Slot} {z : Int32} {t : FieldType} {rest : List Value} (hret : meth.sig.returnType = some t) (ht : t = .boolean ∨ t = .byte ∨ t = .char ∨ t = .short)
    (hd : decode c.code pc = .ok (.ireturn, 1)) (hQ : Q (some (.int (nar t z))) T.heap locs) (hC : cells ≤ C) (hK : slots ≤ K) : Go p e below (GO s Q C K) (T.setTop (mkF m pc Ls (.int z :: rest))) := by
  obtain ⟨fs, hr, hrun, hended, hW, hsame⟩ := X.leave (v := some (.int (nar t z))) (fun h => by rw [hret] at h; cases h) hlk
  exact ⟨_, _, retN X hx hret ht hd hr, hrun, hended, _, _, rfl, hQ, ⟨_, rfl⟩, hW, hsame.mono hC hK⟩
theorem Go.outI (X : Stand p l e R s m args below meth c T locs cells slots) (hx : p.tables.exec = Jvm.exec) (hlk : meth.locks = false) {pc : Nat} {Ls : Array Slot} {z : Int32} {rest : List Value} (hret : meth.sig.returnType = some .int)
    (hd : decode c.code pc = .ok (.ireturn, 1)) (hQ : Q (some (.int z)) T.heap locs) (hC : cells ≤ C) (hK : slots ≤ K) : Go p e below (GO s Q C K) (T.setTop (mkF m pc Ls (.int z :: rest))) := by
  obtain ⟨fs, hr, hrun, hended, hW, hsame⟩ := X.leave (v := some (.int z)) (fun h => by rw [hret] at h; cases h) hlk
  exact ⟨_, _, retOut X hx hret rfl (Or.inl ⟨rfl, Or.inl rfl, z, rfl⟩) hd hr, hrun, hended, _, _, rfl, hQ, ⟨_, rfl⟩, hW, hsame.mono hC hK⟩
theorem Go.outJ (X : Stand p l e R s m args below meth c T locs cells slots) (hx : p.tables.exec = Jvm.exec) (hlk : meth.locks = false) {pc : Nat} {Ls : Array Slot} {z : Int64} {rest : List Value} (hret : meth.sig.returnType = some .long)
    (hd : decode c.code pc = .ok (.lreturn, 1)) (hQ : Q (some (.long z)) T.heap locs) (hC : cells ≤ C) (hK : slots ≤ K) : Go p e below (GO s Q C K) (T.setTop (mkF m pc Ls (.long z :: rest))) := by
  obtain ⟨fs, hr, hrun, hended, hW, hsame⟩ := X.leave (v := some (.long z)) (fun h => by rw [hret] at h; cases h) hlk
  exact ⟨_, _, retOut X hx hret rfl (Or.inr (Or.inl ⟨rfl, rfl, z, rfl⟩)) hd hr, hrun, hended, _, _, rfl, hQ, ⟨_, rfl⟩, hW, hsame.mono hC hK⟩
theorem own_narrow_ref (t : FieldType) {w : Value} (h : w.isRef = true) : narrow t w = w := by
  rcases ref_cases h with rfl | ⟨a, rfl⟩ <;> cases t <;> rfl
theorem own_fits_ref (t : FieldType) {w : Value} (h : w.isRef = true) (ht : t.isReference = true := by rfl) : fits t w = true := by
  rcases ref_cases h with rfl | ⟨a, rfl⟩ <;> cases t <;> first | rfl | (cases ht)
theorem own_cat_ref {w : Value} (h : w.isRef = true) : w.category = 1 := by
  rcases ref_cases h with rfl | ⟨a, rfl⟩ <;> rfl
theorem Go.outR (X : Stand p l e R s m args below meth c T locs cells slots) (hx : p.tables.exec = Jvm.exec) (hlk : meth.locks = false) {pc : Nat} {Ls : Array Slot} {w : Value} {t : FieldType} {rest : List Value} (hret : meth.sig.returnType = some t) (ht : t.isReference = true) (hw : w.isRef = true)
    (hd : decode c.code pc = .ok (.areturn, 1)) (hQ : Q (some w) T.heap locs) (hC : cells ≤ C) (hK : slots ≤ K) : Go p e below (GO s Q C K) (T.setTop (mkF m pc Ls (w :: rest))) := by
  obtain ⟨fs, hr, hrun, hended, hW, hsame⟩ := X.leave (v := some w) (fun h => by rw [hret] at h; cases h) hlk
  exact ⟨_, _, retOut X hx hret (own_narrow_ref t hw) (Or.inr (Or.inr (Or.inr (Or.inr ⟨rfl, ht, hw⟩)))) hd hr, hrun, hended, _, _, rfl, hQ, ⟨_, rfl⟩, hW, hsame.mono hC hK⟩
theorem Go.outU (X : Stand p l e R s m args below meth c T locs cells slots) (hx : p.tables.exec = Jvm.exec) (hlk : meth.locks = false) {pc : Nat} {Ls : Array Slot} (hret : meth.sig.returnType = none)
    (hd : decode c.code pc = .ok (.return_, 1)) (hQ : Q none T.heap locs) (hC : cells ≤ C) (hK : slots ≤ K) : Go p e below (GO s Q C K) (T.setTop (mkF m pc Ls [])) := by
  obtain ⟨fs, hr, hrun, hended, hW, hsame⟩ := X.leave (v := none) (fun _ => rfl) hlk
  exact ⟨_, _, X.returnOut hx hret hd hr, hrun, hended, _, _, rfl, hQ, ⟨_, rfl⟩, hW, hsame.mono hC hK⟩
def GOW (s : State) (Q : Option Value → Heap → List Loc → Prop) (C K : Nat) (o : Outcome) (t : State) : Prop := ∃ v L, o = .returned v ∧ Q v t.heap L ∧ ReturnedEndW s o t L C K
theorem Go.outW {vm₁ : Vm} {n : Nat} (X : Stand p l e R (s.setVm vm₁) m args below meth c T locs cells slots) (hS : s.Since vm₁ n) (hn : n ≤ T.heap.size) {v : Option Value} (hv : meth.sig.returnType = none → v = none) (hlk : meth.locks = false)
    (st : ∀ fs, (∀ (f : JFrame) (acts : List Action), f.method = m → f.locked = none → f.entered = [] → (doReturn e (T.setTop f) acts v).1 = T.setFrames fs) → Steps p.tables e below S (T.setFrames fs)) (hQ : Q v T.heap locs) (hC : cells ≤ C) (hK : slots ≤ K) : Go p e below (GOW s Q C K) S := by
  obtain ⟨fs, hr, hrun, hended, h1, h2, h3, h4⟩ := X.leaveW hS hn (v := v) hv hlk
  exact ⟨_, _, st fs hr, hrun, hended, _, _, rfl, hQ, h1, h2, h3, h4.mono hC hK⟩
theorem own_stand_mono {cells' slots' : Nat} (X : Stand p l e R s m args below meth c T locs cells slots) (h1 : cells ≤ cells') (h2 : slots ≤ slots') : Stand p l e R s m args below meth c T locs cells' slots' :=
  ⟨X.admits, X.cas, X.clock, X.frames, X.room, X.hears, X.method, X.code, X.here, X.tail, X.warmed, X.limits, X.bytes, X.same.mono h1 h2⟩
end Own
section Facts
variable {Z : State} {h h' h0 : Heap} {a b : Addr} {sl : Nat} {v : Value} {ws : List Addr}
theorem own_ext_refl (h : Heap) : Ext h h := ⟨Nat.le_refl _, fun _ _ q => q⟩
theorem own_ext_trans (O : Ext h0 h) (E : Ext h h') : Ext h0 h' := ⟨Nat.le_trans O.1 E.1, fun x c q => E.2 x c (O.2 x c q)⟩
theorem own_ext_keep (O : Ext h0 h) (K : Keep h h' ws) (g : ∀ x ∈ ws, h0.size ≤ x) : Ext h0 h' := ⟨Nat.le_trans O.1 K.1, fun x c q => K.2.1 x c (O.2 x c q) fun z => Nat.not_lt.mpr (g x z) (Array.getElem?_eq_some_iff.mp q).1⟩
theorem own_ext_wr (O : Ext h0 h) (W : Wr h h' a sl v) (g : h0.size ≤ a) : Ext h0 h' := own_ext_keep O (Keep.of_wr W) (allS g all0)
theorem own_irr (x : Int32) : ¬ x < x := fun h => Int32.lt_irrefl h
theorem own_fld {args : Array Value} {t : Term} {C n d : String} {k : Int32} (ev : t.eval args Z none [] Z = some (.ref a)) (hq : (Cond.eq (.field t C n d) (.int k)).value args Z none Z [] = some true) : Fld Z Z.heap a C n d (.int k) := by
  obtain ⟨x, y, h1, h2, h3, h4⟩ := cmp_v (Or.inl hq)
  have e2 : y = .int k := Option.some.inj (h2.symm.trans (Term.int_eval k))
  subst e2
  obtain ⟨z, rfl⟩ := h4
  have e3 : z = k := by simpa [Cond.value, h1, h2] using hq
  subst e3
  exact Fld.start ((fld_at ev).symm.trans h1)
theorem own_fldN {args : Array Value} {t : Term} {C n d : String} (ev : t.eval args Z none [] Z = some (.ref a)) (hq : (Cond.eq (.field t C n d) .null).value args Z none Z [] = some true) : Fld Z Z.heap a C n d .null :=
  Fld.start ((fld_at ev).symm.trans (null_v hq))
theorem own_len {args : Array Value} {t : Term} {z : Int32} {cl : Cell} {ty : FieldType} (ev : t.eval args Z none [] Z = some (.ref a)) (A : Arr Z Z.heap a cl ty) (hq : (Cond.eq (.length t) (.int z)).value args Z none Z [] = some true) : cl.slots.size < 2 ^ 31 ∧ cl.slots.size.toInt32 = z := by
  obtain ⟨x, y, h1, h2, h3, h4⟩ := cmp_v (Or.inl hq)
  have e2 : y = .int z := Option.some.inj (h2.symm.trans (Term.int_eval z))
  subst e2
  have ha : Z.arrayAt? a = some cl := A.fin (Vm.Alike.refl _)
  by_cases hl : cl.slots.size < 2 ^ 31
  · have e3 := Option.some.inj ((len_f ev ha hl).symm.trans h1)
    subst e3
    refine ⟨hl, ?_⟩
    simpa [Cond.value, h1, h2] using hq
  · exfalso
    simp [Term.eval, ev, ha] at h1
    exact hl h1.1
theorem own_elem {args : Array Value} {t u : Term} {i : Int32} {cl : Cell} {ty : FieldType} (ev : t.eval args Z none [] Z = some (.ref a)) (A : Arr Z Z.heap a cl ty) (eu : u.eval args Z none [] Z = some (.ref b)) (hq : (Cond.eq (.elem t (.int i)) u).value args Z none Z [] = some true) : cl.slots[i.toNatClampNeg]? = some (.ref b) := by
  obtain ⟨x, y, h1, h2, h3, h4⟩ := cmp_v (Or.inl hq)
  have e2 : y = .ref b := Option.some.inj (h2.symm.trans eu)
  subst e2
  have h5 := (elem_in h1 ev (Term.int_eval i) A.1).2
  have e3 : x = .ref b := gotT (eq_R h1 h2 h4.2 rfl) hq
  rw [← e3]
  exact h5
theorem own_and3 (k : Int32) : k &&& 3 = 0 ∨ k &&& 3 = 1 ∨ k &&& 3 = 2 ∨ k &&& 3 = 3 := by
  have h := c_mask k 3 2 (by decide) (by decide)
  simp only [← Int32.toInt_inj, Int32.reduceToInt]
  omega
theorem own_mod (x n : Int32) (hn : 0 < n.toInt) : 0 ≤ ((x &&& 2147483647) % n).toInt ∧ ((x &&& 2147483647) % n).toInt < n.toInt := by
  have h1 := (c_and x 2147483647 (by decide)).1
  have h2 := (c_iremV (x &&& 2147483647) n).1 h1 hn
  exact ⟨h2.1, h2.2.1⟩
theorem own_cp0 {p : Program} {l : Launch} {e : Env} {R : Room} {s : State} {m : MethodId} {args : Array Value} {below : List Frame} {meth : Method} {c : Code} {T : State} {locs : List Loc} {cells slots : Nat} {a0 : Array Value} {own : String} {index : Nat} (X : Stand p l e R s m args below meth c T locs cells slots) (hx : p.tables.exec = Jvm.exec) (hZ : Z.Warmed39 s.vm) (hown : s.vm.findClass own = some m.cls)
    (w1 : (Cond.methodLink own index Jvm.Stand.acN).before a0 Z = true) (w2 : (Cond.native Jvm.Stand.acN).before a0 Z = true) (w3 : (Cond.static Jvm.Stand.acN).before a0 Z = true) (w4 : (Cond.initialized "java/lang/System").before a0 Z = true) (eT : T.heap = h)
    {k k' : ClassId} {ty : FieldType} {z z' : Int32} {vs vd : List Value} {dv dd : Value} (A : Arv Z h a k ty z vs dv) (B : Arv Z h b k' ty z' vd dd) (hty : refKind ty = false) {nn : Int32} (hnn : nn = 0)
    {g : JFrame} (hg : g.method = m) (hsize : g.locals.size = c.maxLocals) {rest : List Value} (hs : g.stack = .int nn :: .int 0 :: .ref b :: .int 0 :: .ref a :: rest) (hd : decode c.code g.pc = .ok (.invokestatic index, 3))
    (hf : 1 ≤ R.frames) {W : Nat} (hW : 2 * g.monitorRoom + (rest.map fun v => v.category).sum ≤ W) (hlo : W + (nativeFrameWords "java/lang/System" "arraycopy" 5 + 11) ≤ R.locals) :
    ∃ T', Stand p l e R s m args below meth c T' locs cells slots ∧ T'.heap = h ∧ ∀ target, Steps p.tables e below (T'.setTop { g with pc := g.pc + 3, stack := rest }) target → Steps p.tables e below (T.setTop g) target := by
  subst hnn
  obtain ⟨cs, As, -, Ss, -, Hs, Gs⟩ := A
  obtain ⟨cd, Ad, qd, Sd, Nd, Hd, Gd⟩ := B
  obtain ⟨os, ks, hks, sc, hsk⟩ := State.isArrayOf_alike hZ.alike As.2.1
  obtain ⟨od, kd, hkd, dc, hdk⟩ := State.isArrayOf_alike hZ.alike Ad.2.1
  have z0 : (0 : Int32).toInt = 0 := rfl
  obtain ⟨vm₁, hW₁, X', st⟩ := X.arraycopyK (srcPos := 0) (destPos := 0) (n := 0) hx hown (mvT hZ w1) (mvT hZ w2) (mvT hZ w3) (mvT hZ w4) (by rw [eT]; exact As.1) (by rw [eT]; exact Ad.1) os od As.2.2 Ad.2.2 hks hkd hsk hdk
    (by simp [hty]) (by decide) (by decide) (by decide) (by rw [z0]; omega) (by rw [z0]; omega) (fun vm₁ hw i hi => absurd hi (Nat.not_lt_zero i)) hg hsize hs hd hf (by omega)
  have e1 : copied cs cd 0 0 0 = cd := rfl
  have e2 : copyLocs b (0 : Int32).toNatClampNeg (0 : Int32).toNatClampNeg = [] := rfl
  rw [e1] at X' st
  rw [e2, List.append_nil] at X'
  refine ⟨_, X', ?_, st⟩
  show (T.heap.setIfInBounds b cd) = h
  rw [eT]
  refine Array.ext_getElem? fun i => ?_
  by_cases q : b = i
  · subst q
    rw [Array.getElem?_setIfInBounds_self_of_lt (Array.getElem?_eq_some_iff.mp Ad.1).1]
    exact Ad.1.symm
  · rw [Array.getElem?_setIfInBounds_ne q]
/-- an array of which the length alone is said -/
def own_AL (Z : State) (h : Heap) (a : Addr) (ty : FieldType) (z : Int32) : Prop := ∃ k vs d, Arv Z h a k ty z vs d
theorem own_AL.of {k : ClassId} {ty : FieldType} {z : Int32} {vs : List Value} {d : Value} (F : Arv Z h a k ty z vs d) : own_AL Z h a ty z := ⟨k, vs, d, F⟩
theorem own_AL.lt {ty : FieldType} {z : Int32} (F : own_AL Z h a ty z) : a < h.size := by obtain ⟨k, vs, d, F⟩ := F; exact F.lt
theorem own_AL.ext {ty : FieldType} {z : Int32} (F : own_AL Z h a ty z) (E : Ext h h') : own_AL Z h' a ty z := by obtain ⟨k, vs, d, F⟩ := F; exact ⟨k, vs, d, F.ext E⟩
theorem own_AL.other {ty : FieldType} {z : Int32} (F : own_AL Z h b ty z) (W : Wr h h' a sl v) (q : b ≠ a) : own_AL Z h' b ty z := by obtain ⟨k, vs, d, F⟩ := F; exact ⟨k, vs, d, F.other W q⟩
theorem own_AL.keep {ty : FieldType} {z : Int32} (F : own_AL Z h a ty z) (K : Keep h h' ws) (q : a ∉ ws) : own_AL Z h' a ty z := by obtain ⟨k, vs, d, F⟩ := F; exact ⟨k, vs, d, F.keep K q⟩
theorem own_AL.len {ty : FieldType} {z : Int32} (F : own_AL Z h a ty z) (n : Nat) : ∃ k vs d, Arv Z h a k ty z vs d ∧ n ≤ vs.length := by
  obtain ⟨k, vs, d, F⟩ := F
  exact ⟨k, vs ++ List.replicate n d, d, F.pad (pad_rep vs d n), by simp⟩
theorem own_AL.nn {ty : FieldType} {z : Int32} (F : own_AL Z h a ty z) : 0 ≤ z.toInt := by
  obtain ⟨k, vs, d, c, A, q1, q2, q3, r⟩ := F
  rw [Int32.lt_iff_toInt_lt] at q3
  exact Int.not_lt.mp q3
/-- a copy into one array leaves every array's length -/
theorem own_AL.cp {k : ClassId} {ty ty' : FieldType} {z z' : Int32} {vs : List Value} {d : Value} (F : own_AL Z h a ty z) (B : own_AL Z h b ty' z') (K : Keep h h' [b]) (V : Arv Z h' b k ty' z' vs d) : own_AL Z h' a ty z := by
  by_cases q : a = b
  · subst q
    obtain ⟨k1, vs1, d1, c1, A1, e1, s1, n1, -⟩ := F
    obtain ⟨k2, vs2, d2, c2, A2, e2, s2, n2, -⟩ := B
    have ec : c1 = c2 := Option.some.inj (A1.1.symm.trans A2.1)
    subst ec
    obtain ⟨-, w1, g1, p1, g2⟩ := A1.2.1
    obtain ⟨-, w2, g3, p2, g4⟩ := A2.2.1
    have ew : w1 = w2 := Option.some.inj (g1.symm.trans g3)
    subst ew
    have et : ty = ty' := by rw [g2] at g4; cases g4; rfl
    have ez : z = z' := by rw [← (back32 n1).1, ← (back32 n2).1, ← s1, ← s2]
    subst et ez
    exact ⟨_, _, _, V⟩
  · exact F.keep K (ninS q nin0)
theorem own_IB {vm : Vm} (hint : vm.interned = Z.vm.interned) : IB Z vm [] := ⟨#[], by rw [hint]; simp, fun q hq => by simp at hq⟩
theorem own_backOfSI {p : Program} {l : Launch} {e : Env} {R : Room} {s : State} {args : Array Value} {below : List Frame} {a0 : Array Value} {y : MethodName} {bytes : ByteArray} {maxL : Nat} {ret : Option FieldType} {rm : Room} {len W : Nat} {as' : Array Value} {Q : Option Value → Heap → List Loc → Prop} (hint : s.vm.interned = Z.vm.interned)
    (hM : MetFree l y (head1 [Cond.code y bytes maxL ret] rm) (fun a U => a = as' ∧ Z.Warmed39 U.vm ∧ U.heap = h ∧ U.vm.interned = Z.vm.interned) (fun _ _ _ _ _ => True) (fun _ U o U' => ∃ v L, o = .returned v ∧ Q v U'.heap L ∧ ReturnedEndW U o U' L rm.cells rm.slots))
    (hZ : Z.Warmed39 s.vm) (wc : (Cond.code y bytes maxL ret).before a0 Z = true) (wz : (Cond.initialized y.cls).before a0 Z = true) (hf : rm.frames + 1 ≤ R.frames) (hl : W + (maxL + 11) + rm.locals ≤ R.locals) :
    BackS l R p e below s args y len W (fun A a => a = as' ∧ A.U.heap = h ∧ A.cells + rm.cells ≤ R.cells ∧ A.slots + rm.slots ≤ R.slots)
      (fun A _ v B => ∃ L, Q v B.U.heap L ∧ B.locs = A.locs ++ L ∧ B.cells = A.cells + rm.cells ∧ B.slots = A.slots + rm.slots) :=
  BackS.of_freeW (bytes := bytes) (maxL := maxL) (ret := ret) (E := fun _ _ o t L k n => k = rm.cells ∧ n = rm.slots ∧ ∃ v, o = .returned v ∧ Q v t.heap L) hM hf hl
    (fun m meth c A a Y hp => have hU : Z.Warmed39 A.U.vm := wtrans hZ Y.warmed
      ⟨by show (Cond.and _ .tt).before a A.U = true; rw [Cond.before_and, mv hU wc]; rfl, mv hU wc, mv hU wz, hp.2.2.1, hp.2.2.2⟩)
    (fun m meth c A a g mk Y hp => ⟨hp.1, wtrans hZ Y.warmed, hp.2.1, Y.warmed.interned_eq.trans hint⟩) (fun _ _ _ _ _ _ _ _ _ => trivial)
    (fun _ _ _ _ ⟨v, L, h1, h2, h3⟩ => ⟨L, _, _, h3, rfl, rfl, v, h1, h2⟩)
    (fun m meth c A a g mk v t L k n Y hp _ _ ⟨e1, e2, v', e3, e4⟩ => by cases e3; subst e1 e2; exact ⟨L, e4, rfl, rfl, rfl⟩)
end Facts
end Jvm.Own
namespace Jvm.Pilot.@@N@@
open Jvm Jvm.ClassFile Sem Op Lib Jvm.Free Jvm.Stand Jvm.LawKit Jvm.RoadKit Jvm.Own Bundle Jvm.Pilot.@@N@@.Jvm.D
def own_at (q : Int32) (a b c d : Addr) : Addr := if q = 0 then a else if q = 1 then b else if q = 2 then c else d
theorem own_at_exa {Z : State} {h : Heap} {C : String} (q : Int32) {a b c d : Addr} (h1 : Exa Z h a C) (h2 : Exa Z h b C) (h3 : Exa Z h c C) (h4 : Exa Z h d C) : Exa Z h (own_at q a b c d) C := by
  unfold own_at; (repeat' split) <;> assumption
theorem own_at_fld {Z : State} {h : Heap} {C n t : String} (k : Int32) {a b c d : Addr} (h1 : Fld Z h a C n t (.int 0)) (h2 : Fld Z h b C n t (.int 1)) (h3 : Fld Z h c C n t (.int 2)) (h4 : Fld Z h d C n t (.int 3)) : Fld Z h (own_at (k &&& 3) a b c d) C n t (.int (k &&& 3)) := by
  rcases own_and3 k with q | q | q | q <;> rw [q] <;> assumption
theorem own_at_inj {Z : State} {h : Heap} {C n t : String} (k j : Int32) {a b c d : Addr} (h1 : Fld Z h a C n t (.int 0)) (h2 : Fld Z h b C n t (.int 1)) (h3 : Fld Z h c C n t (.int 2)) (h4 : Fld Z h d C n t (.int 3)) : own_at (k &&& 3) a b c d = own_at (j &&& 3) a b c d ↔ k &&& 3 = j &&& 3 := by
  refine ⟨fun e => ?_, fun e => by rw [e]⟩
  have f := own_at_fld k h1 h2 h3 h4
  have g := own_at_fld j h1 h2 h3 h4
  by_cases q : k &&& 3 = j &&& 3
  · exact q
  · exact absurd e (Fld.ne f g (fun z => q (Value.int.inj z)))
def own_sel (r : Int32) (a b c d : Int64) : Int64 := if r = 0 then a else if r = 1 then b else if r = 2 then c else d
def own_bump (r i : Int32) (c : Int64) : Int64 := if i = r then c + 1 else c
theorem own_sel_get {r : Int32} (hr : r = 0 ∨ r = 1 ∨ r = 2 ∨ r = 3) (a b c d : Int64) : [(.long a), (.long b), (.long c), (.long d)].getD r.toNatClampNeg (.long (0 : Int64)) = Value.long (own_sel r a b c d) := by
  rcases hr with rfl | rfl | rfl | rfl <;> rfl
theorem own_r_in {r : Int32} (hr : r = 0 ∨ r = 1 ∨ r = 2 ∨ r = 3) : ¬ r < 0 ∧ r < 4 := by
  rcases hr with rfl | rfl | rfl | rfl <;> decide
theorem own_bump_eq {r : Int32} (hr : r = 0 ∨ r = 1 ∨ r = 2 ∨ r = 3) (a b c d : Int64) : [(Value.long a), (.long b), (.long c), (.long d)].set r.toNatClampNeg (.long (own_sel r a b c d + (1 : Int64))) = [(.long (own_bump r 0 a)), (.long (own_bump r 1 b)), (.long (own_bump r 2 c)), (.long (own_bump r 3 d))] := by
  rcases hr with rfl | rfl | rfl | rfl <;> rfl
theorem own_r_len {r : Int32} (hr : r = 0 ∨ r = 1 ∨ r = 2 ∨ r = 3) : r.toNatClampNeg < 4 := by
  rcases hr with rfl | rfl | rfl | rfl <;> decide
theorem own_tot {r : Int32} (hr : r = 0 ∨ r = 1 ∨ r = 2 ∨ r = 3) (a b c d : Int64) : ((((0 : Int64) + own_bump r 0 a) + own_bump r 1 b) + own_bump r 2 c) + own_bump r 3 d = (((((0 : Int64) + a) + b) + c) + d) + 1 := by
  rcases hr with rfl | rfl | rfl | rfl <;> simp [own_bump] <;> ac_rfl
theorem ef_rmValues (m : MethodId)  : entryFrame m #[] 0 = mkF m 0 #[] [] := by first | (simp [entryFrame, mkF, argsToLocals, Value.category]; done) | rfl
def Q_rmValues (Z : State) (w_VALUES : Addr) (k_VALUES : ClassId) (w_NEW : Addr) (w_CHANGED : Addr) (w_UNCHANGED : Addr) (w_CANCELLED : Addr) (h0 : Heap) (v : Option Value) (h : Heap) (L : List Loc) : Prop := ∃ b : Addr, v = some (.ref b) ∧ Fr Z.heap.size L ∧ Ext Z.heap h ∧ Keep h0 h [] ∧ Arv Z h b k_VALUES (.object "com/example/kertyma/kertyma/RowOutcome") (4 : Int32) [(.ref w_NEW), (.ref w_CHANGED), (.ref w_UNCHANGED), (.ref w_CANCELLED)] .null ∧ h0.size ≤ b
theorem pn_com_example_kertyma_kertyma_RowOutcome : plainName "com/example/kertyma/kertyma/RowOutcome" = true := by first | (simp [plainName, overriddenIn]; done) | decide +kernel
theorem d3_0 : decode prog_8_method_1_code 0 = .ok (.getstatic 16, 3) := by decide +kernel
theorem d3_3 : decode prog_8_method_1_code 3 = .ok (.invokevirtual 20, 3) := by decide +kernel
theorem d3_6 : decode prog_8_method_1_code 6 = .ok (.checkcast 21, 3) := by decide +kernel
theorem d3_9 : decode prog_8_method_1_code 9 = .ok (.areturn, 1) := by decide +kernel
set_option maxRecDepth 65536 in
set_option maxHeartbeats 40000000 in
theorem rmValues (l : Launch) (Z : State) (a0 : Array Value) (hw : ∀ d ∈ tables_1, d.before a0 Z = true) (ws : List Jvm.Cond) (w_VALUES : Addr) (k_VALUES : ClassId) (w_NEW : Addr) (w_CHANGED : Addr) (w_UNCHANGED : Addr) (w_CANCELLED : Addr) (h0 : Heap) (O0 : Ext Z.heap h0) (S_VALUES : Sta Z Z.heap "com/example/kertyma/kertyma/RowOutcome" "$VALUES" "[Lcom/example/kertyma/kertyma/RowOutcome;" (.ref w_VALUES)) (A_VALUES : Arv Z Z.heap w_VALUES k_VALUES (.object "com/example/kertyma/kertyma/RowOutcome") (4 : Int32) [(.ref w_NEW), (.ref w_CHANGED), (.ref w_UNCHANGED), (.ref w_CANCELLED)] .null) (E_VALUES : Exa Z Z.heap w_VALUES "[Lcom/example/kertyma/kertyma/RowOutcome;") :
    MetFree l (⟨"com/example/kertyma/kertyma/RowOutcome", "values", "()[Lcom/example/kertyma/kertyma/RowOutcome;"⟩ : MethodName) (head1 (Jvm.Cond.code (⟨"com/example/kertyma/kertyma/RowOutcome", "values", "()[Lcom/example/kertyma/kertyma/RowOutcome;"⟩ : MethodName) prog_8_method_1_code 0 (some (.array (.object "com/example/kertyma/kertyma/RowOutcome"))) :: ws) ({ frames := 1, cells := 1, slots := 4, locals := 16 } : Room)) (fun av' U => av' = #[] ∧ Z.Warmed39 U.vm ∧ U.heap = h0) (fun _ _ _ _ _ => True) (fun _ U o U' => ∃ v L, o = .returned v ∧ Q_rmValues Z w_VALUES k_VALUES w_NEW w_CHANGED w_UNCHANGED w_CANCELLED h0 v U'.heap L ∧ FrameEnd U o U' L ({ frames := 1, cells := 1, slots := 4, locals := 16 } : Room).cells ({ frames := 1, cells := 1, slots := 4, locals := 16 } : Room).slots) := by
  refine MetFree.of_bodySF (plainFor_of_name pn_com_example_kertyma_kertyma_RowOutcome) hisR ?_
  intro p e s m args below meth c s₁ Bd hml0 hP hK
  obtain ⟨rfl, hZ, hh⟩ := hP
  have hx := Bd.exec
  have hby := Bd.bytes
  have hret := Bd.returns
  have hlk : meth.locks = false := Bd.notSynchronized
  have hml : c.maxLocals = 0 := hml0
  have hown : s.vm.findClass "com/example/kertyma/kertyma/RowOutcome" = some m.cls := findClass_of_methodNamed Bd.named
  have hnm := (name_of_methodNamed Bd.named Bd.method).1
  have X0 : Stand p l e ({ frames := 1, cells := 1, slots := 4, locals := 16 } : Room) s m #[] below meth c s₁ [] 0 0 := Stand.of_body Bd
  -- the walk
  have e0 : s₁.heap = h0 := by rw [← hh, Bd.state]; rfl
  have N0 := Fr.nil Z.heap.size
  have K0 := Keep.refl h0 []
  show Go p e below (GO s (Q_rmValues Z w_VALUES k_VALUES w_NEW w_CHANGED w_UNCHANGED w_CANCELLED h0) ({ frames := 1, cells := 1, slots := 4, locals := 16 } : Room).cells ({ frames := 1, cells := 1, slots := 4, locals := 16 } : Room).slots) (s₁.setTop (entryFrame m #[] 0))
  refine Go.st (fun t' k' => castTop (ef_rmValues m ) k') ?_
  show Go p e below _ (s₁.setTop (mkF m 0 #[] []))
  obtain ⟨T1, X1, e1, st1⟩ := getS2 X0 hx hZ hown (host := "") (Or.inl (hw _ (List.mem_of_getElem? (i := 13) rfl))) Via.refl e0 (S_VALUES.ext O0) (g := (mkF m 0 #[] [])) rfl (hb hby d3_0)
  refine Go.st st1 ?_
  show Go p e below _ (T1.setTop (mkF m 3 #[] [(.ref w_VALUES)]))
  obtain ⟨T2, h2, X2, e2, E2, V2c, A2, st2⟩ := cloneH X1 hx hZ hown (hw _ (List.mem_of_getElem? (i := 15) rfl)) (hw _ (List.mem_of_getElem? (i := 16) rfl)) (hw _ (List.mem_of_getElem? (i := 20) rfl)) (hw _ (List.mem_of_getElem? (i := 18) rfl)) (hw _ (List.mem_of_getElem? (i := 19) rfl)) (hw _ (List.mem_of_getElem? (i := 21) rfl)) e1 (Arv.arh (A_VALUES.ext O0)) (E_VALUES.ext O0) (g := (mkF m 3 #[] [(.ref w_VALUES)])) rfl (by rw [hml]; rfl) rfl (hb hby d3_3) (by decide) (W := 0) (cap := 4) (by show 2 * 0 + _ ≤ _; exact Nat.le_of_eq rfl) (by decide) (by decide) (by decide) (by decide)
  obtain ⟨b2, g2⟩ : ∃ z, z = h0.size := ⟨_, rfl⟩
  rw [← g2] at A2 V2c st2
  refine Go.st st2 ?_
  have ne_w_VALUES_b2 : w_VALUES ≠ b2 := Nat.ne_of_lt (Nat.lt_of_lt_of_le (A_VALUES.ext O0).lt (Nat.le_of_eq g2.symm))
  have g_b2 : Z.heap.size ≤ b2 := Nat.le_trans O0.1 (Nat.le_of_eq g2.symm)
  have sz_b2 : h0.size ≤ b2 := Nat.le_trans K0.1 (Nat.le_of_eq g2.symm)
  have O2 := own_ext_trans O0 E2
  have K2 := K0.ext E2
  have V_b2 : Arv Z h2 b2 k_VALUES (.object "com/example/kertyma/kertyma/RowOutcome") (4 : Int32) [(.ref w_NEW), (.ref w_CHANGED), (.ref w_UNCHANGED), (.ref w_CANCELLED)] .null := V2c
  show Go p e below _ (T2.setTop (mkF m 6 #[] [(.ref b2)]))
  obtain ⟨T4, X4, e4, st4⟩ := castY X2 hx hZ hown (hw _ (List.mem_of_getElem? (i := 27) rfl)) e2 (Ins.self A2) (g := (mkF m 6 #[] [(.ref b2)])) rfl rfl (hb hby d3_6)
  refine Go.st st4 ?_
  show Go p e below _ (T4.setTop (mkF m 9 #[] [(.ref b2)]))
  exact Go.outR X4 hx hlk hret rfl rfl (hb hby d3_9) (Q := Q_rmValues Z w_VALUES k_VALUES w_NEW w_CHANGED w_UNCHANGED w_CANCELLED h0) (by rw [e4]; exact ⟨b2, rfl, N0, O2, K2, V_b2, sz_b2⟩) (by decide) (by decide)
theorem ef_rmInit (m : MethodId) (x0 : Addr) : entryFrame m #[(.ref x0)] 1 = mkF m 0 #[.val (.ref x0)] [] := by first | (simp [entryFrame, mkF, argsToLocals, Value.category]; done) | rfl
def Q_rmInit (Z : State) (a : Addr) (w_VALUES : Addr) (k_VALUES : ClassId) (w_NEW : Addr) (w_CHANGED : Addr) (w_UNCHANGED : Addr) (w_CANCELLED : Addr) (h0 : Heap) (v : Option Value) (h : Heap) (L : List Loc) : Prop := ∃ b : Addr, ∃ kb : ClassId, v = none ∧ Fr Z.heap.size L ∧ Ext Z.heap h ∧ Keep h0 h [a] ∧ Fld Z h a "com/example/kertyma/kertyma/LoadCounts" "counts" "[J" (.ref b) ∧ Arv Z h b kb .long (4 : Int32) [(.long (0 : Int64)), (.long (0 : Int64)), (.long (0 : Int64)), (.long (0 : Int64))] (.long (0 : Int64)) ∧ Z.heap.size ≤ b ∧ h0.size ≤ b ∧ a ≠ b ∧ Fld Z h a "com/example/kertyma/kertyma/LoadCounts" "rejected" "J" (.long (0 : Int64)) ∧ Fld Z h a "com/example/kertyma/kertyma/LoadCounts" "finishedPartitions" "I" (.int (-1 : Int32)) ∧ Fld Z h a "com/example/kertyma/kertyma/LoadCounts" "resumedAfter" "J" (.long (0 : Int64))
theorem pn_com_example_kertyma_kertyma_LoadCounts : plainName "com/example/kertyma/kertyma/LoadCounts" = true := by first | (simp [plainName, overriddenIn]; done) | decide +kernel
theorem d1_0 : decode prog_4_method_1_code 0 = .ok (.aload_n 0, 1) := by decide +kernel
theorem d1_1 : decode prog_4_method_1_code 1 = .ok (.invokespecial 1, 3) := by decide +kernel
theorem d1_4 : decode prog_4_method_1_code 4 = .ok (.aload_n 0, 1) := by decide +kernel
theorem d1_5 : decode prog_4_method_1_code 5 = .ok (.invokestatic 7, 3) := by decide +kernel
theorem pd____Lcom_example_kertyma_kertyma_RowOutcome_ : parseMethodDescriptor "()[Lcom/example/kertyma/kertyma/RowOutcome;" = some ⟨[], some (.array (.object "com/example/kertyma/kertyma/RowOutcome"))⟩ := by decide +kernel
theorem d1_8 : decode prog_4_method_1_code 8 = .ok (.arraylength, 1) := by decide +kernel
theorem d1_9 : decode prog_4_method_1_code 9 = .ok (.newarray .long, 2) := by decide +kernel
theorem d1_11 : decode prog_4_method_1_code 11 = .ok (.putfield 13, 3) := by decide +kernel
theorem d1_14 : decode prog_4_method_1_code 14 = .ok (.aload_n 0, 1) := by decide +kernel
theorem d1_15 : decode prog_4_method_1_code 15 = .ok (.lconst 0, 1) := by decide +kernel
theorem d1_16 : decode prog_4_method_1_code 16 = .ok (.putfield 19, 3) := by decide +kernel
theorem d1_19 : decode prog_4_method_1_code 19 = .ok (.aload_n 0, 1) := by decide +kernel
theorem d1_20 : decode prog_4_method_1_code 20 = .ok (.lconst 0, 1) := by decide +kernel
theorem d1_21 : decode prog_4_method_1_code 21 = .ok (.putfield 23, 3) := by decide +kernel
theorem d1_24 : decode prog_4_method_1_code 24 = .ok (.aload_n 0, 1) := by decide +kernel
theorem d1_25 : decode prog_4_method_1_code 25 = .ok (.iconst (-1), 1) := by decide +kernel
theorem d1_26 : decode prog_4_method_1_code 26 = .ok (.putfield 26, 3) := by decide +kernel
theorem d1_29 : decode prog_4_method_1_code 29 = .ok (.return_, 1) := by decide +kernel
set_option maxRecDepth 65536 in
set_option maxHeartbeats 40000000 in
theorem rmInit (l : Launch) (Z : State) (a0 : Array Value) (hw : ∀ d ∈ tables_1, d.before a0 Z = true) (ws : List Jvm.Cond) (a : Addr) (w_VALUES : Addr) (k_VALUES : ClassId) (w_NEW : Addr) (w_CHANGED : Addr) (w_UNCHANGED : Addr) (w_CANCELLED : Addr) (h0 : Heap) (O0 : Ext Z.heap h0) (S_VALUES : Sta Z Z.heap "com/example/kertyma/kertyma/RowOutcome" "$VALUES" "[Lcom/example/kertyma/kertyma/RowOutcome;" (.ref w_VALUES)) (A_VALUES : Arv Z Z.heap w_VALUES k_VALUES (.object "com/example/kertyma/kertyma/RowOutcome") (4 : Int32) [(.ref w_NEW), (.ref w_CHANGED), (.ref w_UNCHANGED), (.ref w_CANCELLED)] .null) (E_VALUES : Exa Z Z.heap w_VALUES "[Lcom/example/kertyma/kertyma/RowOutcome;") (Ea : Exa Z h0 a "com/example/kertyma/kertyma/LoadCounts") (Ga : Z.heap.size ≤ a) (Fc : Fld Z h0 a "com/example/kertyma/kertyma/LoadCounts" "counts" "[J" .null) (Frj : Fld Z h0 a "com/example/kertyma/kertyma/LoadCounts" "rejected" "J" (.long (0 : Int64))) (Fs : Fld Z h0 a "com/example/kertyma/kertyma/LoadCounts" "resumedAfter" "J" (.long (0 : Int64))) (Ft : Fld Z h0 a "com/example/kertyma/kertyma/LoadCounts" "restartedAfter" "J" (.long (0 : Int64))) (Ff : Fld Z h0 a "com/example/kertyma/kertyma/LoadCounts" "finishedPartitions" "I" (.int (0 : Int32))) :
    MetFree l (⟨"com/example/kertyma/kertyma/LoadCounts", "<init>", "()V"⟩ : MethodName) (head1 (Jvm.Cond.code (⟨"com/example/kertyma/kertyma/LoadCounts", "<init>", "()V"⟩ : MethodName) prog_4_method_1_code 1 none :: ws) ({ frames := 2, cells := 2, slots := 8, locals := 40 } : Room)) (fun av' U => av' = #[(.ref a)] ∧ Z.Warmed39 U.vm ∧ U.heap = h0) (fun _ _ _ _ _ => True) (fun _ U o U' => ∃ v L, o = .returned v ∧ Q_rmInit Z a w_VALUES k_VALUES w_NEW w_CHANGED w_UNCHANGED w_CANCELLED h0 v U'.heap L ∧ FrameEnd U o U' L ({ frames := 2, cells := 2, slots := 8, locals := 40 } : Room).cells ({ frames := 2, cells := 2, slots := 8, locals := 40 } : Room).slots) := by
  refine MetFree.of_bodySF (plainFor_of_name pn_com_example_kertyma_kertyma_LoadCounts) hisR ?_
  intro p e s m args below meth c s₁ Bd hml0 hP hK
  obtain ⟨rfl, hZ, hh⟩ := hP
  have hx := Bd.exec
  have hby := Bd.bytes
  have hret := Bd.returns
  have hlk : meth.locks = false := Bd.notSynchronized
  have hml : c.maxLocals = 1 := hml0
  have hown : s.vm.findClass "com/example/kertyma/kertyma/LoadCounts" = some m.cls := findClass_of_methodNamed Bd.named
  have hnm := (name_of_methodNamed Bd.named Bd.method).1
  have X0 : Stand p l e ({ frames := 2, cells := 2, slots := 8, locals := 40 } : Room) s m #[(.ref a)] below meth c s₁ [] 0 0 := Stand.of_body Bd
  -- the walk
  have e0 : s₁.heap = h0 := by rw [← hh, Bd.state]; rfl
  have N0 := Fr.nil Z.heap.size
  have K0 := Keep.refl h0 [a]
  show Go p e below (GO s (Q_rmInit Z a w_VALUES k_VALUES w_NEW w_CHANGED w_UNCHANGED w_CANCELLED h0) ({ frames := 2, cells := 2, slots := 8, locals := 40 } : Room).cells ({ frames := 2, cells := 2, slots := 8, locals := 40 } : Room).slots) (s₁.setTop (entryFrame m #[(.ref a)] 1))
  refine Go.st (fun t' k' => castTop (ef_rmInit m a) k') ?_
  show Go p e below _ (s₁.setTop (mkF m 0 #[.val (.ref a)] []))
  refine Go.st (fun t' k' => XS.aloadN X0.here hx rfl (hb hby d1_0) rfl rfl k') ?_
  show Go p e below _ (s₁.setTop (mkF m 1 #[.val (.ref a)] [(.ref a)]))
  obtain ⟨T1, X1, e1, st1⟩ := initO X0 hx hZ hown (hw _ (List.mem_of_getElem? (i := 6) rfl)) (hw _ (List.mem_of_getElem? (i := 7) rfl)) (hw _ (List.mem_of_getElem? (i := 8) rfl)) e0 (g := (mkF m 1 #[.val (.ref a)] [(.ref a)])) rfl (by rw [hml]; rfl) rfl (hb hby d1_1) (by decide) (W := 0) (by show 2 * 0 + _ ≤ _; exact Nat.le_of_eq rfl) (by decide)
  refine Go.st st1 ?_
  show Go p e below _ (T1.setTop (mkF m 4 #[.val (.ref a)] []))
  refine Go.st (fun t' k' => XS.aloadN X1.here hx rfl (hb hby d1_4) rfl rfl k') ?_
  show Go p e below _ (T1.setTop (mkF m 5 #[.val (.ref a)] [(.ref a)]))
  obtain ⟨_, _, ⟨T2, L2, k2, n2⟩, -, X2, ⟨Lc2, hQ2, l2, y2, z2⟩, st2⟩ := Jvm.LawKit.callS X1 hx (y := (⟨"com/example/kertyma/kertyma/RowOutcome", "values", "()[Lcom/example/kertyma/kertyma/RowOutcome;"⟩ : MethodName)) hown (mvT hZ (hw _ (List.mem_of_getElem? (i := 9) rfl))) (mvT hZ (hw _ (List.mem_of_getElem? (i := 10) rfl))) (mvT hZ (hw _ (List.mem_of_getElem? (i := 11) rfl))) (mvT hZ (hw _ (List.mem_of_getElem? (i := 12) rfl))) (by decide) (backOf (W := 1) (rmValues l Z a0 hw [] w_VALUES k_VALUES w_NEW w_CHANGED w_UNCHANGED w_CANCELLED h0 O0 S_VALUES A_VALUES E_VALUES) hZ (hw _ (List.mem_of_getElem? (i := 12) rfl)) (hw _ (List.mem_of_getElem? (i := 11) rfl)) (by decide) (by decide)) (g := (mkF m 5 #[.val (.ref a)] [(.ref a)])) rfl (by rw [hml]; rfl) (argsL := []) (rest := [(.ref a)]) (lenOf pd____Lcom_example_kertyma_kertyma_RowOutcome_ rfl) rfl (by show 2 * 0 + _ ≤ _; exact Nat.le_of_eq rfl) (hb hby d1_5) (fun _ _ => ⟨rfl, e1, (by decide : 0 + 1 ≤ _), (by decide : 0 + 4 ≤ _)⟩)
  dsimp only [Pt.U, Pt.locs, Pt.cells, Pt.slots] at X2 l2 y2 z2 st2 hQ2
  subst l2 y2 z2
  obtain ⟨b_2, rfl, N2q, O2, Kc2, Vb_2, Sb_2⟩ := hQ2
  have N2 := Fr.app N0 N2q
  refine Go.st st2 ?_
  have Ea_h3 := Ea.keep Kc2
  have Fc_h3 := Fc.keep Kc2 nin0
  have Frj_h3 := Frj.keep Kc2 nin0
  have Fs_h3 := Fs.keep Kc2 nin0
  have Ft_h3 := Ft.keep Kc2 nin0
  have Ff_h3 := Ff.keep Kc2 nin0
  have K2 := K0.trans Kc2 all0
  have ne_w_VALUES_b_2 : w_VALUES ≠ b_2 := Nat.ne_of_lt (Nat.lt_of_lt_of_le (A_VALUES.ext O0).lt Sb_2)
  have ne_a_b_2 : a ≠ b_2 := Nat.ne_of_lt (Nat.lt_of_lt_of_le Ea.lt Sb_2)
  have sz_b_2 : h0.size ≤ b_2 := Nat.le_trans K0.1 Sb_2
  show Go p e below _ (T2.setTop (mkF m 8 #[.val (.ref a)] [(.ref b_2), (.ref a)]))
  obtain ⟨cll4, Arl4, ql4, Szl4, Nzl4, Hsl4, Gsl4⟩ := (id Vb_2)
  refine Go.st (X2.arraylength hx Arl4.1 (State.isArrayOf_alike hZ.alike Arl4.2.1) (g := (mkF m 8 #[.val (.ref a)] [(.ref b_2), (.ref a)])) rfl rfl (hb hby d1_8)) ?_
  rw [len_of Szl4 Nzl4]
  show Go p e below _ (T2.setTop (mkF m 9 #[.val (.ref a)] [(.int (4 : Int32)), (.ref a)]))
  obtain ⟨T5, h5, k5, X5, e5, E5, A5, st5⟩ := newP X2 hx hZ (hw _ (List.mem_of_getElem? (i := 29) rfl)) rfl (g := (mkF m 9 #[.val (.ref a)] [(.int (4 : Int32)), (.ref a)])) rfl (hb hby d1_9) rfl (by decide) (cap := 4) (by decide) (by decide) (by decide) (by decide)
  obtain ⟨b5, g5⟩ : ∃ z, z = T2.heap.size := ⟨_, rfl⟩
  rw [← g5] at A5 st5
  refine Go.st st5 ?_
  have ne_w_VALUES_b5 : w_VALUES ≠ b5 := Nat.ne_of_lt (Nat.lt_of_lt_of_le (A_VALUES.ext O2).lt (Nat.le_of_eq g5.symm))
  have ne_a_b5 : a ≠ b5 := Nat.ne_of_lt (Nat.lt_of_lt_of_le Ea_h3.lt (Nat.le_of_eq g5.symm))
  have ne_b_2_b5 : b_2 ≠ b5 := Nat.ne_of_lt (Nat.lt_of_lt_of_le Vb_2.lt (Nat.le_of_eq g5.symm))
  have g_b5 : Z.heap.size ≤ b5 := Nat.le_trans O2.1 (Nat.le_of_eq g5.symm)
  have sz_b5 : h0.size ≤ b5 := Nat.le_trans K2.1 (Nat.le_of_eq g5.symm)
  have Ea_h6 := Ea_h3.ext E5
  have Fc_h6 := Fc_h3.ext E5
  have Frj_h6 := Frj_h3.ext E5
  have Fs_h6 := Fs_h3.ext E5
  have Ft_h6 := Ft_h3.ext E5
  have Ff_h6 := Ff_h3.ext E5
  have Vb_2_h6 := Vb_2.ext E5
  have O5 := own_ext_trans O2 E5
  have K5 := K2.ext E5
  have V_b5 : Arv Z h5 b5 k5 .long (4 : Int32) [(.long (0 : Int64)), (.long (0 : Int64)), (.long (0 : Int64)), (.long (0 : Int64))] (.long (0 : Int64)) := (Arv.new A5 (by decide)).pad (pad_rep [] (.long (0 : Int64)) 4)
  show Go p e below _ (T5.setTop (mkF m 11 #[.val (.ref a)] [(.ref b5), (.ref a)]))
  obtain ⟨T7, h7, X7, e7, W7, st7⟩ := putF X5 hx hZ hown (host := "") (Or.inl (hw _ (List.mem_of_getElem? (i := 30) rfl))) Via.refl e5 Fc_h6 Ea_h6 (Or.inr ⟨(hw _ (List.mem_of_getElem? (i := 31) rfl)), rfl, hnm⟩) (hw _ (List.mem_of_getElem? (i := 1) rfl)) (ty := (.array .long)) (by decide) rfl rfl (g := (mkF m 11 #[.val (.ref a)] [(.ref b5), (.ref a)])) rfl rfl (hb hby d1_11)
  refine Go.st st7 ?_
  have Fw7 : Fld Z h7 a "com/example/kertyma/kertyma/LoadCounts" "counts" "[J" (.ref b5) := Fc_h6.same W7
  have Ea_h8 := Ea_h6.wr W7
  have Frj_h8 := Frj_h6.other W7 (Or.inr (slot_ne (Or.inl (hw _ (List.mem_of_getElem? (i := 44) rfl))) (Or.inr (hw _ (List.mem_of_getElem? (i := 31) rfl))) (by decide) (t := .long) (t' := (.array .long)) (by decide) (by decide)))
  have Fs_h8 := Fs_h6.other W7 (Or.inr (slot_ne (Or.inr (hw _ (List.mem_of_getElem? (i := 33) rfl))) (Or.inr (hw _ (List.mem_of_getElem? (i := 31) rfl))) (by decide) (t := .long) (t' := (.array .long)) (by decide) (by decide)))
  have Ft_h8 := Ft_h6.other W7 (Or.inr (slot_ne (Or.inr (hw _ (List.mem_of_getElem? (i := 35) rfl))) (Or.inr (hw _ (List.mem_of_getElem? (i := 31) rfl))) (by decide) (t := .long) (t' := (.array .long)) (by decide) (by decide)))
  have Ff_h8 := Ff_h6.other W7 (Or.inr (slot_ne (Or.inr (hw _ (List.mem_of_getElem? (i := 37) rfl))) (Or.inr (hw _ (List.mem_of_getElem? (i := 31) rfl))) (by decide) (t := .int) (t' := (.array .long)) (by decide) (by decide)))
  have Vb_2_h8 := Vb_2_h6.other W7 (Ne.symm ne_a_b_2)
  have V_b5_h8 := V_b5.other W7 (Ne.symm ne_a_b5)
  have O7 := own_ext_wr O5 W7 Ga
  have K7 := K5.wr W7 (Or.inl (List.mem_of_getElem? (i := 0) rfl))
  have N7 := Fr.snoc X7 N2 Ga
  show Go p e below _ (T7.setTop (mkF m 14 #[.val (.ref a)] []))
  refine Go.st (fun t' k' => XS.aloadN X7.here hx rfl (hb hby d1_14) rfl rfl k') ?_
  show Go p e below _ (T7.setTop (mkF m 15 #[.val (.ref a)] [(.ref a)]))
  refine Go.st (fun t' k' => XS.lconst X7.here hx rfl (hb hby d1_15) k') ?_
  show Go p e below _ (T7.setTop (mkF m 16 #[.val (.ref a)] [(.long (0 : Int64)), (.ref a)]))
  obtain ⟨T9, h9, X9, e9, W9, st9⟩ := putF X7 hx hZ hown (host := "") (Or.inl (hw _ (List.mem_of_getElem? (i := 32) rfl))) Via.refl e7 Fs_h8 Ea_h8 (Or.inr ⟨(hw _ (List.mem_of_getElem? (i := 33) rfl)), rfl, hnm⟩) (hw _ (List.mem_of_getElem? (i := 1) rfl)) (ty := .long) (by decide) rfl rfl (g := (mkF m 16 #[.val (.ref a)] [(.long (0 : Int64)), (.ref a)])) rfl rfl (hb hby d1_16)
  refine Go.st st9 ?_
  have Fw9 : Fld Z h9 a "com/example/kertyma/kertyma/LoadCounts" "resumedAfter" "J" (.long (0 : Int64)) := Fs_h8.same W9
  have Ea_h10 := Ea_h8.wr W9
  have Frj_h10 := Frj_h8.other W9 (Or.inr (slot_ne (Or.inl (hw _ (List.mem_of_getElem? (i := 44) rfl))) (Or.inr (hw _ (List.mem_of_getElem? (i := 33) rfl))) (by decide) (t := .long) (t' := .long) (by decide) (by decide)))
  have Ft_h10 := Ft_h8.other W9 (Or.inr (slot_ne (Or.inr (hw _ (List.mem_of_getElem? (i := 35) rfl))) (Or.inr (hw _ (List.mem_of_getElem? (i := 33) rfl))) (by decide) (t := .long) (t' := .long) (by decide) (by decide)))
  have Ff_h10 := Ff_h8.other W9 (Or.inr (slot_ne (Or.inr (hw _ (List.mem_of_getElem? (i := 37) rfl))) (Or.inr (hw _ (List.mem_of_getElem? (i := 33) rfl))) (by decide) (t := .int) (t' := .long) (by decide) (by decide)))
  have Vb_2_h10 := Vb_2_h8.other W9 (Ne.symm ne_a_b_2)
  have V_b5_h10 := V_b5_h8.other W9 (Ne.symm ne_a_b5)
  have Fw7_h10 := Fw7.other W9 (Or.inr (slot_ne (Or.inr (hw _ (List.mem_of_getElem? (i := 31) rfl))) (Or.inr (hw _ (List.mem_of_getElem? (i := 33) rfl))) (by decide) (t := (.array .long)) (t' := .long) (by decide) (by decide)))
  have O9 := own_ext_wr O7 W9 Ga
  have K9 := K7.wr W9 (Or.inl (List.mem_of_getElem? (i := 0) rfl))
  have N9 := Fr.snoc X9 N7 Ga
  show Go p e below _ (T9.setTop (mkF m 19 #[.val (.ref a)] []))
  refine Go.st (fun t' k' => XS.aloadN X9.here hx rfl (hb hby d1_19) rfl rfl k') ?_
  show Go p e below _ (T9.setTop (mkF m 20 #[.val (.ref a)] [(.ref a)]))
  refine Go.st (fun t' k' => XS.lconst X9.here hx rfl (hb hby d1_20) k') ?_
  show Go p e below _ (T9.setTop (mkF m 21 #[.val (.ref a)] [(.long (0 : Int64)), (.ref a)]))
  obtain ⟨T11, h11, X11, e11, W11, st11⟩ := putF X9 hx hZ hown (host := "") (Or.inl (hw _ (List.mem_of_getElem? (i := 34) rfl))) Via.refl e9 Ft_h10 Ea_h10 (Or.inr ⟨(hw _ (List.mem_of_getElem? (i := 35) rfl)), rfl, hnm⟩) (hw _ (List.mem_of_getElem? (i := 1) rfl)) (ty := .long) (by decide) rfl rfl (g := (mkF m 21 #[.val (.ref a)] [(.long (0 : Int64)), (.ref a)])) rfl rfl (hb hby d1_21)
  refine Go.st st11 ?_
  have Fw11 : Fld Z h11 a "com/example/kertyma/kertyma/LoadCounts" "restartedAfter" "J" (.long (0 : Int64)) := Ft_h10.same W11
  have Ea_h12 := Ea_h10.wr W11
  have Frj_h12 := Frj_h10.other W11 (Or.inr (slot_ne (Or.inl (hw _ (List.mem_of_getElem? (i := 44) rfl))) (Or.inr (hw _ (List.mem_of_getElem? (i := 35) rfl))) (by decide) (t := .long) (t' := .long) (by decide) (by decide)))
  have Ff_h12 := Ff_h10.other W11 (Or.inr (slot_ne (Or.inr (hw _ (List.mem_of_getElem? (i := 37) rfl))) (Or.inr (hw _ (List.mem_of_getElem? (i := 35) rfl))) (by decide) (t := .int) (t' := .long) (by decide) (by decide)))
  have Vb_2_h12 := Vb_2_h10.other W11 (Ne.symm ne_a_b_2)
  have V_b5_h12 := V_b5_h10.other W11 (Ne.symm ne_a_b5)
  have Fw7_h12 := Fw7_h10.other W11 (Or.inr (slot_ne (Or.inr (hw _ (List.mem_of_getElem? (i := 31) rfl))) (Or.inr (hw _ (List.mem_of_getElem? (i := 35) rfl))) (by decide) (t := (.array .long)) (t' := .long) (by decide) (by decide)))
  have Fw9_h12 := Fw9.other W11 (Or.inr (slot_ne (Or.inr (hw _ (List.mem_of_getElem? (i := 33) rfl))) (Or.inr (hw _ (List.mem_of_getElem? (i := 35) rfl))) (by decide) (t := .long) (t' := .long) (by decide) (by decide)))
  have O11 := own_ext_wr O9 W11 Ga
  have K11 := K9.wr W11 (Or.inl (List.mem_of_getElem? (i := 0) rfl))
  have N11 := Fr.snoc X11 N9 Ga
  show Go p e below _ (T11.setTop (mkF m 24 #[.val (.ref a)] []))
  refine Go.st (fun t' k' => XS.aloadN X11.here hx rfl (hb hby d1_24) rfl rfl k') ?_
  show Go p e below _ (T11.setTop (mkF m 25 #[.val (.ref a)] [(.ref a)]))
  refine Go.st (fun t' k' => XS.iconst X11.here hx rfl (hb hby d1_25) k') ?_
  show Go p e below _ (T11.setTop (mkF m 26 #[.val (.ref a)] [(.int (-1 : Int32)), (.ref a)]))
  obtain ⟨T13, h13, X13, e13, W13, st13⟩ := putF X11 hx hZ hown (host := "") (Or.inl (hw _ (List.mem_of_getElem? (i := 36) rfl))) Via.refl e11 Ff_h12 Ea_h12 (Or.inr ⟨(hw _ (List.mem_of_getElem? (i := 37) rfl)), rfl, hnm⟩) (hw _ (List.mem_of_getElem? (i := 1) rfl)) (ty := .int) (by decide) rfl rfl (g := (mkF m 26 #[.val (.ref a)] [(.int (-1 : Int32)), (.ref a)])) rfl rfl (hb hby d1_26)
  refine Go.st st13 ?_
  have Fw13 : Fld Z h13 a "com/example/kertyma/kertyma/LoadCounts" "finishedPartitions" "I" (.int (-1 : Int32)) := Ff_h12.same W13
  have Ea_h14 := Ea_h12.wr W13
  have Frj_h14 := Frj_h12.other W13 (Or.inr (slot_ne (Or.inl (hw _ (List.mem_of_getElem? (i := 44) rfl))) (Or.inr (hw _ (List.mem_of_getElem? (i := 37) rfl))) (by decide) (t := .long) (t' := .int) (by decide) (by decide)))
  have Vb_2_h14 := Vb_2_h12.other W13 (Ne.symm ne_a_b_2)
  have V_b5_h14 := V_b5_h12.other W13 (Ne.symm ne_a_b5)
  have Fw7_h14 := Fw7_h12.other W13 (Or.inr (slot_ne (Or.inr (hw _ (List.mem_of_getElem? (i := 31) rfl))) (Or.inr (hw _ (List.mem_of_getElem? (i := 37) rfl))) (by decide) (t := (.array .long)) (t' := .int) (by decide) (by decide)))
  have Fw9_h14 := Fw9_h12.other W13 (Or.inr (slot_ne (Or.inr (hw _ (List.mem_of_getElem? (i := 33) rfl))) (Or.inr (hw _ (List.mem_of_getElem? (i := 37) rfl))) (by decide) (t := .long) (t' := .int) (by decide) (by decide)))
  have Fw11_h14 := Fw11.other W13 (Or.inr (slot_ne (Or.inr (hw _ (List.mem_of_getElem? (i := 35) rfl))) (Or.inr (hw _ (List.mem_of_getElem? (i := 37) rfl))) (by decide) (t := .long) (t' := .int) (by decide) (by decide)))
  have O13 := own_ext_wr O11 W13 Ga
  have K13 := K11.wr W13 (Or.inl (List.mem_of_getElem? (i := 0) rfl))
  have N13 := Fr.snoc X13 N11 Ga
  show Go p e below _ (T13.setTop (mkF m 29 #[.val (.ref a)] []))
  exact Go.outU X13 hx hlk hret (hb hby d1_29) (Q := Q_rmInit Z a w_VALUES k_VALUES w_NEW w_CHANGED w_UNCHANGED w_CANCELLED h0) (by rw [e13]; exact ⟨b5, k5, rfl, N13, O13, K13, Fw7_h14, V_b5_h14, g_b5, sz_b5, ne_a_b5, Frj_h14, Fw13, Fw9_h14⟩) (by decide) (by decide)
theorem ef_rmOrd (m : MethodId) (x0 : Addr) : entryFrame m #[(.ref x0)] 1 = mkF m 0 #[.val (.ref x0)] [] := by first | (simp [entryFrame, mkF, argsToLocals, Value.category]; done) | rfl
def Q_rmOrd (Z : State) (a : Addr) (r : Int32) (h0 : Heap) (v : Option Value) (h : Heap) (L : List Loc) : Prop := v = some (.int r) ∧ L = [] ∧ h = h0
theorem pn_java_lang_Enum : plainName "java/lang/Enum" = true := by first | (simp [plainName, overriddenIn]; done) | decide +kernel
theorem d8_0 : decode jdk_37_method_2_code 0 = .ok (.aload_n 0, 1) := by decide +kernel
theorem d8_1 : decode jdk_37_method_2_code 1 = .ok (.getfield 7, 3) := by decide +kernel
theorem d8_4 : decode jdk_37_method_2_code 4 = .ok (.ireturn, 1) := by decide +kernel
set_option maxRecDepth 65536 in
set_option maxHeartbeats 40000000 in
theorem rmOrd (l : Launch) (Z : State) (a0 : Array Value) (hw : ∀ d ∈ tables_1, d.before a0 Z = true) (ws : List Jvm.Cond) (a : Addr) (r : Int32) (h0 : Heap) (O0 : Ext Z.heap h0) (Fo : Fld Z Z.heap a "java/lang/Enum" "ordinal" "I" (.int r)) :
    MetFree l (⟨"java/lang/Enum", "ordinal", "()I"⟩ : MethodName) (head1 (Jvm.Cond.code (⟨"java/lang/Enum", "ordinal", "()I"⟩ : MethodName) jdk_37_method_2_code 1 (some .int) :: ws) ({ frames := 0, cells := 0, slots := 0, locals := 0 } : Room)) (fun av' U => av' = #[(.ref a)] ∧ Z.Warmed39 U.vm ∧ U.heap = h0) (fun _ _ _ _ _ => True) (fun _ U o U' => ∃ v L, o = .returned v ∧ Q_rmOrd Z a r h0 v U'.heap L ∧ FrameEnd U o U' L ({ frames := 0, cells := 0, slots := 0, locals := 0 } : Room).cells ({ frames := 0, cells := 0, slots := 0, locals := 0 } : Room).slots) := by
  refine MetFree.of_bodySF (plainFor_of_name pn_java_lang_Enum) hisR ?_
  intro p e s m args below meth c s₁ Bd hml0 hP hK
  obtain ⟨rfl, hZ, hh⟩ := hP
  have hx := Bd.exec
  have hby := Bd.bytes
  have hret := Bd.returns
  have hlk : meth.locks = false := Bd.notSynchronized
  have hml : c.maxLocals = 1 := hml0
  have hown : s.vm.findClass "java/lang/Enum" = some m.cls := findClass_of_methodNamed Bd.named
  have hnm := (name_of_methodNamed Bd.named Bd.method).1
  have X0 : Stand p l e ({ frames := 0, cells := 0, slots := 0, locals := 0 } : Room) s m #[(.ref a)] below meth c s₁ [] 0 0 := Stand.of_body Bd
  -- the walk
  have e0 : s₁.heap = h0 := by rw [← hh, Bd.state]; rfl
  have N0 := Fr.nil Z.heap.size
  show Go p e below (GO s (Q_rmOrd Z a r h0) ({ frames := 0, cells := 0, slots := 0, locals := 0 } : Room).cells ({ frames := 0, cells := 0, slots := 0, locals := 0 } : Room).slots) (s₁.setTop (entryFrame m #[(.ref a)] 1))
  refine Go.st (fun t' k' => castTop (ef_rmOrd m a) k') ?_
  show Go p e below _ (s₁.setTop (mkF m 0 #[.val (.ref a)] []))
  refine Go.st (fun t' k' => XS.aloadN X0.here hx rfl (hb hby d8_0) rfl rfl k') ?_
  show Go p e below _ (s₁.setTop (mkF m 1 #[.val (.ref a)] [(.ref a)]))
  obtain ⟨T1, X1, e1, st1⟩ := getF X0 hx hZ hown (host := "") (Or.inl (hw _ (List.mem_of_getElem? (i := 67) rfl))) Via.refl e0 (Fo.ext O0) (g := (mkF m 1 #[.val (.ref a)] [(.ref a)])) rfl rfl (hb hby d8_1)
  refine Go.st st1 ?_
  show Go p e below _ (T1.setTop (mkF m 4 #[.val (.ref a)] [(.int r)]))
  exact Go.outI X1 hx hlk hret (hb hby d8_4) (Q := Q_rmOrd Z a r h0) (by rw [e1]; exact ⟨rfl, rfl, rfl⟩) (by decide) (by decide)
theorem ef_rmCount (m : MethodId) (x0 : Addr) (x1 : Addr) : entryFrame m #[(.ref x0), (.ref x1)] 2 = mkF m 0 #[.val (.ref x0), .val (.ref x1)] [] := by first | (simp [entryFrame, mkF, argsToLocals, Value.category]; done) | rfl
def Q_rmCount (Z : State) (a : Addr) (oc : Addr) (b : Addr) (kb : ClassId) (c0 : Int64) (c1 : Int64) (c2 : Int64) (c3 : Int64) (r : Int32) (h0 : Heap) (v : Option Value) (h : Heap) (L : List Loc) : Prop := v = none ∧ Fr Z.heap.size L ∧ Ext Z.heap h ∧ Keep h0 h [b] ∧ Arv Z h b kb .long (4 : Int32) [(.long (own_bump r 0 c0)), (.long (own_bump r 1 c1)), (.long (own_bump r 2 c2)), (.long (own_bump r 3 c3))] (.long (0 : Int64))
theorem d7_0 : decode prog_4_method_4_code 0 = .ok (.aload_n 0, 1) := by decide +kernel
theorem d7_1 : decode prog_4_method_4_code 1 = .ok (.getfield 13, 3) := by decide +kernel
theorem d7_4 : decode prog_4_method_4_code 4 = .ok (.aload_n 1, 1) := by decide +kernel
theorem d7_5 : decode prog_4_method_4_code 5 = .ok (.invokevirtual 59, 3) := by decide +kernel
theorem pd___I : parseMethodDescriptor "()I" = some ⟨[], some .int⟩ := by decide +kernel
theorem d7_8 : decode prog_4_method_4_code 8 = .ok (.dup2, 1) := by decide +kernel
theorem d7_9 : decode prog_4_method_4_code 9 = .ok (.laload, 1) := by decide +kernel
theorem d7_10 : decode prog_4_method_4_code 10 = .ok (.lconst 1, 1) := by decide +kernel
theorem d7_11 : decode prog_4_method_4_code 11 = .ok (.ladd, 1) := by decide +kernel
theorem d7_12 : decode prog_4_method_4_code 12 = .ok (.lastore, 1) := by decide +kernel
theorem d7_13 : decode prog_4_method_4_code 13 = .ok (.return_, 1) := by decide +kernel
set_option maxRecDepth 65536 in
set_option maxHeartbeats 40000000 in
theorem rmCount (l : Launch) (Z : State) (a0 : Array Value) (hw : ∀ d ∈ tables_1, d.before a0 Z = true) (ws : List Jvm.Cond) (a : Addr) (oc : Addr) (b : Addr) (kb : ClassId) (c0 : Int64) (c1 : Int64) (c2 : Int64) (c3 : Int64) (r : Int32) (h0 : Heap) (O0 : Ext Z.heap h0) (Fc : Fld Z h0 a "com/example/kertyma/kertyma/LoadCounts" "counts" "[J" (.ref b)) (Vb : Arv Z h0 b kb .long (4 : Int32) [(.long c0), (.long c1), (.long c2), (.long c3)] (.long (0 : Int64))) (Eo : Exa Z Z.heap oc "com/example/kertyma/kertyma/RowOutcome") (Fo : Fld Z Z.heap oc "java/lang/Enum" "ordinal" "I" (.int r)) (hr : r = 0 ∨ r = 1 ∨ r = 2 ∨ r = 3) (Gb : Z.heap.size ≤ b) (Nab : a ≠ b) :
    MetFree l (⟨"com/example/kertyma/kertyma/LoadCounts", "count", "(Lcom/example/kertyma/kertyma/RowOutcome;)V"⟩ : MethodName) (head1 (Jvm.Cond.code (⟨"com/example/kertyma/kertyma/LoadCounts", "count", "(Lcom/example/kertyma/kertyma/RowOutcome;)V"⟩ : MethodName) prog_4_method_4_code 2 none :: ws) ({ frames := 1, cells := 0, slots := 0, locals := 16 } : Room)) (fun av' U => av' = #[(.ref a), (.ref oc)] ∧ Z.Warmed39 U.vm ∧ U.heap = h0) (fun _ _ _ _ _ => True) (fun _ U o U' => ∃ v L, o = .returned v ∧ Q_rmCount Z a oc b kb c0 c1 c2 c3 r h0 v U'.heap L ∧ FrameEnd U o U' L ({ frames := 1, cells := 0, slots := 0, locals := 16 } : Room).cells ({ frames := 1, cells := 0, slots := 0, locals := 16 } : Room).slots) := by
  refine MetFree.of_bodySF (plainFor_of_name pn_com_example_kertyma_kertyma_LoadCounts) hisR ?_
  intro p e s m args below meth c s₁ Bd hml0 hP hK
  obtain ⟨rfl, hZ, hh⟩ := hP
  have hx := Bd.exec
  have hby := Bd.bytes
  have hret := Bd.returns
  have hlk : meth.locks = false := Bd.notSynchronized
  have hml : c.maxLocals = 2 := hml0
  have hown : s.vm.findClass "com/example/kertyma/kertyma/LoadCounts" = some m.cls := findClass_of_methodNamed Bd.named
  have hnm := (name_of_methodNamed Bd.named Bd.method).1
  have X0 : Stand p l e ({ frames := 1, cells := 0, slots := 0, locals := 16 } : Room) s m #[(.ref a), (.ref oc)] below meth c s₁ [] 0 0 := Stand.of_body Bd
  -- the walk
  have e0 : s₁.heap = h0 := by rw [← hh, Bd.state]; rfl
  have N0 := Fr.nil Z.heap.size
  have K0 := Keep.refl h0 [b]
  show Go p e below (GO s (Q_rmCount Z a oc b kb c0 c1 c2 c3 r h0) ({ frames := 1, cells := 0, slots := 0, locals := 16 } : Room).cells ({ frames := 1, cells := 0, slots := 0, locals := 16 } : Room).slots) (s₁.setTop (entryFrame m #[(.ref a), (.ref oc)] 2))
  refine Go.st (fun t' k' => castTop (ef_rmCount m a oc) k') ?_
  show Go p e below _ (s₁.setTop (mkF m 0 #[.val (.ref a), .val (.ref oc)] []))
  refine Go.st (fun t' k' => XS.aloadN X0.here hx rfl (hb hby d7_0) rfl rfl k') ?_
  show Go p e below _ (s₁.setTop (mkF m 1 #[.val (.ref a), .val (.ref oc)] [(.ref a)]))
  obtain ⟨T1, X1, e1, st1⟩ := getF X0 hx hZ hown (host := "") (Or.inl (hw _ (List.mem_of_getElem? (i := 30) rfl))) Via.refl e0 Fc (g := (mkF m 1 #[.val (.ref a), .val (.ref oc)] [(.ref a)])) rfl rfl (hb hby d7_1)
  refine Go.st st1 ?_
  show Go p e below _ (T1.setTop (mkF m 4 #[.val (.ref a), .val (.ref oc)] [(.ref b)]))
  refine Go.st (fun t' k' => XS.aloadN X1.here hx rfl (hb hby d7_4) rfl rfl k') ?_
  show Go p e below _ (T1.setTop (mkF m 5 #[.val (.ref a), .val (.ref oc)] [(.ref oc), (.ref b)]))
  obtain ⟨cq2, kq2, q2a, q2b, q2c⟩ := isOf hZ e1 (Eo.ext O0)
  obtain ⟨_, _, ⟨T2, L2, k2, n2⟩, -, X2, ⟨Lc2, hQ2, l2, y2, z2⟩, st2⟩ := X1.virtualBackUp hx (x := (⟨"com/example/kertyma/kertyma/RowOutcome", "ordinal", "()I"⟩ : MethodName)) (y := (⟨"java/lang/Enum", "ordinal", "()I"⟩ : MethodName)) hown (mvT hZ (hw _ (List.mem_of_getElem? (i := 60) rfl))) (mvT hZ (hw _ (List.mem_of_getElem? (i := 61) rfl))) (mvT hZ (hw _ (List.mem_of_getElem? (i := 62) rfl))) (by decide) (mvT hZ (hw _ (List.mem_of_getElem? (i := 64) rfl))) (mvT hZ (hw _ (List.mem_of_getElem? (i := 63) rfl))) (backOf (W := 1) (rmOrd l Z a0 hw [] oc r h0 O0 Fo) hZ (hw _ (List.mem_of_getElem? (i := 66) rfl)) (hw _ (List.mem_of_getElem? (i := 65) rfl)) (by decide) (by decide)) q2a q2c (g := (mkF m 5 #[.val (.ref a), .val (.ref oc)] [(.ref oc), (.ref b)])) rfl (by rw [hml]; rfl) (Steps.refl _) (argsL := []) (rest := [(.ref b)]) (lenOf pd___I rfl) rfl (by show 2 * 0 + _ ≤ _; exact Nat.le_of_eq rfl) (hb hby d7_5) (fun _ _ => ⟨rfl, e1, (by decide : 0 + 0 ≤ _), (by decide : 0 + 0 ≤ _)⟩)
  dsimp only [Pt.U, Pt.locs, Pt.cells, Pt.slots] at X2 l2 y2 z2 st2 hQ2
  subst l2 y2 z2
  obtain ⟨rfl, rfl, e2⟩ := hQ2
  have N2 := Fr.app N0 (Fr.nil _)
  refine Go.tr st2 ?_
  show Go p e below _ (T2.setTop (mkF m 8 #[.val (.ref a), .val (.ref oc)] [(.int r), (.ref b)]))
  refine Go.st (fun t' k' => Jvm.Free.XT.dup2 X2.here hx rfl (hb hby d7_8) rfl rfl rfl k') ?_
  show Go p e below _ (T2.setTop (mkF m 9 #[.val (.ref a), .val (.ref oc)] [(.int r), (.ref b), (.int r), (.ref b)]))
  obtain ⟨cla3, Ara3, qa3, Sza3, Nza3, Hsa3, Gsa3⟩ := (id Vb)
  have hina3 : ¬ (r < 0 ∨ cla3.slots.size ≤ (r).toNatClampNeg) := inb_of Sza3 (own_r_in hr)
  have hata3 : cla3.slots[(r).toNatClampNeg]? = some (.long (own_sel r c0 c1 c2 c3)) := Has.at Hsa3 hina3 (own_sel_get hr c0 c1 c2 c3)
  refine Go.st (X2.laload hx (j := r) (v := (.long (own_sel r c0 c1 c2 c3))) (by rw [e2]; exact Ara3.1) (State.isArrayOf_alike hZ.alike Ara3.2.1) Ara3.2.2 hina3 hata3 (g := (mkF m 9 #[.val (.ref a), .val (.ref oc)] [(.int r), (.ref b), (.int r), (.ref b)])) rfl rfl (hb hby d7_9)) ?_
  show Go p e below _ (T2.setTop (mkF m 10 #[.val (.ref a), .val (.ref oc)] [(.long (own_sel r c0 c1 c2 c3)), (.int r), (.ref b)]))
  refine Go.st (fun t' k' => XS.lconst X2.here hx rfl (hb hby d7_10) k') ?_
  show Go p e below _ (T2.setTop (mkF m 11 #[.val (.ref a), .val (.ref oc)] [(.long (1 : Int64)), (.long (own_sel r c0 c1 c2 c3)), (.int r), (.ref b)]))
  refine Go.st (fun t' k' => XS.ladd X2.here hx rfl (hb hby d7_11) rfl k') ?_
  show Go p e below _ (T2.setTop (mkF m 12 #[.val (.ref a), .val (.ref oc)] [(.long ((own_sel r c0 c1 c2 c3) + (1 : Int64))), (.int r), (.ref b)]))
  obtain ⟨cls4, Ars4, qs4, Szs4, Nzs4, Hss4, Gss4⟩ := (id Vb)
  have hins4 : ¬ (r < 0 ∨ cls4.slots.size ≤ (r).toNatClampNeg) := inb_of Szs4 (own_r_in hr)
  obtain ⟨T5, h5, X5, e5, W5, st5⟩ := stJ X2 hx hZ e2 Ars4 (j := r) hins4 (g := (mkF m 12 #[.val (.ref a), .val (.ref oc)] [(.long ((own_sel r c0 c1 c2 c3) + (1 : Int64))), (.int r), (.ref b)])) rfl rfl (hb hby d7_12)
  refine Go.st st5 ?_
  have V_b_5 : Arv Z h5 b kb .long (4 : Int32) [(.long (own_bump r 0 c0)), (.long (own_bump r 1 c1)), (.long (own_bump r 2 c2)), (.long (own_bump r 3 c3))] (.long (0 : Int64)) := (by have q := (Arv.set Ars4 qs4 Szs4 Nzs4 Hss4 Gss4 rfl W5 r.toNatClampNeg rfl (own_r_len hr)); rw [own_bump_eq hr c0 c1 c2 c3] at q; exact q)
  have Fc_h6 := Fc.other W5 (Or.inl Nab)
  have O5 := own_ext_wr O0 W5 Gb
  have K5 := K0.wr W5 (Or.inl (List.mem_of_getElem? (i := 0) rfl))
  have N5 := Fr.snoc X5 N2 Gb
  show Go p e below _ (T5.setTop (mkF m 13 #[.val (.ref a), .val (.ref oc)] []))
  exact Go.outU X5 hx hlk hret (hb hby d7_13) (Q := Q_rmCount Z a oc b kb c0 c1 c2 c3 r h0) (by rw [e5]; exact ⟨rfl, N5, O5, K5, V_b_5⟩) (by decide) (by decide)
theorem ef_rmTotal (m : MethodId) (x0 : Addr) : entryFrame m #[(.ref x0)] 8 = mkF m 0 #[.val (.ref x0), .unset, .unset, .unset, .unset, .unset, .unset, .unset] [] := by first | (simp [entryFrame, mkF, argsToLocals, Value.category]; done) | rfl
def Q_rmTotal (Z : State) (a : Addr) (b : Addr) (kb : ClassId) (c0 : Int64) (c1 : Int64) (c2 : Int64) (c3 : Int64) (h0 : Heap) (v : Option Value) (h : Heap) (L : List Loc) : Prop := v = some (.long (((((0 : Int64) + c0) + c1) + c2) + c3)) ∧ L = [] ∧ h = h0
theorem d5_0 : decode prog_4_method_7_code 0 = .ok (.lconst 0, 1) := by decide +kernel
theorem d5_1 : decode prog_4_method_7_code 1 = .ok (.lstore_n 1, 1) := by decide +kernel
theorem d5_2 : decode prog_4_method_7_code 2 = .ok (.aload_n 0, 1) := by decide +kernel
theorem d5_3 : decode prog_4_method_7_code 3 = .ok (.getfield 13, 3) := by decide +kernel
theorem d5_6 : decode prog_4_method_7_code 6 = .ok (.astore_n 3, 1) := by decide +kernel
theorem d5_7 : decode prog_4_method_7_code 7 = .ok (.aload_n 3, 1) := by decide +kernel
theorem d5_8 : decode prog_4_method_7_code 8 = .ok (.arraylength, 1) := by decide +kernel
theorem d5_9 : decode prog_4_method_7_code 9 = .ok (.istore 4, 2) := by decide +kernel
theorem d5_11 : decode prog_4_method_7_code 11 = .ok (.iconst 0, 1) := by decide +kernel
theorem d5_12 : decode prog_4_method_7_code 12 = .ok (.istore 5, 2) := by decide +kernel
theorem d5_14 : decode prog_4_method_7_code 14 = .ok (.iload 5, 2) := by decide +kernel
theorem d5_16 : decode prog_4_method_7_code 16 = .ok (.iload 4, 2) := by decide +kernel
theorem d5_18 : decode prog_4_method_7_code 18 = .ok (.if_icmp .ge 20, 3) := by decide +kernel
theorem d5_21 : decode prog_4_method_7_code 21 = .ok (.aload_n 3, 1) := by decide +kernel
theorem d5_22 : decode prog_4_method_7_code 22 = .ok (.iload 5, 2) := by decide +kernel
theorem d5_24 : decode prog_4_method_7_code 24 = .ok (.laload, 1) := by decide +kernel
theorem d5_25 : decode prog_4_method_7_code 25 = .ok (.lstore 6, 2) := by decide +kernel
theorem d5_27 : decode prog_4_method_7_code 27 = .ok (.lload_n 1, 1) := by decide +kernel
theorem d5_28 : decode prog_4_method_7_code 28 = .ok (.lload 6, 2) := by decide +kernel
theorem d5_30 : decode prog_4_method_7_code 30 = .ok (.ladd, 1) := by decide +kernel
theorem d5_31 : decode prog_4_method_7_code 31 = .ok (.lstore_n 1, 1) := by decide +kernel
theorem d5_32 : decode prog_4_method_7_code 32 = .ok (.iinc 5 1, 3) := by decide +kernel
theorem d5_35 : decode prog_4_method_7_code 35 = .ok (.goto (-21), 3) := by decide +kernel
theorem d5_38 : decode prog_4_method_7_code 38 = .ok (.lload_n 1, 1) := by decide +kernel
theorem d5_39 : decode prog_4_method_7_code 39 = .ok (.lreturn, 1) := by decide +kernel
set_option maxRecDepth 65536 in
set_option maxHeartbeats 40000000 in
theorem rmTotal (l : Launch) (Z : State) (a0 : Array Value) (hw : ∀ d ∈ tables_1, d.before a0 Z = true) (ws : List Jvm.Cond) (a : Addr) (b : Addr) (kb : ClassId) (c0 : Int64) (c1 : Int64) (c2 : Int64) (c3 : Int64) (h0 : Heap) (O0 : Ext Z.heap h0) (Fc : Fld Z h0 a "com/example/kertyma/kertyma/LoadCounts" "counts" "[J" (.ref b)) (Vb : Arv Z h0 b kb .long (4 : Int32) [(.long c0), (.long c1), (.long c2), (.long c3)] (.long (0 : Int64))) :
    MetFree l (⟨"com/example/kertyma/kertyma/LoadCounts", "total", "()J"⟩ : MethodName) (head1 (Jvm.Cond.code (⟨"com/example/kertyma/kertyma/LoadCounts", "total", "()J"⟩ : MethodName) prog_4_method_7_code 8 (some .long) :: ws) ({ frames := 0, cells := 0, slots := 0, locals := 0 } : Room)) (fun av' U => av' = #[(.ref a)] ∧ Z.Warmed39 U.vm ∧ U.heap = h0) (fun _ _ _ _ _ => True) (fun _ U o U' => ∃ v L, o = .returned v ∧ Q_rmTotal Z a b kb c0 c1 c2 c3 h0 v U'.heap L ∧ FrameEnd U o U' L ({ frames := 0, cells := 0, slots := 0, locals := 0 } : Room).cells ({ frames := 0, cells := 0, slots := 0, locals := 0 } : Room).slots) := by
  refine MetFree.of_bodySF (plainFor_of_name pn_com_example_kertyma_kertyma_LoadCounts) hisR ?_
  intro p e s m args below meth c s₁ Bd hml0 hP hK
  obtain ⟨rfl, hZ, hh⟩ := hP
  have hx := Bd.exec
  have hby := Bd.bytes
  have hret := Bd.returns
  have hlk : meth.locks = false := Bd.notSynchronized
  have hml : c.maxLocals = 8 := hml0
  have hown : s.vm.findClass "com/example/kertyma/kertyma/LoadCounts" = some m.cls := findClass_of_methodNamed Bd.named
  have hnm := (name_of_methodNamed Bd.named Bd.method).1
  have X0 : Stand p l e ({ frames := 0, cells := 0, slots := 0, locals := 0 } : Room) s m #[(.ref a)] below meth c s₁ [] 0 0 := Stand.of_body Bd
  -- the walk
  have e0 : s₁.heap = h0 := by rw [← hh, Bd.state]; rfl
  have N0 := Fr.nil Z.heap.size
  show Go p e below (GO s (Q_rmTotal Z a b kb c0 c1 c2 c3 h0) ({ frames := 0, cells := 0, slots := 0, locals := 0 } : Room).cells ({ frames := 0, cells := 0, slots := 0, locals := 0 } : Room).slots) (s₁.setTop (entryFrame m #[(.ref a)] 8))
  refine Go.st (fun t' k' => castTop (ef_rmTotal m a) k') ?_
  show Go p e below _ (s₁.setTop (mkF m 0 #[.val (.ref a), .unset, .unset, .unset, .unset, .unset, .unset, .unset] []))
  refine Go.st (fun t' k' => XS.lconst X0.here hx rfl (hb hby d5_0) k') ?_
  show Go p e below _ (s₁.setTop (mkF m 1 #[.val (.ref a), .unset, .unset, .unset, .unset, .unset, .unset, .unset] [(.long (0 : Int64))]))
  refine Go.st (fun t' k' => XS.lstoreN X0.here hx rfl (hb hby d5_1) rfl (l' := #[.val (.ref a), .val (.long (0 : Int64)), .second, .unset, .unset, .unset, .unset, .unset]) rfl k') ?_
  show Go p e below _ (s₁.setTop (mkF m 2 #[.val (.ref a), .val (.long (0 : Int64)), .second, .unset, .unset, .unset, .unset, .unset] []))
  refine Go.st (fun t' k' => XS.aloadN X0.here hx rfl (hb hby d5_2) rfl rfl k') ?_
  show Go p e below _ (s₁.setTop (mkF m 3 #[.val (.ref a), .val (.long (0 : Int64)), .second, .unset, .unset, .unset, .unset, .unset] [(.ref a)]))
  obtain ⟨T1, X1, e1, st1⟩ := getF X0 hx hZ hown (host := "") (Or.inl (hw _ (List.mem_of_getElem? (i := 30) rfl))) Via.refl e0 Fc (g := (mkF m 3 #[.val (.ref a), .val (.long (0 : Int64)), .second, .unset, .unset, .unset, .unset, .unset] [(.ref a)])) rfl rfl (hb hby d5_3)
  refine Go.st st1 ?_
  show Go p e below _ (T1.setTop (mkF m 6 #[.val (.ref a), .val (.long (0 : Int64)), .second, .unset, .unset, .unset, .unset, .unset] [(.ref b)]))
  refine Go.st (fun t' k' => XS.astoreN X1.here hx rfl (hb hby d5_6) rfl rfl (l' := #[.val (.ref a), .val (.long (0 : Int64)), .second, .val (.ref b), .unset, .unset, .unset, .unset]) rfl k') ?_
  show Go p e below _ (T1.setTop (mkF m 7 #[.val (.ref a), .val (.long (0 : Int64)), .second, .val (.ref b), .unset, .unset, .unset, .unset] []))
  refine Go.st (fun t' k' => XS.aloadN X1.here hx rfl (hb hby d5_7) rfl rfl k') ?_
  show Go p e below _ (T1.setTop (mkF m 8 #[.val (.ref a), .val (.long (0 : Int64)), .second, .val (.ref b), .unset, .unset, .unset, .unset] [(.ref b)]))
  obtain ⟨cll2, Arl2, ql2, Szl2, Nzl2, Hsl2, Gsl2⟩ := (id Vb)
  refine Go.st (X1.arraylength hx (by rw [e1]; exact Arl2.1) (State.isArrayOf_alike hZ.alike Arl2.2.1) (g := (mkF m 8 #[.val (.ref a), .val (.long (0 : Int64)), .second, .val (.ref b), .unset, .unset, .unset, .unset] [(.ref b)])) rfl rfl (hb hby d5_8)) ?_
  rw [len_of Szl2 Nzl2]
  show Go p e below _ (T1.setTop (mkF m 9 #[.val (.ref a), .val (.long (0 : Int64)), .second, .val (.ref b), .unset, .unset, .unset, .unset] [(.int (4 : Int32))]))
  refine Go.st (fun t' k' => XS.istore X1.here hx rfl (hb hby d5_9) rfl (l' := #[.val (.ref a), .val (.long (0 : Int64)), .second, .val (.ref b), .val (.int (4 : Int32)), .unset, .unset, .unset]) rfl k') ?_
  show Go p e below _ (T1.setTop (mkF m 11 #[.val (.ref a), .val (.long (0 : Int64)), .second, .val (.ref b), .val (.int (4 : Int32)), .unset, .unset, .unset] []))
  refine Go.st (fun t' k' => XS.iconst X1.here hx rfl (hb hby d5_11) k') ?_
  show Go p e below _ (T1.setTop (mkF m 12 #[.val (.ref a), .val (.long (0 : Int64)), .second, .val (.ref b), .val (.int (4 : Int32)), .unset, .unset, .unset] [(.int (0 : Int32))]))
  refine Go.st (fun t' k' => XS.istore X1.here hx rfl (hb hby d5_12) rfl (l' := #[.val (.ref a), .val (.long (0 : Int64)), .second, .val (.ref b), .val (.int (4 : Int32)), .val (.int (0 : Int32)), .unset, .unset]) rfl k') ?_
  show Go p e below _ (T1.setTop (mkF m 14 #[.val (.ref a), .val (.long (0 : Int64)), .second, .val (.ref b), .val (.int (4 : Int32)), .val (.int (0 : Int32)), .unset, .unset] []))
  refine Go.st (fun t' k' => XS.iload X1.here hx rfl (hb hby d5_14) rfl k') ?_
  show Go p e below _ (T1.setTop (mkF m 16 #[.val (.ref a), .val (.long (0 : Int64)), .second, .val (.ref b), .val (.int (4 : Int32)), .val (.int (0 : Int32)), .unset, .unset] [(.int (0 : Int32))]))
  refine Go.st (fun t' k' => XS.iload X1.here hx rfl (hb hby d5_16) rfl k') ?_
  show Go p e below _ (T1.setTop (mkF m 18 #[.val (.ref a), .val (.long (0 : Int64)), .second, .val (.ref b), .val (.int (4 : Int32)), .val (.int (0 : Int32)), .unset, .unset] [(.int (4 : Int32)), (.int (0 : Int32))]))
  refine Go.st (fun t' k' => XS.icmpNo X1.here hx rfl (hb hby d5_18) rfl (tlt (by decide : (0 : Int32) < (4 : Int32))).2.1 k') ?_
  show Go p e below _ (T1.setTop (mkF m 21 #[.val (.ref a), .val (.long (0 : Int64)), .second, .val (.ref b), .val (.int (4 : Int32)), .val (.int (0 : Int32)), .unset, .unset] []))
  refine Go.st (fun t' k' => XS.aloadN X1.here hx rfl (hb hby d5_21) rfl rfl k') ?_
  show Go p e below _ (T1.setTop (mkF m 22 #[.val (.ref a), .val (.long (0 : Int64)), .second, .val (.ref b), .val (.int (4 : Int32)), .val (.int (0 : Int32)), .unset, .unset] [(.ref b)]))
  refine Go.st (fun t' k' => XS.iload X1.here hx rfl (hb hby d5_22) rfl k') ?_
  show Go p e below _ (T1.setTop (mkF m 24 #[.val (.ref a), .val (.long (0 : Int64)), .second, .val (.ref b), .val (.int (4 : Int32)), .val (.int (0 : Int32)), .unset, .unset] [(.int (0 : Int32)), (.ref b)]))
  obtain ⟨cla3, Ara3, qa3, Sza3, Nza3, Hsa3, Gsa3⟩ := (id Vb)
  have hina3 : ¬ ((0 : Int32) < 0 ∨ cla3.slots.size ≤ ((0 : Int32)).toNatClampNeg) := inb_of Sza3 ⟨by decide, by decide⟩
  have hata3 : cla3.slots[((0 : Int32)).toNatClampNeg]? = some (.long c0) := Has.at Hsa3 hina3 rfl
  refine Go.st (X1.laload hx (j := (0 : Int32)) (v := (.long c0)) (by rw [e1]; exact Ara3.1) (State.isArrayOf_alike hZ.alike Ara3.2.1) Ara3.2.2 hina3 hata3 (g := (mkF m 24 #[.val (.ref a), .val (.long (0 : Int64)), .second, .val (.ref b), .val (.int (4 : Int32)), .val (.int (0 : Int32)), .unset, .unset] [(.int (0 : Int32)), (.ref b)])) rfl rfl (hb hby d5_24)) ?_
  show Go p e below _ (T1.setTop (mkF m 25 #[.val (.ref a), .val (.long (0 : Int64)), .second, .val (.ref b), .val (.int (4 : Int32)), .val (.int (0 : Int32)), .unset, .unset] [(.long c0)]))
  refine Go.st (fun t' k' => XS.lstore X1.here hx rfl (hb hby d5_25) rfl (l' := #[.val (.ref a), .val (.long (0 : Int64)), .second, .val (.ref b), .val (.int (4 : Int32)), .val (.int (0 : Int32)), .val (.long c0), .second]) rfl k') ?_
  show Go p e below _ (T1.setTop (mkF m 27 #[.val (.ref a), .val (.long (0 : Int64)), .second, .val (.ref b), .val (.int (4 : Int32)), .val (.int (0 : Int32)), .val (.long c0), .second] []))
  refine Go.st (fun t' k' => XS.lloadN X1.here hx rfl (hb hby d5_27) rfl k') ?_
  show Go p e below _ (T1.setTop (mkF m 28 #[.val (.ref a), .val (.long (0 : Int64)), .second, .val (.ref b), .val (.int (4 : Int32)), .val (.int (0 : Int32)), .val (.long c0), .second] [(.long (0 : Int64))]))
  refine Go.st (fun t' k' => XS.lload X1.here hx rfl (hb hby d5_28) rfl k') ?_
  show Go p e below _ (T1.setTop (mkF m 30 #[.val (.ref a), .val (.long (0 : Int64)), .second, .val (.ref b), .val (.int (4 : Int32)), .val (.int (0 : Int32)), .val (.long c0), .second] [(.long c0), (.long (0 : Int64))]))
  refine Go.st (fun t' k' => XS.ladd X1.here hx rfl (hb hby d5_30) rfl k') ?_
  show Go p e below _ (T1.setTop (mkF m 31 #[.val (.ref a), .val (.long (0 : Int64)), .second, .val (.ref b), .val (.int (4 : Int32)), .val (.int (0 : Int32)), .val (.long c0), .second] [(.long ((0 : Int64) + c0))]))
  refine Go.st (fun t' k' => XS.lstoreN X1.here hx rfl (hb hby d5_31) rfl (l' := #[.val (.ref a), .val (.long ((0 : Int64) + c0)), .second, .val (.ref b), .val (.int (4 : Int32)), .val (.int (0 : Int32)), .val (.long c0), .second]) rfl k') ?_
  show Go p e below _ (T1.setTop (mkF m 32 #[.val (.ref a), .val (.long ((0 : Int64) + c0)), .second, .val (.ref b), .val (.int (4 : Int32)), .val (.int (0 : Int32)), .val (.long c0), .second] []))
  refine Go.st (fun t' k' => XS.iinc X1.here hx rfl (hb hby d5_32) rfl (l' := #[.val (.ref a), .val (.long ((0 : Int64) + c0)), .second, .val (.ref b), .val (.int (4 : Int32)), .val (.int (1 : Int32)), .val (.long c0), .second]) rfl k') ?_
  show Go p e below _ (T1.setTop (mkF m 35 #[.val (.ref a), .val (.long ((0 : Int64) + c0)), .second, .val (.ref b), .val (.int (4 : Int32)), .val (.int (1 : Int32)), .val (.long c0), .second] []))
  refine Go.st (fun t' k' => XS.goto X1.here hx rfl (pc0 := 35) (pc' := 14) rfl (hb hby d5_35) (by decide) (by decide) k') ?_
  show Go p e below _ (T1.setTop (mkF m 14 #[.val (.ref a), .val (.long ((0 : Int64) + c0)), .second, .val (.ref b), .val (.int (4 : Int32)), .val (.int (1 : Int32)), .val (.long c0), .second] []))
  refine Go.st (fun t' k' => XS.iload X1.here hx rfl (hb hby d5_14) rfl k') ?_
  show Go p e below _ (T1.setTop (mkF m 16 #[.val (.ref a), .val (.long ((0 : Int64) + c0)), .second, .val (.ref b), .val (.int (4 : Int32)), .val (.int (1 : Int32)), .val (.long c0), .second] [(.int (1 : Int32))]))
  refine Go.st (fun t' k' => XS.iload X1.here hx rfl (hb hby d5_16) rfl k') ?_
  show Go p e below _ (T1.setTop (mkF m 18 #[.val (.ref a), .val (.long ((0 : Int64) + c0)), .second, .val (.ref b), .val (.int (4 : Int32)), .val (.int (1 : Int32)), .val (.long c0), .second] [(.int (4 : Int32)), (.int (1 : Int32))]))
  refine Go.st (fun t' k' => XS.icmpNo X1.here hx rfl (hb hby d5_18) rfl (tlt (by decide : (1 : Int32) < (4 : Int32))).2.1 k') ?_
  show Go p e below _ (T1.setTop (mkF m 21 #[.val (.ref a), .val (.long ((0 : Int64) + c0)), .second, .val (.ref b), .val (.int (4 : Int32)), .val (.int (1 : Int32)), .val (.long c0), .second] []))
  refine Go.st (fun t' k' => XS.aloadN X1.here hx rfl (hb hby d5_21) rfl rfl k') ?_
  show Go p e below _ (T1.setTop (mkF m 22 #[.val (.ref a), .val (.long ((0 : Int64) + c0)), .second, .val (.ref b), .val (.int (4 : Int32)), .val (.int (1 : Int32)), .val (.long c0), .second] [(.ref b)]))
  refine Go.st (fun t' k' => XS.iload X1.here hx rfl (hb hby d5_22) rfl k') ?_
  show Go p e below _ (T1.setTop (mkF m 24 #[.val (.ref a), .val (.long ((0 : Int64) + c0)), .second, .val (.ref b), .val (.int (4 : Int32)), .val (.int (1 : Int32)), .val (.long c0), .second] [(.int (1 : Int32)), (.ref b)]))
  obtain ⟨cla4, Ara4, qa4, Sza4, Nza4, Hsa4, Gsa4⟩ := (id Vb)
  have hina4 : ¬ ((1 : Int32) < 0 ∨ cla4.slots.size ≤ ((1 : Int32)).toNatClampNeg) := inb_of Sza4 ⟨by decide, by decide⟩
  have hata4 : cla4.slots[((1 : Int32)).toNatClampNeg]? = some (.long c1) := Has.at Hsa4 hina4 rfl
  refine Go.st (X1.laload hx (j := (1 : Int32)) (v := (.long c1)) (by rw [e1]; exact Ara4.1) (State.isArrayOf_alike hZ.alike Ara4.2.1) Ara4.2.2 hina4 hata4 (g := (mkF m 24 #[.val (.ref a), .val (.long ((0 : Int64) + c0)), .second, .val (.ref b), .val (.int (4 : Int32)), .val (.int (1 : Int32)), .val (.long c0), .second] [(.int (1 : Int32)), (.ref b)])) rfl rfl (hb hby d5_24)) ?_
  show Go p e below _ (T1.setTop (mkF m 25 #[.val (.ref a), .val (.long ((0 : Int64) + c0)), .second, .val (.ref b), .val (.int (4 : Int32)), .val (.int (1 : Int32)), .val (.long c0), .second] [(.long c1)]))
  refine Go.st (fun t' k' => XS.lstore X1.here hx rfl (hb hby d5_25) rfl (l' := #[.val (.ref a), .val (.long ((0 : Int64) + c0)), .second, .val (.ref b), .val (.int (4 : Int32)), .val (.int (1 : Int32)), .val (.long c1), .second]) rfl k') ?_
  show Go p e below _ (T1.setTop (mkF m 27 #[.val (.ref a), .val (.long ((0 : Int64) + c0)), .second, .val (.ref b), .val (.int (4 : Int32)), .val (.int (1 : Int32)), .val (.long c1), .second] []))
  refine Go.st (fun t' k' => XS.lloadN X1.here hx rfl (hb hby d5_27) rfl k') ?_
  show Go p e below _ (T1.setTop (mkF m 28 #[.val (.ref a), .val (.long ((0 : Int64) + c0)), .second, .val (.ref b), .val (.int (4 : Int32)), .val (.int (1 : Int32)), .val (.long c1), .second] [(.long ((0 : Int64) + c0))]))
  refine Go.st (fun t' k' => XS.lload X1.here hx rfl (hb hby d5_28) rfl k') ?_
  show Go p e below _ (T1.setTop (mkF m 30 #[.val (.ref a), .val (.long ((0 : Int64) + c0)), .second, .val (.ref b), .val (.int (4 : Int32)), .val (.int (1 : Int32)), .val (.long c1), .second] [(.long c1), (.long ((0 : Int64) + c0))]))
  refine Go.st (fun t' k' => XS.ladd X1.here hx rfl (hb hby d5_30) rfl k') ?_
  show Go p e below _ (T1.setTop (mkF m 31 #[.val (.ref a), .val (.long ((0 : Int64) + c0)), .second, .val (.ref b), .val (.int (4 : Int32)), .val (.int (1 : Int32)), .val (.long c1), .second] [(.long (((0 : Int64) + c0) + c1))]))
  refine Go.st (fun t' k' => XS.lstoreN X1.here hx rfl (hb hby d5_31) rfl (l' := #[.val (.ref a), .val (.long (((0 : Int64) + c0) + c1)), .second, .val (.ref b), .val (.int (4 : Int32)), .val (.int (1 : Int32)), .val (.long c1), .second]) rfl k') ?_
  show Go p e below _ (T1.setTop (mkF m 32 #[.val (.ref a), .val (.long (((0 : Int64) + c0) + c1)), .second, .val (.ref b), .val (.int (4 : Int32)), .val (.int (1 : Int32)), .val (.long c1), .second] []))
  refine Go.st (fun t' k' => XS.iinc X1.here hx rfl (hb hby d5_32) rfl (l' := #[.val (.ref a), .val (.long (((0 : Int64) + c0) + c1)), .second, .val (.ref b), .val (.int (4 : Int32)), .val (.int (2 : Int32)), .val (.long c1), .second]) rfl k') ?_
  show Go p e below _ (T1.setTop (mkF m 35 #[.val (.ref a), .val (.long (((0 : Int64) + c0) + c1)), .second, .val (.ref b), .val (.int (4 : Int32)), .val (.int (2 : Int32)), .val (.long c1), .second] []))
  refine Go.st (fun t' k' => XS.goto X1.here hx rfl (pc0 := 35) (pc' := 14) rfl (hb hby d5_35) (by decide) (by decide) k') ?_
  show Go p e below _ (T1.setTop (mkF m 14 #[.val (.ref a), .val (.long (((0 : Int64) + c0) + c1)), .second, .val (.ref b), .val (.int (4 : Int32)), .val (.int (2 : Int32)), .val (.long c1), .second] []))
  refine Go.st (fun t' k' => XS.iload X1.here hx rfl (hb hby d5_14) rfl k') ?_
  show Go p e below _ (T1.setTop (mkF m 16 #[.val (.ref a), .val (.long (((0 : Int64) + c0) + c1)), .second, .val (.ref b), .val (.int (4 : Int32)), .val (.int (2 : Int32)), .val (.long c1), .second] [(.int (2 : Int32))]))
  refine Go.st (fun t' k' => XS.iload X1.here hx rfl (hb hby d5_16) rfl k') ?_
  show Go p e below _ (T1.setTop (mkF m 18 #[.val (.ref a), .val (.long (((0 : Int64) + c0) + c1)), .second, .val (.ref b), .val (.int (4 : Int32)), .val (.int (2 : Int32)), .val (.long c1), .second] [(.int (4 : Int32)), (.int (2 : Int32))]))
  refine Go.st (fun t' k' => XS.icmpNo X1.here hx rfl (hb hby d5_18) rfl (tlt (by decide : (2 : Int32) < (4 : Int32))).2.1 k') ?_
  show Go p e below _ (T1.setTop (mkF m 21 #[.val (.ref a), .val (.long (((0 : Int64) + c0) + c1)), .second, .val (.ref b), .val (.int (4 : Int32)), .val (.int (2 : Int32)), .val (.long c1), .second] []))
  refine Go.st (fun t' k' => XS.aloadN X1.here hx rfl (hb hby d5_21) rfl rfl k') ?_
  show Go p e below _ (T1.setTop (mkF m 22 #[.val (.ref a), .val (.long (((0 : Int64) + c0) + c1)), .second, .val (.ref b), .val (.int (4 : Int32)), .val (.int (2 : Int32)), .val (.long c1), .second] [(.ref b)]))
  refine Go.st (fun t' k' => XS.iload X1.here hx rfl (hb hby d5_22) rfl k') ?_
  show Go p e below _ (T1.setTop (mkF m 24 #[.val (.ref a), .val (.long (((0 : Int64) + c0) + c1)), .second, .val (.ref b), .val (.int (4 : Int32)), .val (.int (2 : Int32)), .val (.long c1), .second] [(.int (2 : Int32)), (.ref b)]))
  obtain ⟨cla5, Ara5, qa5, Sza5, Nza5, Hsa5, Gsa5⟩ := (id Vb)
  have hina5 : ¬ ((2 : Int32) < 0 ∨ cla5.slots.size ≤ ((2 : Int32)).toNatClampNeg) := inb_of Sza5 ⟨by decide, by decide⟩
  have hata5 : cla5.slots[((2 : Int32)).toNatClampNeg]? = some (.long c2) := Has.at Hsa5 hina5 rfl
  refine Go.st (X1.laload hx (j := (2 : Int32)) (v := (.long c2)) (by rw [e1]; exact Ara5.1) (State.isArrayOf_alike hZ.alike Ara5.2.1) Ara5.2.2 hina5 hata5 (g := (mkF m 24 #[.val (.ref a), .val (.long (((0 : Int64) + c0) + c1)), .second, .val (.ref b), .val (.int (4 : Int32)), .val (.int (2 : Int32)), .val (.long c1), .second] [(.int (2 : Int32)), (.ref b)])) rfl rfl (hb hby d5_24)) ?_
  show Go p e below _ (T1.setTop (mkF m 25 #[.val (.ref a), .val (.long (((0 : Int64) + c0) + c1)), .second, .val (.ref b), .val (.int (4 : Int32)), .val (.int (2 : Int32)), .val (.long c1), .second] [(.long c2)]))
  refine Go.st (fun t' k' => XS.lstore X1.here hx rfl (hb hby d5_25) rfl (l' := #[.val (.ref a), .val (.long (((0 : Int64) + c0) + c1)), .second, .val (.ref b), .val (.int (4 : Int32)), .val (.int (2 : Int32)), .val (.long c2), .second]) rfl k') ?_
  show Go p e below _ (T1.setTop (mkF m 27 #[.val (.ref a), .val (.long (((0 : Int64) + c0) + c1)), .second, .val (.ref b), .val (.int (4 : Int32)), .val (.int (2 : Int32)), .val (.long c2), .second] []))
  refine Go.st (fun t' k' => XS.lloadN X1.here hx rfl (hb hby d5_27) rfl k') ?_
  show Go p e below _ (T1.setTop (mkF m 28 #[.val (.ref a), .val (.long (((0 : Int64) + c0) + c1)), .second, .val (.ref b), .val (.int (4 : Int32)), .val (.int (2 : Int32)), .val (.long c2), .second] [(.long (((0 : Int64) + c0) + c1))]))
  refine Go.st (fun t' k' => XS.lload X1.here hx rfl (hb hby d5_28) rfl k') ?_
  show Go p e below _ (T1.setTop (mkF m 30 #[.val (.ref a), .val (.long (((0 : Int64) + c0) + c1)), .second, .val (.ref b), .val (.int (4 : Int32)), .val (.int (2 : Int32)), .val (.long c2), .second] [(.long c2), (.long (((0 : Int64) + c0) + c1))]))
  refine Go.st (fun t' k' => XS.ladd X1.here hx rfl (hb hby d5_30) rfl k') ?_
  show Go p e below _ (T1.setTop (mkF m 31 #[.val (.ref a), .val (.long (((0 : Int64) + c0) + c1)), .second, .val (.ref b), .val (.int (4 : Int32)), .val (.int (2 : Int32)), .val (.long c2), .second] [(.long ((((0 : Int64) + c0) + c1) + c2))]))
  refine Go.st (fun t' k' => XS.lstoreN X1.here hx rfl (hb hby d5_31) rfl (l' := #[.val (.ref a), .val (.long ((((0 : Int64) + c0) + c1) + c2)), .second, .val (.ref b), .val (.int (4 : Int32)), .val (.int (2 : Int32)), .val (.long c2), .second]) rfl k') ?_
  show Go p e below _ (T1.setTop (mkF m 32 #[.val (.ref a), .val (.long ((((0 : Int64) + c0) + c1) + c2)), .second, .val (.ref b), .val (.int (4 : Int32)), .val (.int (2 : Int32)), .val (.long c2), .second] []))
  refine Go.st (fun t' k' => XS.iinc X1.here hx rfl (hb hby d5_32) rfl (l' := #[.val (.ref a), .val (.long ((((0 : Int64) + c0) + c1) + c2)), .second, .val (.ref b), .val (.int (4 : Int32)), .val (.int (3 : Int32)), .val (.long c2), .second]) rfl k') ?_
  show Go p e below _ (T1.setTop (mkF m 35 #[.val (.ref a), .val (.long ((((0 : Int64) + c0) + c1) + c2)), .second, .val (.ref b), .val (.int (4 : Int32)), .val (.int (3 : Int32)), .val (.long c2), .second] []))
  refine Go.st (fun t' k' => XS.goto X1.here hx rfl (pc0 := 35) (pc' := 14) rfl (hb hby d5_35) (by decide) (by decide) k') ?_
  show Go p e below _ (T1.setTop (mkF m 14 #[.val (.ref a), .val (.long ((((0 : Int64) + c0) + c1) + c2)), .second, .val (.ref b), .val (.int (4 : Int32)), .val (.int (3 : Int32)), .val (.long c2), .second] []))
  refine Go.st (fun t' k' => XS.iload X1.here hx rfl (hb hby d5_14) rfl k') ?_
  show Go p e below _ (T1.setTop (mkF m 16 #[.val (.ref a), .val (.long ((((0 : Int64) + c0) + c1) + c2)), .second, .val (.ref b), .val (.int (4 : Int32)), .val (.int (3 : Int32)), .val (.long c2), .second] [(.int (3 : Int32))]))
  refine Go.st (fun t' k' => XS.iload X1.here hx rfl (hb hby d5_16) rfl k') ?_
  show Go p e below _ (T1.setTop (mkF m 18 #[.val (.ref a), .val (.long ((((0 : Int64) + c0) + c1) + c2)), .second, .val (.ref b), .val (.int (4 : Int32)), .val (.int (3 : Int32)), .val (.long c2), .second] [(.int (4 : Int32)), (.int (3 : Int32))]))
  refine Go.st (fun t' k' => XS.icmpNo X1.here hx rfl (hb hby d5_18) rfl (tlt (by decide : (3 : Int32) < (4 : Int32))).2.1 k') ?_
  show Go p e below _ (T1.setTop (mkF m 21 #[.val (.ref a), .val (.long ((((0 : Int64) + c0) + c1) + c2)), .second, .val (.ref b), .val (.int (4 : Int32)), .val (.int (3 : Int32)), .val (.long c2), .second] []))
  refine Go.st (fun t' k' => XS.aloadN X1.here hx rfl (hb hby d5_21) rfl rfl k') ?_
  show Go p e below _ (T1.setTop (mkF m 22 #[.val (.ref a), .val (.long ((((0 : Int64) + c0) + c1) + c2)), .second, .val (.ref b), .val (.int (4 : Int32)), .val (.int (3 : Int32)), .val (.long c2), .second] [(.ref b)]))
  refine Go.st (fun t' k' => XS.iload X1.here hx rfl (hb hby d5_22) rfl k') ?_
  show Go p e below _ (T1.setTop (mkF m 24 #[.val (.ref a), .val (.long ((((0 : Int64) + c0) + c1) + c2)), .second, .val (.ref b), .val (.int (4 : Int32)), .val (.int (3 : Int32)), .val (.long c2), .second] [(.int (3 : Int32)), (.ref b)]))
  obtain ⟨cla6, Ara6, qa6, Sza6, Nza6, Hsa6, Gsa6⟩ := (id Vb)
  have hina6 : ¬ ((3 : Int32) < 0 ∨ cla6.slots.size ≤ ((3 : Int32)).toNatClampNeg) := inb_of Sza6 ⟨by decide, by decide⟩
  have hata6 : cla6.slots[((3 : Int32)).toNatClampNeg]? = some (.long c3) := Has.at Hsa6 hina6 rfl
  refine Go.st (X1.laload hx (j := (3 : Int32)) (v := (.long c3)) (by rw [e1]; exact Ara6.1) (State.isArrayOf_alike hZ.alike Ara6.2.1) Ara6.2.2 hina6 hata6 (g := (mkF m 24 #[.val (.ref a), .val (.long ((((0 : Int64) + c0) + c1) + c2)), .second, .val (.ref b), .val (.int (4 : Int32)), .val (.int (3 : Int32)), .val (.long c2), .second] [(.int (3 : Int32)), (.ref b)])) rfl rfl (hb hby d5_24)) ?_
  show Go p e below _ (T1.setTop (mkF m 25 #[.val (.ref a), .val (.long ((((0 : Int64) + c0) + c1) + c2)), .second, .val (.ref b), .val (.int (4 : Int32)), .val (.int (3 : Int32)), .val (.long c2), .second] [(.long c3)]))
  refine Go.st (fun t' k' => XS.lstore X1.here hx rfl (hb hby d5_25) rfl (l' := #[.val (.ref a), .val (.long ((((0 : Int64) + c0) + c1) + c2)), .second, .val (.ref b), .val (.int (4 : Int32)), .val (.int (3 : Int32)), .val (.long c3), .second]) rfl k') ?_
  show Go p e below _ (T1.setTop (mkF m 27 #[.val (.ref a), .val (.long ((((0 : Int64) + c0) + c1) + c2)), .second, .val (.ref b), .val (.int (4 : Int32)), .val (.int (3 : Int32)), .val (.long c3), .second] []))
  refine Go.st (fun t' k' => XS.lloadN X1.here hx rfl (hb hby d5_27) rfl k') ?_
  show Go p e below _ (T1.setTop (mkF m 28 #[.val (.ref a), .val (.long ((((0 : Int64) + c0) + c1) + c2)), .second, .val (.ref b), .val (.int (4 : Int32)), .val (.int (3 : Int32)), .val (.long c3), .second] [(.long ((((0 : Int64) + c0) + c1) + c2))]))
  refine Go.st (fun t' k' => XS.lload X1.here hx rfl (hb hby d5_28) rfl k') ?_
  show Go p e below _ (T1.setTop (mkF m 30 #[.val (.ref a), .val (.long ((((0 : Int64) + c0) + c1) + c2)), .second, .val (.ref b), .val (.int (4 : Int32)), .val (.int (3 : Int32)), .val (.long c3), .second] [(.long c3), (.long ((((0 : Int64) + c0) + c1) + c2))]))
  refine Go.st (fun t' k' => XS.ladd X1.here hx rfl (hb hby d5_30) rfl k') ?_
  show Go p e below _ (T1.setTop (mkF m 31 #[.val (.ref a), .val (.long ((((0 : Int64) + c0) + c1) + c2)), .second, .val (.ref b), .val (.int (4 : Int32)), .val (.int (3 : Int32)), .val (.long c3), .second] [(.long (((((0 : Int64) + c0) + c1) + c2) + c3))]))
  refine Go.st (fun t' k' => XS.lstoreN X1.here hx rfl (hb hby d5_31) rfl (l' := #[.val (.ref a), .val (.long (((((0 : Int64) + c0) + c1) + c2) + c3)), .second, .val (.ref b), .val (.int (4 : Int32)), .val (.int (3 : Int32)), .val (.long c3), .second]) rfl k') ?_
  show Go p e below _ (T1.setTop (mkF m 32 #[.val (.ref a), .val (.long (((((0 : Int64) + c0) + c1) + c2) + c3)), .second, .val (.ref b), .val (.int (4 : Int32)), .val (.int (3 : Int32)), .val (.long c3), .second] []))
  refine Go.st (fun t' k' => XS.iinc X1.here hx rfl (hb hby d5_32) rfl (l' := #[.val (.ref a), .val (.long (((((0 : Int64) + c0) + c1) + c2) + c3)), .second, .val (.ref b), .val (.int (4 : Int32)), .val (.int (4 : Int32)), .val (.long c3), .second]) rfl k') ?_
  show Go p e below _ (T1.setTop (mkF m 35 #[.val (.ref a), .val (.long (((((0 : Int64) + c0) + c1) + c2) + c3)), .second, .val (.ref b), .val (.int (4 : Int32)), .val (.int (4 : Int32)), .val (.long c3), .second] []))
  refine Go.st (fun t' k' => XS.goto X1.here hx rfl (pc0 := 35) (pc' := 14) rfl (hb hby d5_35) (by decide) (by decide) k') ?_
  show Go p e below _ (T1.setTop (mkF m 14 #[.val (.ref a), .val (.long (((((0 : Int64) + c0) + c1) + c2) + c3)), .second, .val (.ref b), .val (.int (4 : Int32)), .val (.int (4 : Int32)), .val (.long c3), .second] []))
  refine Go.st (fun t' k' => XS.iload X1.here hx rfl (hb hby d5_14) rfl k') ?_
  show Go p e below _ (T1.setTop (mkF m 16 #[.val (.ref a), .val (.long (((((0 : Int64) + c0) + c1) + c2) + c3)), .second, .val (.ref b), .val (.int (4 : Int32)), .val (.int (4 : Int32)), .val (.long c3), .second] [(.int (4 : Int32))]))
  refine Go.st (fun t' k' => XS.iload X1.here hx rfl (hb hby d5_16) rfl k') ?_
  show Go p e below _ (T1.setTop (mkF m 18 #[.val (.ref a), .val (.long (((((0 : Int64) + c0) + c1) + c2) + c3)), .second, .val (.ref b), .val (.int (4 : Int32)), .val (.int (4 : Int32)), .val (.long c3), .second] [(.int (4 : Int32)), (.int (4 : Int32))]))
  refine Go.st (fun t' k' => XS.icmpYes X1.here hx rfl (pc0 := 18) (pc' := 38) rfl (hb hby d5_18) rfl (flt (by decide : ¬ ((4 : Int32) < (4 : Int32)))).2.1 (by decide) (by decide) k') ?_
  show Go p e below _ (T1.setTop (mkF m 38 #[.val (.ref a), .val (.long (((((0 : Int64) + c0) + c1) + c2) + c3)), .second, .val (.ref b), .val (.int (4 : Int32)), .val (.int (4 : Int32)), .val (.long c3), .second] []))
  refine Go.st (fun t' k' => XS.lloadN X1.here hx rfl (hb hby d5_38) rfl k') ?_
  show Go p e below _ (T1.setTop (mkF m 39 #[.val (.ref a), .val (.long (((((0 : Int64) + c0) + c1) + c2) + c3)), .second, .val (.ref b), .val (.int (4 : Int32)), .val (.int (4 : Int32)), .val (.long c3), .second] [(.long (((((0 : Int64) + c0) + c1) + c2) + c3))]))
  exact Go.outJ X1 hx hlk hret (hb hby d5_39) (Q := Q_rmTotal Z a b kb c0 c1 c2 c3 h0) (by rw [e1]; exact ⟨rfl, rfl, rfl⟩) (by decide) (by decide)
theorem ef_rmReject (m : MethodId) (x0 : Addr) : entryFrame m #[(.ref x0)] 1 = mkF m 0 #[.val (.ref x0)] [] := by first | (simp [entryFrame, mkF, argsToLocals, Value.category]; done) | rfl
def Q_rmReject (Z : State) (a : Addr) (j : Int64) (b : Addr) (h0 : Heap) (v : Option Value) (h : Heap) (L : List Loc) : Prop := v = none ∧ Fr Z.heap.size L ∧ Ext Z.heap h ∧ Keep h0 h [a] ∧ Fld Z h a "com/example/kertyma/kertyma/LoadCounts" "rejected" "J" (.long (j + (1 : Int64))) ∧ Fld Z h a "com/example/kertyma/kertyma/LoadCounts" "counts" "[J" (.ref b)
theorem d4_0 : decode prog_4_method_5_code 0 = .ok (.aload_n 0, 1) := by decide +kernel
theorem d4_1 : decode prog_4_method_5_code 1 = .ok (.dup, 1) := by decide +kernel
theorem d4_2 : decode prog_4_method_5_code 2 = .ok (.getfield 36, 3) := by decide +kernel
theorem d4_5 : decode prog_4_method_5_code 5 = .ok (.lconst 1, 1) := by decide +kernel
theorem d4_6 : decode prog_4_method_5_code 6 = .ok (.ladd, 1) := by decide +kernel
theorem d4_7 : decode prog_4_method_5_code 7 = .ok (.putfield 36, 3) := by decide +kernel
theorem d4_10 : decode prog_4_method_5_code 10 = .ok (.return_, 1) := by decide +kernel
set_option maxRecDepth 65536 in
set_option maxHeartbeats 40000000 in
theorem rmReject (l : Launch) (Z : State) (a0 : Array Value) (hw : ∀ d ∈ tables_1, d.before a0 Z = true) (ws : List Jvm.Cond) (a : Addr) (j : Int64) (b : Addr) (h0 : Heap) (O0 : Ext Z.heap h0) (Ea : Exa Z h0 a "com/example/kertyma/kertyma/LoadCounts") (Fj : Fld Z h0 a "com/example/kertyma/kertyma/LoadCounts" "rejected" "J" (.long j)) (Fc : Fld Z h0 a "com/example/kertyma/kertyma/LoadCounts" "counts" "[J" (.ref b)) (Ga : Z.heap.size ≤ a) :
    MetFree l (⟨"com/example/kertyma/kertyma/LoadCounts", "reject", "()V"⟩ : MethodName) (head1 (Jvm.Cond.code (⟨"com/example/kertyma/kertyma/LoadCounts", "reject", "()V"⟩ : MethodName) prog_4_method_5_code 1 none :: ws) ({ frames := 0, cells := 0, slots := 0, locals := 0 } : Room)) (fun av' U => av' = #[(.ref a)] ∧ Z.Warmed39 U.vm ∧ U.heap = h0) (fun _ _ _ _ _ => True) (fun _ U o U' => ∃ v L, o = .returned v ∧ Q_rmReject Z a j b h0 v U'.heap L ∧ FrameEnd U o U' L ({ frames := 0, cells := 0, slots := 0, locals := 0 } : Room).cells ({ frames := 0, cells := 0, slots := 0, locals := 0 } : Room).slots) := by
  refine MetFree.of_bodySF (plainFor_of_name pn_com_example_kertyma_kertyma_LoadCounts) hisR ?_
  intro p e s m args below meth c s₁ Bd hml0 hP hK
  obtain ⟨rfl, hZ, hh⟩ := hP
  have hx := Bd.exec
  have hby := Bd.bytes
  have hret := Bd.returns
  have hlk : meth.locks = false := Bd.notSynchronized
  have hml : c.maxLocals = 1 := hml0
  have hown : s.vm.findClass "com/example/kertyma/kertyma/LoadCounts" = some m.cls := findClass_of_methodNamed Bd.named
  have hnm := (name_of_methodNamed Bd.named Bd.method).1
  have X0 : Stand p l e ({ frames := 0, cells := 0, slots := 0, locals := 0 } : Room) s m #[(.ref a)] below meth c s₁ [] 0 0 := Stand.of_body Bd
  -- the walk
  have e0 : s₁.heap = h0 := by rw [← hh, Bd.state]; rfl
  have N0 := Fr.nil Z.heap.size
  have K0 := Keep.refl h0 [a]
  show Go p e below (GO s (Q_rmReject Z a j b h0) ({ frames := 0, cells := 0, slots := 0, locals := 0 } : Room).cells ({ frames := 0, cells := 0, slots := 0, locals := 0 } : Room).slots) (s₁.setTop (entryFrame m #[(.ref a)] 1))
  refine Go.st (fun t' k' => castTop (ef_rmReject m a) k') ?_
  show Go p e below _ (s₁.setTop (mkF m 0 #[.val (.ref a)] []))
  refine Go.st (fun t' k' => XS.aloadN X0.here hx rfl (hb hby d4_0) rfl rfl k') ?_
  show Go p e below _ (s₁.setTop (mkF m 1 #[.val (.ref a)] [(.ref a)]))
  refine Go.st (fun t' k' => XS.dup X0.here hx rfl (hb hby d4_1) rfl rfl k') ?_
  show Go p e below _ (s₁.setTop (mkF m 2 #[.val (.ref a)] [(.ref a), (.ref a)]))
  obtain ⟨T1, X1, e1, st1⟩ := getF X0 hx hZ hown (host := "") (Or.inl (hw _ (List.mem_of_getElem? (i := 43) rfl))) Via.refl e0 Fj (g := (mkF m 2 #[.val (.ref a)] [(.ref a), (.ref a)])) rfl rfl (hb hby d4_2)
  refine Go.st st1 ?_
  show Go p e below _ (T1.setTop (mkF m 5 #[.val (.ref a)] [(.long j), (.ref a)]))
  refine Go.st (fun t' k' => XS.lconst X1.here hx rfl (hb hby d4_5) k') ?_
  show Go p e below _ (T1.setTop (mkF m 6 #[.val (.ref a)] [(.long (1 : Int64)), (.long j), (.ref a)]))
  refine Go.st (fun t' k' => XS.ladd X1.here hx rfl (hb hby d4_6) rfl k') ?_
  show Go p e below _ (T1.setTop (mkF m 7 #[.val (.ref a)] [(.long (j + (1 : Int64))), (.ref a)]))
  obtain ⟨T2, h2, X2, e2, W2, st2⟩ := putF X1 hx hZ hown (host := "") (Or.inl (hw _ (List.mem_of_getElem? (i := 43) rfl))) Via.refl e1 Fj Ea (Or.inl (hw _ (List.mem_of_getElem? (i := 44) rfl))) (hw _ (List.mem_of_getElem? (i := 1) rfl)) (ty := .long) (by decide) rfl rfl (g := (mkF m 7 #[.val (.ref a)] [(.long (j + (1 : Int64))), (.ref a)])) rfl rfl (hb hby d4_7)
  refine Go.st st2 ?_
  have Fw2 : Fld Z h2 a "com/example/kertyma/kertyma/LoadCounts" "rejected" "J" (.long (j + (1 : Int64))) := Fj.same W2
  have Ea_h3 := Ea.wr W2
  have Fc_h3 := Fc.other W2 (Or.inr (slot_ne (Or.inr (hw _ (List.mem_of_getElem? (i := 31) rfl))) (Or.inl (hw _ (List.mem_of_getElem? (i := 44) rfl))) (by decide) (t := (.array .long)) (t' := .long) (by decide) (by decide)))
  have O2 := own_ext_wr O0 W2 Ga
  have K2 := K0.wr W2 (Or.inl (List.mem_of_getElem? (i := 0) rfl))
  have N2 := Fr.snoc X2 N0 Ga
  show Go p e below _ (T2.setTop (mkF m 10 #[.val (.ref a)] []))
  exact Go.outU X2 hx hlk hret (hb hby d4_10) (Q := Q_rmReject Z a j b h0) (by rw [e2]; exact ⟨rfl, N2, O2, K2, Fw2, Fc_h3⟩) (by decide) (by decide)
theorem ef_rmPick (m : MethodId) (x0 : Int32) : entryFrame m #[(.int x0)] 2 = mkF m 0 #[.val (.int x0), .unset] [] := by first | (simp [entryFrame, mkF, argsToLocals, Value.category]; done) | rfl
def Q_rmPick (Z : State) (pk : Int32) (w_NEW : Addr) (w_CHANGED : Addr) (w_UNCHANGED : Addr) (w_CANCELLED : Addr) (h0 : Heap) (v : Option Value) (h : Heap) (L : List Loc) : Prop := v = some (.ref (own_at (pk &&& (3 : Int32)) w_NEW w_CHANGED w_UNCHANGED w_CANCELLED)) ∧ L = [] ∧ h = h0
theorem pn_com_example_kertyma_kertyma_LoadCountsTotalPinLaw : plainName "com/example/kertyma/kertyma/LoadCountsTotalPinLaw" = true := by first | (simp [plainName, overriddenIn]; done) | decide +kernel
theorem d6_0 : decode method_2_code 0 = .ok (.iload_n 0, 1) := by decide +kernel
theorem d6_1 : decode method_2_code 1 = .ok (.iconst 3, 1) := by decide +kernel
theorem d6_2 : decode method_2_code 2 = .ok (.iand, 1) := by decide +kernel
theorem d6_3 : decode method_2_code 3 = .ok (.istore_n 1, 1) := by decide +kernel
theorem d6_4 : decode method_2_code 4 = .ok (.iload_n 1, 1) := by decide +kernel
theorem d6_5 : decode method_2_code 5 = .ok (.ifCond .ne 7, 3) := by decide +kernel
theorem d6_8 : decode method_2_code 8 = .ok (.getstatic 7, 3) := by decide +kernel
theorem d6_11 : decode method_2_code 11 = .ok (.areturn, 1) := by decide +kernel
theorem d6_12 : decode method_2_code 12 = .ok (.iload_n 1, 1) := by decide +kernel
theorem d6_13 : decode method_2_code 13 = .ok (.iconst 1, 1) := by decide +kernel
theorem d6_14 : decode method_2_code 14 = .ok (.if_icmp .ne 7, 3) := by decide +kernel
theorem d6_17 : decode method_2_code 17 = .ok (.getstatic 13, 3) := by decide +kernel
theorem d6_20 : decode method_2_code 20 = .ok (.areturn, 1) := by decide +kernel
theorem d6_21 : decode method_2_code 21 = .ok (.iload_n 1, 1) := by decide +kernel
theorem d6_22 : decode method_2_code 22 = .ok (.iconst 2, 1) := by decide +kernel
theorem d6_23 : decode method_2_code 23 = .ok (.if_icmp .ne 7, 3) := by decide +kernel
theorem d6_26 : decode method_2_code 26 = .ok (.getstatic 16, 3) := by decide +kernel
theorem d6_29 : decode method_2_code 29 = .ok (.areturn, 1) := by decide +kernel
theorem d6_30 : decode method_2_code 30 = .ok (.getstatic 19, 3) := by decide +kernel
theorem d6_33 : decode method_2_code 33 = .ok (.areturn, 1) := by decide +kernel
set_option maxRecDepth 65536 in
set_option maxHeartbeats 40000000 in
theorem rmPick (l : Launch) (Z : State) (a0 : Array Value) (hw : ∀ d ∈ tables_1, d.before a0 Z = true) (ws : List Jvm.Cond) (pk : Int32) (w_NEW : Addr) (w_CHANGED : Addr) (w_UNCHANGED : Addr) (w_CANCELLED : Addr) (h0 : Heap) (O0 : Ext Z.heap h0) (S_NEW : Sta Z Z.heap "com/example/kertyma/kertyma/RowOutcome" "NEW" "Lcom/example/kertyma/kertyma/RowOutcome;" (.ref w_NEW)) (S_CHANGED : Sta Z Z.heap "com/example/kertyma/kertyma/RowOutcome" "CHANGED" "Lcom/example/kertyma/kertyma/RowOutcome;" (.ref w_CHANGED)) (S_UNCHANGED : Sta Z Z.heap "com/example/kertyma/kertyma/RowOutcome" "UNCHANGED" "Lcom/example/kertyma/kertyma/RowOutcome;" (.ref w_UNCHANGED)) (S_CANCELLED : Sta Z Z.heap "com/example/kertyma/kertyma/RowOutcome" "CANCELLED" "Lcom/example/kertyma/kertyma/RowOutcome;" (.ref w_CANCELLED)) :
    MetFree l (⟨"com/example/kertyma/kertyma/LoadCountsTotalPinLaw", "outcome", "(I)Lcom/example/kertyma/kertyma/RowOutcome;"⟩ : MethodName) (head1 (Jvm.Cond.code (⟨"com/example/kertyma/kertyma/LoadCountsTotalPinLaw", "outcome", "(I)Lcom/example/kertyma/kertyma/RowOutcome;"⟩ : MethodName) method_2_code 2 (some (.object "com/example/kertyma/kertyma/RowOutcome")) :: ws) ({ frames := 0, cells := 0, slots := 0, locals := 0 } : Room)) (fun av' U => av' = #[(.int pk)] ∧ Z.Warmed39 U.vm ∧ U.heap = h0) (fun _ _ _ _ _ => True) (fun _ U o U' => ∃ v L, o = .returned v ∧ Q_rmPick Z pk w_NEW w_CHANGED w_UNCHANGED w_CANCELLED h0 v U'.heap L ∧ FrameEnd U o U' L ({ frames := 0, cells := 0, slots := 0, locals := 0 } : Room).cells ({ frames := 0, cells := 0, slots := 0, locals := 0 } : Room).slots) := by
  refine MetFree.of_bodySF (plainFor_of_name pn_com_example_kertyma_kertyma_LoadCountsTotalPinLaw) hisR ?_
  intro p e s m args below meth c s₁ Bd hml0 hP hK
  obtain ⟨rfl, hZ, hh⟩ := hP
  have hx := Bd.exec
  have hby := Bd.bytes
  have hret := Bd.returns
  have hlk : meth.locks = false := Bd.notSynchronized
  have hml : c.maxLocals = 2 := hml0
  have hown : s.vm.findClass "com/example/kertyma/kertyma/LoadCountsTotalPinLaw" = some m.cls := findClass_of_methodNamed Bd.named
  have hnm := (name_of_methodNamed Bd.named Bd.method).1
  have X0 : Stand p l e ({ frames := 0, cells := 0, slots := 0, locals := 0 } : Room) s m #[(.int pk)] below meth c s₁ [] 0 0 := Stand.of_body Bd
  -- the walk
  have e0 : s₁.heap = h0 := by rw [← hh, Bd.state]; rfl
  have N0 := Fr.nil Z.heap.size
  show Go p e below (GO s (Q_rmPick Z pk w_NEW w_CHANGED w_UNCHANGED w_CANCELLED h0) ({ frames := 0, cells := 0, slots := 0, locals := 0 } : Room).cells ({ frames := 0, cells := 0, slots := 0, locals := 0 } : Room).slots) (s₁.setTop (entryFrame m #[(.int pk)] 2))
  refine Go.st (fun t' k' => castTop (ef_rmPick m pk) k') ?_
  show Go p e below _ (s₁.setTop (mkF m 0 #[.val (.int pk), .unset] []))
  refine Go.st (fun t' k' => XS.iloadN X0.here hx rfl (hb hby d6_0) rfl k') ?_
  show Go p e below _ (s₁.setTop (mkF m 1 #[.val (.int pk), .unset] [(.int pk)]))
  refine Go.st (fun t' k' => XS.iconst X0.here hx rfl (hb hby d6_1) k') ?_
  show Go p e below _ (s₁.setTop (mkF m 2 #[.val (.int pk), .unset] [(.int (3 : Int32)), (.int pk)]))
  refine Go.st (fun t' k' => XS.iand X0.here hx rfl (hb hby d6_2) rfl k') ?_
  show Go p e below _ (s₁.setTop (mkF m 3 #[.val (.int pk), .unset] [(.int (pk &&& (3 : Int32)))]))
  refine Go.st (fun t' k' => XS.istoreN X0.here hx rfl (hb hby d6_3) rfl (l' := #[.val (.int pk), .val (.int (pk &&& (3 : Int32)))]) rfl k') ?_
  show Go p e below _ (s₁.setTop (mkF m 4 #[.val (.int pk), .val (.int (pk &&& (3 : Int32)))] []))
  refine Go.st (fun t' k' => XS.iloadN X0.here hx rfl (hb hby d6_4) rfl k') ?_
  show Go p e below _ (s₁.setTop (mkF m 5 #[.val (.int pk), .val (.int (pk &&& (3 : Int32)))] [(.int (pk &&& (3 : Int32)))]))
  by_cases hc5_1 : (pk &&& (3 : Int32)) = (0 : Int32)
  · refine Go.st (fun t' k' => XS.ifNo X0.here hx rfl (hb hby d6_5) rfl ((if0 _ _).trans (teq hc5_1).2) k') ?_
    show Go p e below _ (s₁.setTop (mkF m 8 #[.val (.int pk), .val (.int (pk &&& (3 : Int32)))] []))
    obtain ⟨T2, X2, e2, st2⟩ := getS2 X0 hx hZ hown (host := "") (Or.inl (hw _ (List.mem_of_getElem? (i := 54) rfl))) Via.refl e0 (S_NEW.ext O0) (g := (mkF m 8 #[.val (.int pk), .val (.int (pk &&& (3 : Int32)))] [])) rfl (hb hby d6_8)
    refine Go.st st2 ?_
    show Go p e below _ (T2.setTop (mkF m 11 #[.val (.int pk), .val (.int (pk &&& (3 : Int32)))] [(.ref w_NEW)]))
    exact Go.outR X2 hx hlk hret rfl rfl (hb hby d6_11) (Q := Q_rmPick Z pk w_NEW w_CHANGED w_UNCHANGED w_CANCELLED h0) (by rw [e2]; exact ⟨(by simp [own_at, hc5_1]), rfl, rfl⟩) (by decide) (by decide)
  · refine Go.st (fun t' k' => XS.ifYes X0.here hx rfl (pc0 := 5) (pc' := 12) rfl (hb hby d6_5) rfl ((if0 _ _).trans (feq hc5_1).2) (by decide) (by decide) k') ?_
    show Go p e below _ (s₁.setTop (mkF m 12 #[.val (.int pk), .val (.int (pk &&& (3 : Int32)))] []))
    refine Go.st (fun t' k' => XS.iloadN X0.here hx rfl (hb hby d6_12) rfl k') ?_
    show Go p e below _ (s₁.setTop (mkF m 13 #[.val (.int pk), .val (.int (pk &&& (3 : Int32)))] [(.int (pk &&& (3 : Int32)))]))
    refine Go.st (fun t' k' => XS.iconst X0.here hx rfl (hb hby d6_13) k') ?_
    show Go p e below _ (s₁.setTop (mkF m 14 #[.val (.int pk), .val (.int (pk &&& (3 : Int32)))] [(.int (1 : Int32)), (.int (pk &&& (3 : Int32)))]))
    by_cases hc14_3 : (pk &&& (3 : Int32)) = (1 : Int32)
    · refine Go.st (fun t' k' => XS.icmpNo X0.here hx rfl (hb hby d6_14) rfl (teq hc14_3).2 k') ?_
      show Go p e below _ (s₁.setTop (mkF m 17 #[.val (.int pk), .val (.int (pk &&& (3 : Int32)))] []))
      obtain ⟨T4, X4, e4, st4⟩ := getS2 X0 hx hZ hown (host := "") (Or.inl (hw _ (List.mem_of_getElem? (i := 71) rfl))) Via.refl e0 (S_CHANGED.ext O0) (g := (mkF m 17 #[.val (.int pk), .val (.int (pk &&& (3 : Int32)))] [])) rfl (hb hby d6_17)
      refine Go.st st4 ?_
      show Go p e below _ (T4.setTop (mkF m 20 #[.val (.int pk), .val (.int (pk &&& (3 : Int32)))] [(.ref w_CHANGED)]))
      exact Go.outR X4 hx hlk hret rfl rfl (hb hby d6_20) (Q := Q_rmPick Z pk w_NEW w_CHANGED w_UNCHANGED w_CANCELLED h0) (by rw [e4]; exact ⟨(by simp [own_at, hc5_1, hc14_3]), rfl, rfl⟩) (by decide) (by decide)
    · refine Go.st (fun t' k' => XS.icmpYes X0.here hx rfl (pc0 := 14) (pc' := 21) rfl (hb hby d6_14) rfl (feq hc14_3).2 (by decide) (by decide) k') ?_
      show Go p e below _ (s₁.setTop (mkF m 21 #[.val (.int pk), .val (.int (pk &&& (3 : Int32)))] []))
      refine Go.st (fun t' k' => XS.iloadN X0.here hx rfl (hb hby d6_21) rfl k') ?_
      show Go p e below _ (s₁.setTop (mkF m 22 #[.val (.int pk), .val (.int (pk &&& (3 : Int32)))] [(.int (pk &&& (3 : Int32)))]))
      refine Go.st (fun t' k' => XS.iconst X0.here hx rfl (hb hby d6_22) k') ?_
      show Go p e below _ (s₁.setTop (mkF m 23 #[.val (.int pk), .val (.int (pk &&& (3 : Int32)))] [(.int (2 : Int32)), (.int (pk &&& (3 : Int32)))]))
      by_cases hc23_5 : (pk &&& (3 : Int32)) = (2 : Int32)
      · refine Go.st (fun t' k' => XS.icmpNo X0.here hx rfl (hb hby d6_23) rfl (teq hc23_5).2 k') ?_
        show Go p e below _ (s₁.setTop (mkF m 26 #[.val (.int pk), .val (.int (pk &&& (3 : Int32)))] []))
        obtain ⟨T6, X6, e6, st6⟩ := getS2 X0 hx hZ hown (host := "") (Or.inl (hw _ (List.mem_of_getElem? (i := 69) rfl))) Via.refl e0 (S_UNCHANGED.ext O0) (g := (mkF m 26 #[.val (.int pk), .val (.int (pk &&& (3 : Int32)))] [])) rfl (hb hby d6_26)
        refine Go.st st6 ?_
        show Go p e below _ (T6.setTop (mkF m 29 #[.val (.int pk), .val (.int (pk &&& (3 : Int32)))] [(.ref w_UNCHANGED)]))
        exact Go.outR X6 hx hlk hret rfl rfl (hb hby d6_29) (Q := Q_rmPick Z pk w_NEW w_CHANGED w_UNCHANGED w_CANCELLED h0) (by rw [e6]; exact ⟨(by simp [own_at, hc5_1, hc14_3, hc23_5]), rfl, rfl⟩) (by decide) (by decide)
      · refine Go.st (fun t' k' => XS.icmpYes X0.here hx rfl (pc0 := 23) (pc' := 30) rfl (hb hby d6_23) rfl (feq hc23_5).2 (by decide) (by decide) k') ?_
        show Go p e below _ (s₁.setTop (mkF m 30 #[.val (.int pk), .val (.int (pk &&& (3 : Int32)))] []))
        obtain ⟨T7, X7, e7, st7⟩ := getS2 X0 hx hZ hown (host := "") (Or.inl (hw _ (List.mem_of_getElem? (i := 70) rfl))) Via.refl e0 (S_CANCELLED.ext O0) (g := (mkF m 30 #[.val (.int pk), .val (.int (pk &&& (3 : Int32)))] [])) rfl (hb hby d6_30)
        refine Go.st st7 ?_
        show Go p e below _ (T7.setTop (mkF m 33 #[.val (.int pk), .val (.int (pk &&& (3 : Int32)))] [(.ref w_CANCELLED)]))
        exact Go.outR X7 hx hlk hret rfl rfl (hb hby d6_33) (Q := Q_rmPick Z pk w_NEW w_CHANGED w_UNCHANGED w_CANCELLED h0) (by rw [e7]; exact ⟨(by simp [own_at, hc5_1, hc14_3, hc23_5]), rfl, rfl⟩) (by decide) (by decide)
def Q_rm0 (Z : State) (a : Int32) (b : Int32) (w_VALUES : Addr) (k_VALUES : ClassId) (w_NEW : Addr) (w_CHANGED : Addr) (w_UNCHANGED : Addr) (w_CANCELLED : Addr) (h0 : Heap) (v : Option Value) (h : Heap) (L : List Loc) : Prop := v = some (.int (1 : Int32)) ∧ Fr Z.heap.size L
theorem pd___J : parseMethodDescriptor "()J" = some ⟨[], some .long⟩ := by decide +kernel
set_option maxRecDepth 65536 in
set_option maxHeartbeats 40000000 in
theorem blk158 {p : Program} {l : Launch} {e : Env} {s : State} {m : MethodId} {below : List Frame} {meth : Method} {c : Code} {T0 : State} {locs : List Loc} (Z : State) (a0 : Array Value) (hw : ∀ d ∈ tables_1, d.before a0 Z = true) (a : Int32) (b : Int32) (w_VALUES : Addr) (k_VALUES : ClassId) (w_NEW : Addr) (w_CHANGED : Addr) (w_UNCHANGED : Addr) (w_CANCELLED : Addr) (h0 : Heap) (S_NEW : Sta Z Z.heap "com/example/kertyma/kertyma/RowOutcome" "NEW" "Lcom/example/kertyma/kertyma/RowOutcome;" (.ref w_NEW)) (S_CHANGED : Sta Z Z.heap "com/example/kertyma/kertyma/RowOutcome" "CHANGED" "Lcom/example/kertyma/kertyma/RowOutcome;" (.ref w_CHANGED)) (S_UNCHANGED : Sta Z Z.heap "com/example/kertyma/kertyma/RowOutcome" "UNCHANGED" "Lcom/example/kertyma/kertyma/RowOutcome;" (.ref w_UNCHANGED)) (S_CANCELLED : Sta Z Z.heap "com/example/kertyma/kertyma/RowOutcome" "CANCELLED" "Lcom/example/kertyma/kertyma/RowOutcome;" (.ref w_CANCELLED)) (S_VALUES : Sta Z Z.heap "com/example/kertyma/kertyma/RowOutcome" "$VALUES" "[Lcom/example/kertyma/kertyma/RowOutcome;" (.ref w_VALUES)) (A_VALUES : Arv Z Z.heap w_VALUES k_VALUES (.object "com/example/kertyma/kertyma/RowOutcome") (4 : Int32) [(.ref w_NEW), (.ref w_CHANGED), (.ref w_UNCHANGED), (.ref w_CANCELLED)] .null) (E_VALUES : Exa Z Z.heap w_VALUES "[Lcom/example/kertyma/kertyma/RowOutcome;") (E_NEW : Exa Z Z.heap w_NEW "com/example/kertyma/kertyma/RowOutcome") (E_CHANGED : Exa Z Z.heap w_CHANGED "com/example/kertyma/kertyma/RowOutcome") (E_UNCHANGED : Exa Z Z.heap w_UNCHANGED "com/example/kertyma/kertyma/RowOutcome") (E_CANCELLED : Exa Z Z.heap w_CANCELLED "com/example/kertyma/kertyma/RowOutcome") (F_NEW_ordinal : Fld Z Z.heap w_NEW "java/lang/Enum" "ordinal" "I" (.int (0 : Int32))) (F_CHANGED_ordinal : Fld Z Z.heap w_CHANGED "java/lang/Enum" "ordinal" "I" (.int (1 : Int32))) (F_UNCHANGED_ordinal : Fld Z Z.heap w_UNCHANGED "java/lang/Enum" "ordinal" "I" (.int (2 : Int32))) (F_CANCELLED_ordinal : Fld Z Z.heap w_CANCELLED "java/lang/Enum" "ordinal" "I" (.int (3 : Int32))) (o : Addr) (n : Int64) (bb : Addr) (kb : ClassId) (j : Int64) (c0 : Int64) (c1 : Int64) (c2 : Int64) (c3 : Int64) (h : Heap) (X0 : Stand p l e room_1 s m #[(.int a), (.int b)] below meth c T0 locs 3 13)
    (hx : p.tables.exec = Jvm.exec) (hZ : Z.Warmed39 s.vm) (hby : c.code = code) (hml : c.maxLocals = 5) (hown : s.vm.findClass "com/example/kertyma/kertyma/LoadCountsTotalPinLaw" = some m.cls) (hret : meth.sig.returnType = ret) (hlk : meth.locks = false) (e0 : T0.heap = h) (N0 : Fr Z.heap.size locs) (O0 : Ext Z.heap h) (Eo : Exa Z h o "com/example/kertyma/kertyma/LoadCounts") (Fc : Fld Z h o "com/example/kertyma/kertyma/LoadCounts" "counts" "[J" (.ref bb)) (Fj : Fld Z h o "com/example/kertyma/kertyma/LoadCounts" "rejected" "J" (.long j)) (Vb : Arv Z h bb kb .long (4 : Int32) [(.long c0), (.long c1), (.long c2), (.long c3)] (.long (0 : Int64))) (Goo : Z.heap.size ≤ o) (Gb : Z.heap.size ≤ bb) (Nob : o ≠ bb) (hn : (((((0 : Int64) + c0) + c1) + c2) + c3) = n) :
    Go p e below (GO s (Q_rm0 Z a b w_VALUES k_VALUES w_NEW w_CHANGED w_UNCHANGED w_CANCELLED h0) room_1.cells room_1.slots) (T0.setTop (mkF m 158 #[.val (.int a), .val (.int b), .val (.ref o), .val (.long n), .second] [])) := by
  show Go p e below _ (T0.setTop (mkF m 158 #[.val (.int a), .val (.int b), .val (.ref o), .val (.long n), .second] []))
  refine Go.st (fun t' k' => XS.aloadN X0.here hx rfl (hb hby at_158) rfl rfl k') ?_
  show Go p e below _ (T0.setTop (mkF m 159 #[.val (.int a), .val (.int b), .val (.ref o), .val (.long n), .second] [(.ref o)]))
  obtain ⟨cq1, kq1, q1a, q1b, q1c⟩ := isOf hZ e0 Eo
  obtain ⟨_, _, ⟨T1, L1, k1, n1⟩, -, X1, ⟨Lc1, hQ1, l1, y1, z1⟩, st1⟩ := X0.virtualBack hx (y := (⟨"com/example/kertyma/kertyma/LoadCounts", "total", "()J"⟩ : MethodName)) (z := (⟨"com/example/kertyma/kertyma/LoadCounts", "total", "()J"⟩ : MethodName)) hown (mvT hZ (hw _ (List.mem_of_getElem? (i := 45) rfl))) (mvT hZ (hw _ (List.mem_of_getElem? (i := 46) rfl))) (notFace_of_selects (args := #[]) (mvT hZ (hw _ (List.mem_of_getElem? (i := 48) rfl)))) (mvT hZ (hw _ (List.mem_of_getElem? (i := 48) rfl))) (mvT hZ (hw _ (List.mem_of_getElem? (i := 47) rfl))) (by decide) (backOf (W := 0) (rmTotal l Z a0 hw [] o bb kb c0 c1 c2 c3 h O0 Fc Vb) hZ (hw _ (List.mem_of_getElem? (i := 49) rfl)) (hw _ (List.mem_of_getElem? (i := 2) rfl)) (by decide) (by decide)) q1a q1c (g := (mkF m 159 #[.val (.int a), .val (.int b), .val (.ref o), .val (.long n), .second] [(.ref o)])) rfl (by rw [hml]; rfl) (Steps.refl _) (argsL := []) (rest := []) (lenOf pd___J rfl) rfl (by show 2 * 0 + _ ≤ _; exact Nat.le_of_eq rfl) (hb hby at_159) (fun _ _ => ⟨rfl, e0, (by decide : 3 + 0 ≤ _), (by decide : 13 + 0 ≤ _)⟩)
  dsimp only [Pt.U, Pt.locs, Pt.cells, Pt.slots] at X1 l1 y1 z1 st1 hQ1
  subst l1 y1 z1
  obtain ⟨rfl, rfl, e1⟩ := hQ1
  have N1 := Fr.app N0 (Fr.nil _)
  refine Go.tr st1 ?_
  show Go p e below _ (T1.setTop (mkF m 162 #[.val (.int a), .val (.int b), .val (.ref o), .val (.long n), .second] [(.long (((((0 : Int64) + c0) + c1) + c2) + c3))]))
  refine Go.st (fun t' k' => XS.lloadN X1.here hx rfl (hb hby at_162) rfl k') ?_
  show Go p e below _ (T1.setTop (mkF m 163 #[.val (.int a), .val (.int b), .val (.ref o), .val (.long n), .second] [(.long n), (.long (((((0 : Int64) + c0) + c1) + c2) + c3))]))
  refine Go.st (fun t' k' => XS.lcmp X1.here hx rfl (hb hby at_163) rfl k') ?_
  show Go p e below _ (T1.setTop (mkF m 164 #[.val (.int a), .val (.int b), .val (.ref o), .val (.long n), .second] [(.int (lcmpW (((((0 : Int64) + c0) + c1) + c2) + c3) n))]))
  refine Go.st (fun t' k' => XS.ifNo X1.here hx rfl (hb hby at_164) rfl ((if0 _ _).trans (teq ((lw_eq _ _).mpr hn)).2) k') ?_
  show Go p e below _ (T1.setTop (mkF m 167 #[.val (.int a), .val (.int b), .val (.ref o), .val (.long n), .second] []))
  refine Go.st (fun t' k' => XS.iconst X1.here hx rfl (hb hby at_167) k') ?_
  show Go p e below _ (T1.setTop (mkF m 168 #[.val (.int a), .val (.int b), .val (.ref o), .val (.long n), .second] [(.int (1 : Int32))]))
  refine Go.st (fun t' k' => XS.goto X1.here hx rfl (pc0 := 168) (pc' := 172) rfl (hb hby at_168) (by decide) (by decide) k') ?_
  show Go p e below _ (T1.setTop (mkF m 172 #[.val (.int a), .val (.int b), .val (.ref o), .val (.long n), .second] [(.int (1 : Int32))]))
  exact Go.outN X1 hx hlk (t := .boolean) hret (by simp) (hb hby at_172) (Q := Q_rm0 Z a b w_VALUES k_VALUES w_NEW w_CHANGED w_UNCHANGED w_CANCELLED h0) (by rw [e1]; exact ⟨rfl, N1⟩) (by decide) (by decide)
theorem pd___V : parseMethodDescriptor "()V" = some ⟨[], none⟩ := by decide +kernel
set_option maxRecDepth 65536 in
set_option maxHeartbeats 40000000 in
theorem blk148 {p : Program} {l : Launch} {e : Env} {s : State} {m : MethodId} {below : List Frame} {meth : Method} {c : Code} {T0 : State} {locs : List Loc} (Z : State) (a0 : Array Value) (hw : ∀ d ∈ tables_1, d.before a0 Z = true) (a : Int32) (b : Int32) (w_VALUES : Addr) (k_VALUES : ClassId) (w_NEW : Addr) (w_CHANGED : Addr) (w_UNCHANGED : Addr) (w_CANCELLED : Addr) (h0 : Heap) (S_NEW : Sta Z Z.heap "com/example/kertyma/kertyma/RowOutcome" "NEW" "Lcom/example/kertyma/kertyma/RowOutcome;" (.ref w_NEW)) (S_CHANGED : Sta Z Z.heap "com/example/kertyma/kertyma/RowOutcome" "CHANGED" "Lcom/example/kertyma/kertyma/RowOutcome;" (.ref w_CHANGED)) (S_UNCHANGED : Sta Z Z.heap "com/example/kertyma/kertyma/RowOutcome" "UNCHANGED" "Lcom/example/kertyma/kertyma/RowOutcome;" (.ref w_UNCHANGED)) (S_CANCELLED : Sta Z Z.heap "com/example/kertyma/kertyma/RowOutcome" "CANCELLED" "Lcom/example/kertyma/kertyma/RowOutcome;" (.ref w_CANCELLED)) (S_VALUES : Sta Z Z.heap "com/example/kertyma/kertyma/RowOutcome" "$VALUES" "[Lcom/example/kertyma/kertyma/RowOutcome;" (.ref w_VALUES)) (A_VALUES : Arv Z Z.heap w_VALUES k_VALUES (.object "com/example/kertyma/kertyma/RowOutcome") (4 : Int32) [(.ref w_NEW), (.ref w_CHANGED), (.ref w_UNCHANGED), (.ref w_CANCELLED)] .null) (E_VALUES : Exa Z Z.heap w_VALUES "[Lcom/example/kertyma/kertyma/RowOutcome;") (E_NEW : Exa Z Z.heap w_NEW "com/example/kertyma/kertyma/RowOutcome") (E_CHANGED : Exa Z Z.heap w_CHANGED "com/example/kertyma/kertyma/RowOutcome") (E_UNCHANGED : Exa Z Z.heap w_UNCHANGED "com/example/kertyma/kertyma/RowOutcome") (E_CANCELLED : Exa Z Z.heap w_CANCELLED "com/example/kertyma/kertyma/RowOutcome") (F_NEW_ordinal : Fld Z Z.heap w_NEW "java/lang/Enum" "ordinal" "I" (.int (0 : Int32))) (F_CHANGED_ordinal : Fld Z Z.heap w_CHANGED "java/lang/Enum" "ordinal" "I" (.int (1 : Int32))) (F_UNCHANGED_ordinal : Fld Z Z.heap w_UNCHANGED "java/lang/Enum" "ordinal" "I" (.int (2 : Int32))) (F_CANCELLED_ordinal : Fld Z Z.heap w_CANCELLED "java/lang/Enum" "ordinal" "I" (.int (3 : Int32))) (o : Addr) (n : Int64) (bb : Addr) (kb : ClassId) (j : Int64) (c0 : Int64) (c1 : Int64) (c2 : Int64) (c3 : Int64) (h : Heap) (X0 : Stand p l e room_1 s m #[(.int a), (.int b)] below meth c T0 locs 3 13)
    (hx : p.tables.exec = Jvm.exec) (hZ : Z.Warmed39 s.vm) (hby : c.code = code) (hml : c.maxLocals = 5) (hown : s.vm.findClass "com/example/kertyma/kertyma/LoadCountsTotalPinLaw" = some m.cls) (hret : meth.sig.returnType = ret) (hlk : meth.locks = false) (e0 : T0.heap = h) (N0 : Fr Z.heap.size locs) (O0 : Ext Z.heap h) (Eo : Exa Z h o "com/example/kertyma/kertyma/LoadCounts") (Fc : Fld Z h o "com/example/kertyma/kertyma/LoadCounts" "counts" "[J" (.ref bb)) (Fj : Fld Z h o "com/example/kertyma/kertyma/LoadCounts" "rejected" "J" (.long j)) (Vb : Arv Z h bb kb .long (4 : Int32) [(.long c0), (.long c1), (.long c2), (.long c3)] (.long (0 : Int64))) (Goo : Z.heap.size ≤ o) (Gb : Z.heap.size ≤ bb) (Nob : o ≠ bb) (hn : (((((0 : Int64) + c0) + c1) + c2) + c3) = n) :
    Go p e below (GO s (Q_rm0 Z a b w_VALUES k_VALUES w_NEW w_CHANGED w_UNCHANGED w_CANCELLED h0) room_1.cells room_1.slots) (T0.setTop (mkF m 148 #[.val (.int a), .val (.int b), .val (.ref o), .val (.long n), .second] [])) := by
  show Go p e below _ (T0.setTop (mkF m 148 #[.val (.int a), .val (.int b), .val (.ref o), .val (.long n), .second] []))
  refine Go.st (fun t' k' => XS.iloadN X0.here hx rfl (hb hby at_148) rfl k') ?_
  show Go p e below _ (T0.setTop (mkF m 149 #[.val (.int a), .val (.int b), .val (.ref o), .val (.long n), .second] [(.int b)]))
  refine Go.st (fun t' k' => XS.iconst X0.here hx rfl (hb hby at_149) k') ?_
  show Go p e below _ (T0.setTop (mkF m 150 #[.val (.int a), .val (.int b), .val (.ref o), .val (.long n), .second] [(.int (1 : Int32)), (.int b)]))
  refine Go.st (fun t' k' => XS.iand X0.here hx rfl (hb hby at_150) rfl k') ?_
  show Go p e below _ (T0.setTop (mkF m 151 #[.val (.int a), .val (.int b), .val (.ref o), .val (.long n), .second] [(.int (b &&& (1 : Int32)))]))
  by_cases hc151_1 : (b &&& (1 : Int32)) = (0 : Int32)
  · refine Go.st (fun t' k' => XS.ifYes X0.here hx rfl (pc0 := 151) (pc' := 158) rfl (hb hby at_151) rfl ((if0 _ _).trans (teq hc151_1).1) (by decide) (by decide) k') ?_
    -- pc 158: behind the cut
    exact blk158 Z a0 hw a b w_VALUES k_VALUES w_NEW w_CHANGED w_UNCHANGED w_CANCELLED h0 S_NEW S_CHANGED S_UNCHANGED S_CANCELLED S_VALUES A_VALUES E_VALUES E_NEW E_CHANGED E_UNCHANGED E_CANCELLED F_NEW_ordinal F_CHANGED_ordinal F_UNCHANGED_ordinal F_CANCELLED_ordinal o n bb kb j c0 c1 c2 c3 h (own_stand_mono X0 (by decide) (by decide)) hx hZ hby hml hown hret hlk e0 N0 O0 Eo Fc Fj Vb Goo Gb Nob hn
  · refine Go.st (fun t' k' => XS.ifNo X0.here hx rfl (hb hby at_151) rfl ((if0 _ _).trans (feq hc151_1).1) k') ?_
    show Go p e below _ (T0.setTop (mkF m 154 #[.val (.int a), .val (.int b), .val (.ref o), .val (.long n), .second] []))
    refine Go.st (fun t' k' => XS.aloadN X0.here hx rfl (hb hby at_154) rfl rfl k') ?_
    show Go p e below _ (T0.setTop (mkF m 155 #[.val (.int a), .val (.int b), .val (.ref o), .val (.long n), .second] [(.ref o)]))
    obtain ⟨cq2, kq2, q2a, q2b, q2c⟩ := isOf hZ e0 Eo
    obtain ⟨_, _, ⟨T2, L2, k2, n2⟩, -, X2, ⟨Lc2, hQ2, l2, y2, z2⟩, st2⟩ := X0.virtualBack hx (y := (⟨"com/example/kertyma/kertyma/LoadCounts", "reject", "()V"⟩ : MethodName)) (z := (⟨"com/example/kertyma/kertyma/LoadCounts", "reject", "()V"⟩ : MethodName)) hown (mvT hZ (hw _ (List.mem_of_getElem? (i := 38) rfl))) (mvT hZ (hw _ (List.mem_of_getElem? (i := 39) rfl))) (notFace_of_selects (args := #[]) (mvT hZ (hw _ (List.mem_of_getElem? (i := 41) rfl)))) (mvT hZ (hw _ (List.mem_of_getElem? (i := 41) rfl))) (mvT hZ (hw _ (List.mem_of_getElem? (i := 40) rfl))) (by decide) (backOf (W := 0) (rmReject l Z a0 hw [] o j bb h O0 Eo Fj Fc Goo) hZ (hw _ (List.mem_of_getElem? (i := 42) rfl)) (hw _ (List.mem_of_getElem? (i := 2) rfl)) (by decide) (by decide)) q2a q2c (g := (mkF m 155 #[.val (.int a), .val (.int b), .val (.ref o), .val (.long n), .second] [(.ref o)])) rfl (by rw [hml]; rfl) (Steps.refl _) (argsL := []) (rest := []) (lenOf pd___V rfl) rfl (by show 2 * 0 + _ ≤ _; exact Nat.le_of_eq rfl) (hb hby at_155) (fun _ _ => ⟨rfl, e0, (by decide : 3 + 0 ≤ _), (by decide : 13 + 0 ≤ _)⟩)
    dsimp only [Pt.U, Pt.locs, Pt.cells, Pt.slots] at X2 l2 y2 z2 st2 hQ2
    subst l2 y2 z2
    obtain ⟨rfl, N2q, O2, Kc2, Pj_2, Pc_2⟩ := hQ2
    have N2 := Fr.app N0 N2q
    refine Go.tr st2 ?_
    have Eo_h3 := Eo.keep Kc2
    have Vb_h3 := Vb.keep Kc2 (ninS (Ne.symm Nob) nin0)
    -- pc 158: behind the cut
    exact blk158 Z a0 hw a b w_VALUES k_VALUES w_NEW w_CHANGED w_UNCHANGED w_CANCELLED h0 S_NEW S_CHANGED S_UNCHANGED S_CANCELLED S_VALUES A_VALUES E_VALUES E_NEW E_CHANGED E_UNCHANGED E_CANCELLED F_NEW_ordinal F_CHANGED_ordinal F_UNCHANGED_ordinal F_CANCELLED_ordinal o n bb kb ((j + (1 : Int64))) c0 c1 c2 c3 T2.heap (own_stand_mono X2 (by decide) (by decide)) hx hZ hby hml hown hret hlk rfl N2 O2 Eo_h3 Pc_2 Pj_2 Vb_h3 Goo Gb Nob hn
theorem pd__I_Lcom_example_kertyma_kertyma_RowOutcome_ : parseMethodDescriptor "(I)Lcom/example/kertyma/kertyma/RowOutcome;" = some ⟨[.int], some (.object "com/example/kertyma/kertyma/RowOutcome")⟩ := by decide +kernel
theorem pd__Lcom_example_kertyma_kertyma_RowOutcome__V : parseMethodDescriptor "(Lcom/example/kertyma/kertyma/RowOutcome;)V" = some ⟨[(.object "com/example/kertyma/kertyma/RowOutcome")], none⟩ := by decide +kernel
set_option maxRecDepth 65536 in
set_option maxHeartbeats 40000000 in
theorem blk124 {p : Program} {l : Launch} {e : Env} {s : State} {m : MethodId} {below : List Frame} {meth : Method} {c : Code} {T0 : State} {locs : List Loc} (Z : State) (a0 : Array Value) (hw : ∀ d ∈ tables_1, d.before a0 Z = true) (a : Int32) (b : Int32) (w_VALUES : Addr) (k_VALUES : ClassId) (w_NEW : Addr) (w_CHANGED : Addr) (w_UNCHANGED : Addr) (w_CANCELLED : Addr) (h0 : Heap) (S_NEW : Sta Z Z.heap "com/example/kertyma/kertyma/RowOutcome" "NEW" "Lcom/example/kertyma/kertyma/RowOutcome;" (.ref w_NEW)) (S_CHANGED : Sta Z Z.heap "com/example/kertyma/kertyma/RowOutcome" "CHANGED" "Lcom/example/kertyma/kertyma/RowOutcome;" (.ref w_CHANGED)) (S_UNCHANGED : Sta Z Z.heap "com/example/kertyma/kertyma/RowOutcome" "UNCHANGED" "Lcom/example/kertyma/kertyma/RowOutcome;" (.ref w_UNCHANGED)) (S_CANCELLED : Sta Z Z.heap "com/example/kertyma/kertyma/RowOutcome" "CANCELLED" "Lcom/example/kertyma/kertyma/RowOutcome;" (.ref w_CANCELLED)) (S_VALUES : Sta Z Z.heap "com/example/kertyma/kertyma/RowOutcome" "$VALUES" "[Lcom/example/kertyma/kertyma/RowOutcome;" (.ref w_VALUES)) (A_VALUES : Arv Z Z.heap w_VALUES k_VALUES (.object "com/example/kertyma/kertyma/RowOutcome") (4 : Int32) [(.ref w_NEW), (.ref w_CHANGED), (.ref w_UNCHANGED), (.ref w_CANCELLED)] .null) (E_VALUES : Exa Z Z.heap w_VALUES "[Lcom/example/kertyma/kertyma/RowOutcome;") (E_NEW : Exa Z Z.heap w_NEW "com/example/kertyma/kertyma/RowOutcome") (E_CHANGED : Exa Z Z.heap w_CHANGED "com/example/kertyma/kertyma/RowOutcome") (E_UNCHANGED : Exa Z Z.heap w_UNCHANGED "com/example/kertyma/kertyma/RowOutcome") (E_CANCELLED : Exa Z Z.heap w_CANCELLED "com/example/kertyma/kertyma/RowOutcome") (F_NEW_ordinal : Fld Z Z.heap w_NEW "java/lang/Enum" "ordinal" "I" (.int (0 : Int32))) (F_CHANGED_ordinal : Fld Z Z.heap w_CHANGED "java/lang/Enum" "ordinal" "I" (.int (1 : Int32))) (F_UNCHANGED_ordinal : Fld Z Z.heap w_UNCHANGED "java/lang/Enum" "ordinal" "I" (.int (2 : Int32))) (F_CANCELLED_ordinal : Fld Z Z.heap w_CANCELLED "java/lang/Enum" "ordinal" "I" (.int (3 : Int32))) (o : Addr) (n : Int64) (bb : Addr) (kb : ClassId) (j : Int64) (c0 : Int64) (c1 : Int64) (c2 : Int64) (c3 : Int64) (h : Heap) (X0 : Stand p l e room_1 s m #[(.int a), (.int b)] below meth c T0 locs 3 13)
    (hx : p.tables.exec = Jvm.exec) (hZ : Z.Warmed39 s.vm) (hby : c.code = code) (hml : c.maxLocals = 5) (hown : s.vm.findClass "com/example/kertyma/kertyma/LoadCountsTotalPinLaw" = some m.cls) (hret : meth.sig.returnType = ret) (hlk : meth.locks = false) (e0 : T0.heap = h) (N0 : Fr Z.heap.size locs) (O0 : Ext Z.heap h) (Eo : Exa Z h o "com/example/kertyma/kertyma/LoadCounts") (Fc : Fld Z h o "com/example/kertyma/kertyma/LoadCounts" "counts" "[J" (.ref bb)) (Fj : Fld Z h o "com/example/kertyma/kertyma/LoadCounts" "rejected" "J" (.long j)) (Vb : Arv Z h bb kb .long (4 : Int32) [(.long c0), (.long c1), (.long c2), (.long c3)] (.long (0 : Int64))) (Goo : Z.heap.size ≤ o) (Gb : Z.heap.size ≤ bb) (Nob : o ≠ bb) (hn : (((((0 : Int64) + c0) + c1) + c2) + c3) = n) :
    Go p e below (GO s (Q_rm0 Z a b w_VALUES k_VALUES w_NEW w_CHANGED w_UNCHANGED w_CANCELLED h0) room_1.cells room_1.slots) (T0.setTop (mkF m 124 #[.val (.int a), .val (.int b), .val (.ref o), .val (.long n), .second] [])) := by
  show Go p e below _ (T0.setTop (mkF m 124 #[.val (.int a), .val (.int b), .val (.ref o), .val (.long n), .second] []))
  refine Go.st (fun t' k' => XS.iloadN X0.here hx rfl (hb hby at_124) rfl k') ?_
  show Go p e below _ (T0.setTop (mkF m 125 #[.val (.int a), .val (.int b), .val (.ref o), .val (.long n), .second] [(.int a)]))
  refine Go.st (fun t' k' => XS.bipush X0.here hx rfl (hb hby at_125) k') ?_
  show Go p e below _ (T0.setTop (mkF m 127 #[.val (.int a), .val (.int b), .val (.ref o), .val (.long n), .second] [(.int (15 : Int32)), (.int a)]))
  refine Go.st (fun t' k' => XS.iushr X0.here hx rfl (hb hby at_127) rfl k') ?_
  show Go p e below _ (T0.setTop (mkF m 128 #[.val (.int a), .val (.int b), .val (.ref o), .val (.long n), .second] [(.int ((a.toUInt32 >>> ((15 : Int32) &&& 31).toUInt32).toInt32))]))
  refine Go.st (fun t' k' => XS.iconst X0.here hx rfl (hb hby at_128) k') ?_
  show Go p e below _ (T0.setTop (mkF m 129 #[.val (.int a), .val (.int b), .val (.ref o), .val (.long n), .second] [(.int (1 : Int32)), (.int ((a.toUInt32 >>> ((15 : Int32) &&& 31).toUInt32).toInt32))]))
  refine Go.st (fun t' k' => XS.iand X0.here hx rfl (hb hby at_129) rfl k') ?_
  show Go p e below _ (T0.setTop (mkF m 130 #[.val (.int a), .val (.int b), .val (.ref o), .val (.long n), .second] [(.int (((a.toUInt32 >>> ((15 : Int32) &&& 31).toUInt32).toInt32) &&& (1 : Int32)))]))
  by_cases hc130_1 : (((a.toUInt32 >>> ((15 : Int32) &&& 31).toUInt32).toInt32) &&& (1 : Int32)) = (0 : Int32)
  · refine Go.st (fun t' k' => XS.ifYes X0.here hx rfl (pc0 := 130) (pc' := 148) rfl (hb hby at_130) rfl ((if0 _ _).trans (teq hc130_1).1) (by decide) (by decide) k') ?_
    -- pc 148: behind the cut
    exact blk148 Z a0 hw a b w_VALUES k_VALUES w_NEW w_CHANGED w_UNCHANGED w_CANCELLED h0 S_NEW S_CHANGED S_UNCHANGED S_CANCELLED S_VALUES A_VALUES E_VALUES E_NEW E_CHANGED E_UNCHANGED E_CANCELLED F_NEW_ordinal F_CHANGED_ordinal F_UNCHANGED_ordinal F_CANCELLED_ordinal o n bb kb j c0 c1 c2 c3 h (own_stand_mono X0 (by decide) (by decide)) hx hZ hby hml hown hret hlk e0 N0 O0 Eo Fc Fj Vb Goo Gb Nob hn
  · refine Go.st (fun t' k' => XS.ifNo X0.here hx rfl (hb hby at_130) rfl ((if0 _ _).trans (feq hc130_1).1) k') ?_
    show Go p e below _ (T0.setTop (mkF m 133 #[.val (.int a), .val (.int b), .val (.ref o), .val (.long n), .second] []))
    refine Go.st (fun t' k' => XS.aloadN X0.here hx rfl (hb hby at_133) rfl rfl k') ?_
    show Go p e below _ (T0.setTop (mkF m 134 #[.val (.int a), .val (.int b), .val (.ref o), .val (.long n), .second] [(.ref o)]))
    refine Go.st (fun t' k' => XS.iloadN X0.here hx rfl (hb hby at_134) rfl k') ?_
    show Go p e below _ (T0.setTop (mkF m 135 #[.val (.int a), .val (.int b), .val (.ref o), .val (.long n), .second] [(.int a), (.ref o)]))
    refine Go.st (fun t' k' => XS.bipush X0.here hx rfl (hb hby at_135) k') ?_
    show Go p e below _ (T0.setTop (mkF m 137 #[.val (.int a), .val (.int b), .val (.ref o), .val (.long n), .second] [(.int (16 : Int32)), (.int a), (.ref o)]))
    refine Go.st (fun t' k' => XS.iushr X0.here hx rfl (hb hby at_137) rfl k') ?_
    show Go p e below _ (T0.setTop (mkF m 138 #[.val (.int a), .val (.int b), .val (.ref o), .val (.long n), .second] [(.int ((a.toUInt32 >>> ((16 : Int32) &&& 31).toUInt32).toInt32)), (.ref o)]))
    obtain ⟨_, _, ⟨T2, L2, k2, n2⟩, -, X2, ⟨Lc2, hQ2, l2, y2, z2⟩, st2⟩ := Jvm.LawKit.callS X0 hx (y := (⟨"com/example/kertyma/kertyma/LoadCountsTotalPinLaw", "outcome", "(I)Lcom/example/kertyma/kertyma/RowOutcome;"⟩ : MethodName)) hown (mvT hZ (hw _ (List.mem_of_getElem? (i := 50) rfl))) (mvT hZ (hw _ (List.mem_of_getElem? (i := 51) rfl))) (mvT hZ (hw _ (List.mem_of_getElem? (i := 52) rfl))) (mvT hZ (hw _ (List.mem_of_getElem? (i := 53) rfl))) (by decide) (backOf (W := 1) (rmPick l Z a0 hw [] (((a.toUInt32 >>> ((16 : Int32) &&& 31).toUInt32).toInt32)) w_NEW w_CHANGED w_UNCHANGED w_CANCELLED h O0 S_NEW S_CHANGED S_UNCHANGED S_CANCELLED) hZ (hw _ (List.mem_of_getElem? (i := 53) rfl)) (hw _ (List.mem_of_getElem? (i := 52) rfl)) (by decide) (by decide)) (g := (mkF m 138 #[.val (.int a), .val (.int b), .val (.ref o), .val (.long n), .second] [(.int ((a.toUInt32 >>> ((16 : Int32) &&& 31).toUInt32).toInt32)), (.ref o)])) rfl (by rw [hml]; rfl) (argsL := [(.int ((a.toUInt32 >>> ((16 : Int32) &&& 31).toUInt32).toInt32))]) (rest := [(.ref o)]) (lenOf pd__I_Lcom_example_kertyma_kertyma_RowOutcome_ rfl) rfl (by show 2 * 0 + _ ≤ _; exact Nat.le_of_eq rfl) (hb hby at_138) (fun _ _ => ⟨rfl, e0, (by decide : 3 + 0 ≤ _), (by decide : 13 + 0 ≤ _)⟩)
    dsimp only [Pt.U, Pt.locs, Pt.cells, Pt.slots] at X2 l2 y2 z2 st2 hQ2
    subst l2 y2 z2
    obtain ⟨rfl, rfl, e2⟩ := hQ2
    have N2 := Fr.app N0 (Fr.nil _)
    refine Go.st st2 ?_
    have E_at := own_at_exa (((a.toUInt32 >>> ((16 : Int32) &&& 31).toUInt32).toInt32) &&& (3 : Int32)) E_NEW E_CHANGED E_UNCHANGED E_CANCELLED
    have F_at := own_at_fld ((a.toUInt32 >>> ((16 : Int32) &&& 31).toUInt32).toInt32) F_NEW_ordinal F_CHANGED_ordinal F_UNCHANGED_ordinal F_CANCELLED_ordinal
    show Go p e below _ (T2.setTop (mkF m 141 #[.val (.int a), .val (.int b), .val (.ref o), .val (.long n), .second] [(.ref (own_at (((a.toUInt32 >>> ((16 : Int32) &&& 31).toUInt32).toInt32) &&& (3 : Int32)) w_NEW w_CHANGED w_UNCHANGED w_CANCELLED)), (.ref o)]))
    obtain ⟨cq3, kq3, q3a, q3b, q3c⟩ := isOf hZ e2 Eo
    obtain ⟨_, _, ⟨T3, L3, k3, n3⟩, -, X3, ⟨Lc3, hQ3, l3, y3, z3⟩, st3⟩ := X2.virtualBack hx (y := (⟨"com/example/kertyma/kertyma/LoadCounts", "count", "(Lcom/example/kertyma/kertyma/RowOutcome;)V"⟩ : MethodName)) (z := (⟨"com/example/kertyma/kertyma/LoadCounts", "count", "(Lcom/example/kertyma/kertyma/RowOutcome;)V"⟩ : MethodName)) hown (mvT hZ (hw _ (List.mem_of_getElem? (i := 55) rfl))) (mvT hZ (hw _ (List.mem_of_getElem? (i := 56) rfl))) (notFace_of_selects (args := #[]) (mvT hZ (hw _ (List.mem_of_getElem? (i := 58) rfl)))) (mvT hZ (hw _ (List.mem_of_getElem? (i := 58) rfl))) (mvT hZ (hw _ (List.mem_of_getElem? (i := 57) rfl))) (by decide) (backOf (W := 0) (rmCount l Z a0 hw [] o ((own_at (((a.toUInt32 >>> ((16 : Int32) &&& 31).toUInt32).toInt32) &&& (3 : Int32)) w_NEW w_CHANGED w_UNCHANGED w_CANCELLED)) bb kb c0 c1 c2 c3 ((((a.toUInt32 >>> ((16 : Int32) &&& 31).toUInt32).toInt32) &&& (3 : Int32))) h O0 Fc Vb E_at F_at (own_and3 _) Gb Nob) hZ (hw _ (List.mem_of_getElem? (i := 59) rfl)) (hw _ (List.mem_of_getElem? (i := 2) rfl)) (by decide) (by decide)) q3a q3c (g := (mkF m 141 #[.val (.int a), .val (.int b), .val (.ref o), .val (.long n), .second] [(.ref (own_at (((a.toUInt32 >>> ((16 : Int32) &&& 31).toUInt32).toInt32) &&& (3 : Int32)) w_NEW w_CHANGED w_UNCHANGED w_CANCELLED)), (.ref o)])) rfl (by rw [hml]; rfl) (Steps.refl _) (argsL := [(.ref (own_at (((a.toUInt32 >>> ((16 : Int32) &&& 31).toUInt32).toInt32) &&& (3 : Int32)) w_NEW w_CHANGED w_UNCHANGED w_CANCELLED))]) (rest := []) (lenOf pd__Lcom_example_kertyma_kertyma_RowOutcome__V rfl) rfl (by show 2 * 0 + _ ≤ _; exact Nat.le_of_eq rfl) (hb hby at_141) (fun _ _ => ⟨rfl, e2, (by decide : 3 + 0 ≤ _), (by decide : 13 + 0 ≤ _)⟩)
    dsimp only [Pt.U, Pt.locs, Pt.cells, Pt.slots] at X3 l3 y3 z3 st3 hQ3
    subst l3 y3 z3
    obtain ⟨rfl, N3q, O3, Kc3, Pb_3⟩ := hQ3
    have N3 := Fr.app N2 N3q
    refine Go.tr st3 ?_
    have Eo_h4 := Eo.keep Kc3
    have Fc_h4 := Fc.keep Kc3 (ninS Nob nin0)
    have Fj_h4 := Fj.keep Kc3 (ninS Nob nin0)
    show Go p e below _ (T3.setTop (mkF m 144 #[.val (.int a), .val (.int b), .val (.ref o), .val (.long n), .second] []))
    refine Go.st (fun t' k' => XS.lloadN X3.here hx rfl (hb hby at_144) rfl k') ?_
    show Go p e below _ (T3.setTop (mkF m 145 #[.val (.int a), .val (.int b), .val (.ref o), .val (.long n), .second] [(.long n)]))
    refine Go.st (fun t' k' => XS.lconst X3.here hx rfl (hb hby at_145) k') ?_
    show Go p e below _ (T3.setTop (mkF m 146 #[.val (.int a), .val (.int b), .val (.ref o), .val (.long n), .second] [(.long (1 : Int64)), (.long n)]))
    refine Go.st (fun t' k' => XS.ladd X3.here hx rfl (hb hby at_146) rfl k') ?_
    show Go p e below _ (T3.setTop (mkF m 147 #[.val (.int a), .val (.int b), .val (.ref o), .val (.long n), .second] [(.long (n + (1 : Int64)))]))
    refine Go.st (fun t' k' => XS.lstoreN X3.here hx rfl (hb hby at_147) rfl (l' := #[.val (.int a), .val (.int b), .val (.ref o), .val (.long (n + (1 : Int64))), .second]) rfl k') ?_
    -- pc 148: behind the cut
    exact blk148 Z a0 hw a b w_VALUES k_VALUES w_NEW w_CHANGED w_UNCHANGED w_CANCELLED h0 S_NEW S_CHANGED S_UNCHANGED S_CANCELLED S_VALUES A_VALUES E_VALUES E_NEW E_CHANGED E_UNCHANGED E_CANCELLED F_NEW_ordinal F_CHANGED_ordinal F_UNCHANGED_ordinal F_CANCELLED_ordinal o ((n + (1 : Int64))) bb kb j ((own_bump (((a.toUInt32 >>> ((16 : Int32) &&& 31).toUInt32).toInt32) &&& (3 : Int32)) 0 c0)) ((own_bump (((a.toUInt32 >>> ((16 : Int32) &&& 31).toUInt32).toInt32) &&& (3 : Int32)) 1 c1)) ((own_bump (((a.toUInt32 >>> ((16 : Int32) &&& 31).toUInt32).toInt32) &&& (3 : Int32)) 2 c2)) ((own_bump (((a.toUInt32 >>> ((16 : Int32) &&& 31).toUInt32).toInt32) &&& (3 : Int32)) 3 c3)) T3.heap (own_stand_mono X3 (by decide) (by decide)) hx hZ hby hml hown hret hlk rfl N3 O3 Eo_h4 Fc_h4 Fj_h4 Pb_3 Goo Gb Nob ((own_tot (own_and3 _) c0 c1 c2 c3).trans (by rw [hn]))
set_option maxRecDepth 65536 in
set_option maxHeartbeats 40000000 in
theorem blk100 {p : Program} {l : Launch} {e : Env} {s : State} {m : MethodId} {below : List Frame} {meth : Method} {c : Code} {T0 : State} {locs : List Loc} (Z : State) (a0 : Array Value) (hw : ∀ d ∈ tables_1, d.before a0 Z = true) (a : Int32) (b : Int32) (w_VALUES : Addr) (k_VALUES : ClassId) (w_NEW : Addr) (w_CHANGED : Addr) (w_UNCHANGED : Addr) (w_CANCELLED : Addr) (h0 : Heap) (S_NEW : Sta Z Z.heap "com/example/kertyma/kertyma/RowOutcome" "NEW" "Lcom/example/kertyma/kertyma/RowOutcome;" (.ref w_NEW)) (S_CHANGED : Sta Z Z.heap "com/example/kertyma/kertyma/RowOutcome" "CHANGED" "Lcom/example/kertyma/kertyma/RowOutcome;" (.ref w_CHANGED)) (S_UNCHANGED : Sta Z Z.heap "com/example/kertyma/kertyma/RowOutcome" "UNCHANGED" "Lcom/example/kertyma/kertyma/RowOutcome;" (.ref w_UNCHANGED)) (S_CANCELLED : Sta Z Z.heap "com/example/kertyma/kertyma/RowOutcome" "CANCELLED" "Lcom/example/kertyma/kertyma/RowOutcome;" (.ref w_CANCELLED)) (S_VALUES : Sta Z Z.heap "com/example/kertyma/kertyma/RowOutcome" "$VALUES" "[Lcom/example/kertyma/kertyma/RowOutcome;" (.ref w_VALUES)) (A_VALUES : Arv Z Z.heap w_VALUES k_VALUES (.object "com/example/kertyma/kertyma/RowOutcome") (4 : Int32) [(.ref w_NEW), (.ref w_CHANGED), (.ref w_UNCHANGED), (.ref w_CANCELLED)] .null) (E_VALUES : Exa Z Z.heap w_VALUES "[Lcom/example/kertyma/kertyma/RowOutcome;") (E_NEW : Exa Z Z.heap w_NEW "com/example/kertyma/kertyma/RowOutcome") (E_CHANGED : Exa Z Z.heap w_CHANGED "com/example/kertyma/kertyma/RowOutcome") (E_UNCHANGED : Exa Z Z.heap w_UNCHANGED "com/example/kertyma/kertyma/RowOutcome") (E_CANCELLED : Exa Z Z.heap w_CANCELLED "com/example/kertyma/kertyma/RowOutcome") (F_NEW_ordinal : Fld Z Z.heap w_NEW "java/lang/Enum" "ordinal" "I" (.int (0 : Int32))) (F_CHANGED_ordinal : Fld Z Z.heap w_CHANGED "java/lang/Enum" "ordinal" "I" (.int (1 : Int32))) (F_UNCHANGED_ordinal : Fld Z Z.heap w_UNCHANGED "java/lang/Enum" "ordinal" "I" (.int (2 : Int32))) (F_CANCELLED_ordinal : Fld Z Z.heap w_CANCELLED "java/lang/Enum" "ordinal" "I" (.int (3 : Int32))) (o : Addr) (n : Int64) (bb : Addr) (kb : ClassId) (j : Int64) (c0 : Int64) (c1 : Int64) (c2 : Int64) (c3 : Int64) (h : Heap) (X0 : Stand p l e room_1 s m #[(.int a), (.int b)] below meth c T0 locs 3 13)
    (hx : p.tables.exec = Jvm.exec) (hZ : Z.Warmed39 s.vm) (hby : c.code = code) (hml : c.maxLocals = 5) (hown : s.vm.findClass "com/example/kertyma/kertyma/LoadCountsTotalPinLaw" = some m.cls) (hret : meth.sig.returnType = ret) (hlk : meth.locks = false) (e0 : T0.heap = h) (N0 : Fr Z.heap.size locs) (O0 : Ext Z.heap h) (Eo : Exa Z h o "com/example/kertyma/kertyma/LoadCounts") (Fc : Fld Z h o "com/example/kertyma/kertyma/LoadCounts" "counts" "[J" (.ref bb)) (Fj : Fld Z h o "com/example/kertyma/kertyma/LoadCounts" "rejected" "J" (.long j)) (Vb : Arv Z h bb kb .long (4 : Int32) [(.long c0), (.long c1), (.long c2), (.long c3)] (.long (0 : Int64))) (Goo : Z.heap.size ≤ o) (Gb : Z.heap.size ≤ bb) (Nob : o ≠ bb) (hn : (((((0 : Int64) + c0) + c1) + c2) + c3) = n) :
    Go p e below (GO s (Q_rm0 Z a b w_VALUES k_VALUES w_NEW w_CHANGED w_UNCHANGED w_CANCELLED h0) room_1.cells room_1.slots) (T0.setTop (mkF m 100 #[.val (.int a), .val (.int b), .val (.ref o), .val (.long n), .second] [])) := by
  show Go p e below _ (T0.setTop (mkF m 100 #[.val (.int a), .val (.int b), .val (.ref o), .val (.long n), .second] []))
  refine Go.st (fun t' k' => XS.iloadN X0.here hx rfl (hb hby at_100) rfl k') ?_
  show Go p e below _ (T0.setTop (mkF m 101 #[.val (.int a), .val (.int b), .val (.ref o), .val (.long n), .second] [(.int a)]))
  refine Go.st (fun t' k' => XS.bipush X0.here hx rfl (hb hby at_101) k') ?_
  show Go p e below _ (T0.setTop (mkF m 103 #[.val (.int a), .val (.int b), .val (.ref o), .val (.long n), .second] [(.int (12 : Int32)), (.int a)]))
  refine Go.st (fun t' k' => XS.iushr X0.here hx rfl (hb hby at_103) rfl k') ?_
  show Go p e below _ (T0.setTop (mkF m 104 #[.val (.int a), .val (.int b), .val (.ref o), .val (.long n), .second] [(.int ((a.toUInt32 >>> ((12 : Int32) &&& 31).toUInt32).toInt32))]))
  refine Go.st (fun t' k' => XS.iconst X0.here hx rfl (hb hby at_104) k') ?_
  show Go p e below _ (T0.setTop (mkF m 105 #[.val (.int a), .val (.int b), .val (.ref o), .val (.long n), .second] [(.int (1 : Int32)), (.int ((a.toUInt32 >>> ((12 : Int32) &&& 31).toUInt32).toInt32))]))
  refine Go.st (fun t' k' => XS.iand X0.here hx rfl (hb hby at_105) rfl k') ?_
  show Go p e below _ (T0.setTop (mkF m 106 #[.val (.int a), .val (.int b), .val (.ref o), .val (.long n), .second] [(.int (((a.toUInt32 >>> ((12 : Int32) &&& 31).toUInt32).toInt32) &&& (1 : Int32)))]))
  by_cases hc106_1 : (((a.toUInt32 >>> ((12 : Int32) &&& 31).toUInt32).toInt32) &&& (1 : Int32)) = (0 : Int32)
  · refine Go.st (fun t' k' => XS.ifYes X0.here hx rfl (pc0 := 106) (pc' := 124) rfl (hb hby at_106) rfl ((if0 _ _).trans (teq hc106_1).1) (by decide) (by decide) k') ?_
    -- pc 124: behind the cut
    exact blk124 Z a0 hw a b w_VALUES k_VALUES w_NEW w_CHANGED w_UNCHANGED w_CANCELLED h0 S_NEW S_CHANGED S_UNCHANGED S_CANCELLED S_VALUES A_VALUES E_VALUES E_NEW E_CHANGED E_UNCHANGED E_CANCELLED F_NEW_ordinal F_CHANGED_ordinal F_UNCHANGED_ordinal F_CANCELLED_ordinal o n bb kb j c0 c1 c2 c3 h (own_stand_mono X0 (by decide) (by decide)) hx hZ hby hml hown hret hlk e0 N0 O0 Eo Fc Fj Vb Goo Gb Nob hn
  · refine Go.st (fun t' k' => XS.ifNo X0.here hx rfl (hb hby at_106) rfl ((if0 _ _).trans (feq hc106_1).1) k') ?_
    show Go p e below _ (T0.setTop (mkF m 109 #[.val (.int a), .val (.int b), .val (.ref o), .val (.long n), .second] []))
    refine Go.st (fun t' k' => XS.aloadN X0.here hx rfl (hb hby at_109) rfl rfl k') ?_
    show Go p e below _ (T0.setTop (mkF m 110 #[.val (.int a), .val (.int b), .val (.ref o), .val (.long n), .second] [(.ref o)]))
    refine Go.st (fun t' k' => XS.iloadN X0.here hx rfl (hb hby at_110) rfl k') ?_
    show Go p e below _ (T0.setTop (mkF m 111 #[.val (.int a), .val (.int b), .val (.ref o), .val (.long n), .second] [(.int a), (.ref o)]))
    refine Go.st (fun t' k' => XS.bipush X0.here hx rfl (hb hby at_111) k') ?_
    show Go p e below _ (T0.setTop (mkF m 113 #[.val (.int a), .val (.int b), .val (.ref o), .val (.long n), .second] [(.int (13 : Int32)), (.int a), (.ref o)]))
    refine Go.st (fun t' k' => XS.iushr X0.here hx rfl (hb hby at_113) rfl k') ?_
    show Go p e below _ (T0.setTop (mkF m 114 #[.val (.int a), .val (.int b), .val (.ref o), .val (.long n), .second] [(.int ((a.toUInt32 >>> ((13 : Int32) &&& 31).toUInt32).toInt32)), (.ref o)]))
    obtain ⟨_, _, ⟨T2, L2, k2, n2⟩, -, X2, ⟨Lc2, hQ2, l2, y2, z2⟩, st2⟩ := Jvm.LawKit.callS X0 hx (y := (⟨"com/example/kertyma/kertyma/LoadCountsTotalPinLaw", "outcome", "(I)Lcom/example/kertyma/kertyma/RowOutcome;"⟩ : MethodName)) hown (mvT hZ (hw _ (List.mem_of_getElem? (i := 50) rfl))) (mvT hZ (hw _ (List.mem_of_getElem? (i := 51) rfl))) (mvT hZ (hw _ (List.mem_of_getElem? (i := 52) rfl))) (mvT hZ (hw _ (List.mem_of_getElem? (i := 53) rfl))) (by decide) (backOf (W := 1) (rmPick l Z a0 hw [] (((a.toUInt32 >>> ((13 : Int32) &&& 31).toUInt32).toInt32)) w_NEW w_CHANGED w_UNCHANGED w_CANCELLED h O0 S_NEW S_CHANGED S_UNCHANGED S_CANCELLED) hZ (hw _ (List.mem_of_getElem? (i := 53) rfl)) (hw _ (List.mem_of_getElem? (i := 52) rfl)) (by decide) (by decide)) (g := (mkF m 114 #[.val (.int a), .val (.int b), .val (.ref o), .val (.long n), .second] [(.int ((a.toUInt32 >>> ((13 : Int32) &&& 31).toUInt32).toInt32)), (.ref o)])) rfl (by rw [hml]; rfl) (argsL := [(.int ((a.toUInt32 >>> ((13 : Int32) &&& 31).toUInt32).toInt32))]) (rest := [(.ref o)]) (lenOf pd__I_Lcom_example_kertyma_kertyma_RowOutcome_ rfl) rfl (by show 2 * 0 + _ ≤ _; exact Nat.le_of_eq rfl) (hb hby at_114) (fun _ _ => ⟨rfl, e0, (by decide : 3 + 0 ≤ _), (by decide : 13 + 0 ≤ _)⟩)
    dsimp only [Pt.U, Pt.locs, Pt.cells, Pt.slots] at X2 l2 y2 z2 st2 hQ2
    subst l2 y2 z2
    obtain ⟨rfl, rfl, e2⟩ := hQ2
    have N2 := Fr.app N0 (Fr.nil _)
    refine Go.st st2 ?_
    have E_at := own_at_exa (((a.toUInt32 >>> ((13 : Int32) &&& 31).toUInt32).toInt32) &&& (3 : Int32)) E_NEW E_CHANGED E_UNCHANGED E_CANCELLED
    have F_at := own_at_fld ((a.toUInt32 >>> ((13 : Int32) &&& 31).toUInt32).toInt32) F_NEW_ordinal F_CHANGED_ordinal F_UNCHANGED_ordinal F_CANCELLED_ordinal
    show Go p e below _ (T2.setTop (mkF m 117 #[.val (.int a), .val (.int b), .val (.ref o), .val (.long n), .second] [(.ref (own_at (((a.toUInt32 >>> ((13 : Int32) &&& 31).toUInt32).toInt32) &&& (3 : Int32)) w_NEW w_CHANGED w_UNCHANGED w_CANCELLED)), (.ref o)]))
    obtain ⟨cq3, kq3, q3a, q3b, q3c⟩ := isOf hZ e2 Eo
    obtain ⟨_, _, ⟨T3, L3, k3, n3⟩, -, X3, ⟨Lc3, hQ3, l3, y3, z3⟩, st3⟩ := X2.virtualBack hx (y := (⟨"com/example/kertyma/kertyma/LoadCounts", "count", "(Lcom/example/kertyma/kertyma/RowOutcome;)V"⟩ : MethodName)) (z := (⟨"com/example/kertyma/kertyma/LoadCounts", "count", "(Lcom/example/kertyma/kertyma/RowOutcome;)V"⟩ : MethodName)) hown (mvT hZ (hw _ (List.mem_of_getElem? (i := 55) rfl))) (mvT hZ (hw _ (List.mem_of_getElem? (i := 56) rfl))) (notFace_of_selects (args := #[]) (mvT hZ (hw _ (List.mem_of_getElem? (i := 58) rfl)))) (mvT hZ (hw _ (List.mem_of_getElem? (i := 58) rfl))) (mvT hZ (hw _ (List.mem_of_getElem? (i := 57) rfl))) (by decide) (backOf (W := 0) (rmCount l Z a0 hw [] o ((own_at (((a.toUInt32 >>> ((13 : Int32) &&& 31).toUInt32).toInt32) &&& (3 : Int32)) w_NEW w_CHANGED w_UNCHANGED w_CANCELLED)) bb kb c0 c1 c2 c3 ((((a.toUInt32 >>> ((13 : Int32) &&& 31).toUInt32).toInt32) &&& (3 : Int32))) h O0 Fc Vb E_at F_at (own_and3 _) Gb Nob) hZ (hw _ (List.mem_of_getElem? (i := 59) rfl)) (hw _ (List.mem_of_getElem? (i := 2) rfl)) (by decide) (by decide)) q3a q3c (g := (mkF m 117 #[.val (.int a), .val (.int b), .val (.ref o), .val (.long n), .second] [(.ref (own_at (((a.toUInt32 >>> ((13 : Int32) &&& 31).toUInt32).toInt32) &&& (3 : Int32)) w_NEW w_CHANGED w_UNCHANGED w_CANCELLED)), (.ref o)])) rfl (by rw [hml]; rfl) (Steps.refl _) (argsL := [(.ref (own_at (((a.toUInt32 >>> ((13 : Int32) &&& 31).toUInt32).toInt32) &&& (3 : Int32)) w_NEW w_CHANGED w_UNCHANGED w_CANCELLED))]) (rest := []) (lenOf pd__Lcom_example_kertyma_kertyma_RowOutcome__V rfl) rfl (by show 2 * 0 + _ ≤ _; exact Nat.le_of_eq rfl) (hb hby at_117) (fun _ _ => ⟨rfl, e2, (by decide : 3 + 0 ≤ _), (by decide : 13 + 0 ≤ _)⟩)
    dsimp only [Pt.U, Pt.locs, Pt.cells, Pt.slots] at X3 l3 y3 z3 st3 hQ3
    subst l3 y3 z3
    obtain ⟨rfl, N3q, O3, Kc3, Pb_3⟩ := hQ3
    have N3 := Fr.app N2 N3q
    refine Go.tr st3 ?_
    have Eo_h4 := Eo.keep Kc3
    have Fc_h4 := Fc.keep Kc3 (ninS Nob nin0)
    have Fj_h4 := Fj.keep Kc3 (ninS Nob nin0)
    show Go p e below _ (T3.setTop (mkF m 120 #[.val (.int a), .val (.int b), .val (.ref o), .val (.long n), .second] []))
    refine Go.st (fun t' k' => XS.lloadN X3.here hx rfl (hb hby at_120) rfl k') ?_
    show Go p e below _ (T3.setTop (mkF m 121 #[.val (.int a), .val (.int b), .val (.ref o), .val (.long n), .second] [(.long n)]))
    refine Go.st (fun t' k' => XS.lconst X3.here hx rfl (hb hby at_121) k') ?_
    show Go p e below _ (T3.setTop (mkF m 122 #[.val (.int a), .val (.int b), .val (.ref o), .val (.long n), .second] [(.long (1 : Int64)), (.long n)]))
    refine Go.st (fun t' k' => XS.ladd X3.here hx rfl (hb hby at_122) rfl k') ?_
    show Go p e below _ (T3.setTop (mkF m 123 #[.val (.int a), .val (.int b), .val (.ref o), .val (.long n), .second] [(.long (n + (1 : Int64)))]))
    refine Go.st (fun t' k' => XS.lstoreN X3.here hx rfl (hb hby at_123) rfl (l' := #[.val (.int a), .val (.int b), .val (.ref o), .val (.long (n + (1 : Int64))), .second]) rfl k') ?_
    -- pc 124: behind the cut
    exact blk124 Z a0 hw a b w_VALUES k_VALUES w_NEW w_CHANGED w_UNCHANGED w_CANCELLED h0 S_NEW S_CHANGED S_UNCHANGED S_CANCELLED S_VALUES A_VALUES E_VALUES E_NEW E_CHANGED E_UNCHANGED E_CANCELLED F_NEW_ordinal F_CHANGED_ordinal F_UNCHANGED_ordinal F_CANCELLED_ordinal o ((n + (1 : Int64))) bb kb j ((own_bump (((a.toUInt32 >>> ((13 : Int32) &&& 31).toUInt32).toInt32) &&& (3 : Int32)) 0 c0)) ((own_bump (((a.toUInt32 >>> ((13 : Int32) &&& 31).toUInt32).toInt32) &&& (3 : Int32)) 1 c1)) ((own_bump (((a.toUInt32 >>> ((13 : Int32) &&& 31).toUInt32).toInt32) &&& (3 : Int32)) 2 c2)) ((own_bump (((a.toUInt32 >>> ((13 : Int32) &&& 31).toUInt32).toInt32) &&& (3 : Int32)) 3 c3)) T3.heap (own_stand_mono X3 (by decide) (by decide)) hx hZ hby hml hown hret hlk rfl N3 O3 Eo_h4 Fc_h4 Fj_h4 Pb_3 Goo Gb Nob ((own_tot (own_and3 _) c0 c1 c2 c3).trans (by rw [hn]))
set_option maxRecDepth 65536 in
set_option maxHeartbeats 40000000 in
theorem blk76 {p : Program} {l : Launch} {e : Env} {s : State} {m : MethodId} {below : List Frame} {meth : Method} {c : Code} {T0 : State} {locs : List Loc} (Z : State) (a0 : Array Value) (hw : ∀ d ∈ tables_1, d.before a0 Z = true) (a : Int32) (b : Int32) (w_VALUES : Addr) (k_VALUES : ClassId) (w_NEW : Addr) (w_CHANGED : Addr) (w_UNCHANGED : Addr) (w_CANCELLED : Addr) (h0 : Heap) (S_NEW : Sta Z Z.heap "com/example/kertyma/kertyma/RowOutcome" "NEW" "Lcom/example/kertyma/kertyma/RowOutcome;" (.ref w_NEW)) (S_CHANGED : Sta Z Z.heap "com/example/kertyma/kertyma/RowOutcome" "CHANGED" "Lcom/example/kertyma/kertyma/RowOutcome;" (.ref w_CHANGED)) (S_UNCHANGED : Sta Z Z.heap "com/example/kertyma/kertyma/RowOutcome" "UNCHANGED" "Lcom/example/kertyma/kertyma/RowOutcome;" (.ref w_UNCHANGED)) (S_CANCELLED : Sta Z Z.heap "com/example/kertyma/kertyma/RowOutcome" "CANCELLED" "Lcom/example/kertyma/kertyma/RowOutcome;" (.ref w_CANCELLED)) (S_VALUES : Sta Z Z.heap "com/example/kertyma/kertyma/RowOutcome" "$VALUES" "[Lcom/example/kertyma/kertyma/RowOutcome;" (.ref w_VALUES)) (A_VALUES : Arv Z Z.heap w_VALUES k_VALUES (.object "com/example/kertyma/kertyma/RowOutcome") (4 : Int32) [(.ref w_NEW), (.ref w_CHANGED), (.ref w_UNCHANGED), (.ref w_CANCELLED)] .null) (E_VALUES : Exa Z Z.heap w_VALUES "[Lcom/example/kertyma/kertyma/RowOutcome;") (E_NEW : Exa Z Z.heap w_NEW "com/example/kertyma/kertyma/RowOutcome") (E_CHANGED : Exa Z Z.heap w_CHANGED "com/example/kertyma/kertyma/RowOutcome") (E_UNCHANGED : Exa Z Z.heap w_UNCHANGED "com/example/kertyma/kertyma/RowOutcome") (E_CANCELLED : Exa Z Z.heap w_CANCELLED "com/example/kertyma/kertyma/RowOutcome") (F_NEW_ordinal : Fld Z Z.heap w_NEW "java/lang/Enum" "ordinal" "I" (.int (0 : Int32))) (F_CHANGED_ordinal : Fld Z Z.heap w_CHANGED "java/lang/Enum" "ordinal" "I" (.int (1 : Int32))) (F_UNCHANGED_ordinal : Fld Z Z.heap w_UNCHANGED "java/lang/Enum" "ordinal" "I" (.int (2 : Int32))) (F_CANCELLED_ordinal : Fld Z Z.heap w_CANCELLED "java/lang/Enum" "ordinal" "I" (.int (3 : Int32))) (o : Addr) (n : Int64) (bb : Addr) (kb : ClassId) (j : Int64) (c0 : Int64) (c1 : Int64) (c2 : Int64) (c3 : Int64) (h : Heap) (X0 : Stand p l e room_1 s m #[(.int a), (.int b)] below meth c T0 locs 3 13)
    (hx : p.tables.exec = Jvm.exec) (hZ : Z.Warmed39 s.vm) (hby : c.code = code) (hml : c.maxLocals = 5) (hown : s.vm.findClass "com/example/kertyma/kertyma/LoadCountsTotalPinLaw" = some m.cls) (hret : meth.sig.returnType = ret) (hlk : meth.locks = false) (e0 : T0.heap = h) (N0 : Fr Z.heap.size locs) (O0 : Ext Z.heap h) (Eo : Exa Z h o "com/example/kertyma/kertyma/LoadCounts") (Fc : Fld Z h o "com/example/kertyma/kertyma/LoadCounts" "counts" "[J" (.ref bb)) (Fj : Fld Z h o "com/example/kertyma/kertyma/LoadCounts" "rejected" "J" (.long j)) (Vb : Arv Z h bb kb .long (4 : Int32) [(.long c0), (.long c1), (.long c2), (.long c3)] (.long (0 : Int64))) (Goo : Z.heap.size ≤ o) (Gb : Z.heap.size ≤ bb) (Nob : o ≠ bb) (hn : (((((0 : Int64) + c0) + c1) + c2) + c3) = n) :
    Go p e below (GO s (Q_rm0 Z a b w_VALUES k_VALUES w_NEW w_CHANGED w_UNCHANGED w_CANCELLED h0) room_1.cells room_1.slots) (T0.setTop (mkF m 76 #[.val (.int a), .val (.int b), .val (.ref o), .val (.long n), .second] [])) := by
  show Go p e below _ (T0.setTop (mkF m 76 #[.val (.int a), .val (.int b), .val (.ref o), .val (.long n), .second] []))
  refine Go.st (fun t' k' => XS.iloadN X0.here hx rfl (hb hby at_76) rfl k') ?_
  show Go p e below _ (T0.setTop (mkF m 77 #[.val (.int a), .val (.int b), .val (.ref o), .val (.long n), .second] [(.int a)]))
  refine Go.st (fun t' k' => XS.bipush X0.here hx rfl (hb hby at_77) k') ?_
  show Go p e below _ (T0.setTop (mkF m 79 #[.val (.int a), .val (.int b), .val (.ref o), .val (.long n), .second] [(.int (9 : Int32)), (.int a)]))
  refine Go.st (fun t' k' => XS.iushr X0.here hx rfl (hb hby at_79) rfl k') ?_
  show Go p e below _ (T0.setTop (mkF m 80 #[.val (.int a), .val (.int b), .val (.ref o), .val (.long n), .second] [(.int ((a.toUInt32 >>> ((9 : Int32) &&& 31).toUInt32).toInt32))]))
  refine Go.st (fun t' k' => XS.iconst X0.here hx rfl (hb hby at_80) k') ?_
  show Go p e below _ (T0.setTop (mkF m 81 #[.val (.int a), .val (.int b), .val (.ref o), .val (.long n), .second] [(.int (1 : Int32)), (.int ((a.toUInt32 >>> ((9 : Int32) &&& 31).toUInt32).toInt32))]))
  refine Go.st (fun t' k' => XS.iand X0.here hx rfl (hb hby at_81) rfl k') ?_
  show Go p e below _ (T0.setTop (mkF m 82 #[.val (.int a), .val (.int b), .val (.ref o), .val (.long n), .second] [(.int (((a.toUInt32 >>> ((9 : Int32) &&& 31).toUInt32).toInt32) &&& (1 : Int32)))]))
  by_cases hc82_1 : (((a.toUInt32 >>> ((9 : Int32) &&& 31).toUInt32).toInt32) &&& (1 : Int32)) = (0 : Int32)
  · refine Go.st (fun t' k' => XS.ifYes X0.here hx rfl (pc0 := 82) (pc' := 100) rfl (hb hby at_82) rfl ((if0 _ _).trans (teq hc82_1).1) (by decide) (by decide) k') ?_
    -- pc 100: behind the cut
    exact blk100 Z a0 hw a b w_VALUES k_VALUES w_NEW w_CHANGED w_UNCHANGED w_CANCELLED h0 S_NEW S_CHANGED S_UNCHANGED S_CANCELLED S_VALUES A_VALUES E_VALUES E_NEW E_CHANGED E_UNCHANGED E_CANCELLED F_NEW_ordinal F_CHANGED_ordinal F_UNCHANGED_ordinal F_CANCELLED_ordinal o n bb kb j c0 c1 c2 c3 h (own_stand_mono X0 (by decide) (by decide)) hx hZ hby hml hown hret hlk e0 N0 O0 Eo Fc Fj Vb Goo Gb Nob hn
  · refine Go.st (fun t' k' => XS.ifNo X0.here hx rfl (hb hby at_82) rfl ((if0 _ _).trans (feq hc82_1).1) k') ?_
    show Go p e below _ (T0.setTop (mkF m 85 #[.val (.int a), .val (.int b), .val (.ref o), .val (.long n), .second] []))
    refine Go.st (fun t' k' => XS.aloadN X0.here hx rfl (hb hby at_85) rfl rfl k') ?_
    show Go p e below _ (T0.setTop (mkF m 86 #[.val (.int a), .val (.int b), .val (.ref o), .val (.long n), .second] [(.ref o)]))
    refine Go.st (fun t' k' => XS.iloadN X0.here hx rfl (hb hby at_86) rfl k') ?_
    show Go p e below _ (T0.setTop (mkF m 87 #[.val (.int a), .val (.int b), .val (.ref o), .val (.long n), .second] [(.int a), (.ref o)]))
    refine Go.st (fun t' k' => XS.bipush X0.here hx rfl (hb hby at_87) k') ?_
    show Go p e below _ (T0.setTop (mkF m 89 #[.val (.int a), .val (.int b), .val (.ref o), .val (.long n), .second] [(.int (10 : Int32)), (.int a), (.ref o)]))
    refine Go.st (fun t' k' => XS.iushr X0.here hx rfl (hb hby at_89) rfl k') ?_
    show Go p e below _ (T0.setTop (mkF m 90 #[.val (.int a), .val (.int b), .val (.ref o), .val (.long n), .second] [(.int ((a.toUInt32 >>> ((10 : Int32) &&& 31).toUInt32).toInt32)), (.ref o)]))
    obtain ⟨_, _, ⟨T2, L2, k2, n2⟩, -, X2, ⟨Lc2, hQ2, l2, y2, z2⟩, st2⟩ := Jvm.LawKit.callS X0 hx (y := (⟨"com/example/kertyma/kertyma/LoadCountsTotalPinLaw", "outcome", "(I)Lcom/example/kertyma/kertyma/RowOutcome;"⟩ : MethodName)) hown (mvT hZ (hw _ (List.mem_of_getElem? (i := 50) rfl))) (mvT hZ (hw _ (List.mem_of_getElem? (i := 51) rfl))) (mvT hZ (hw _ (List.mem_of_getElem? (i := 52) rfl))) (mvT hZ (hw _ (List.mem_of_getElem? (i := 53) rfl))) (by decide) (backOf (W := 1) (rmPick l Z a0 hw [] (((a.toUInt32 >>> ((10 : Int32) &&& 31).toUInt32).toInt32)) w_NEW w_CHANGED w_UNCHANGED w_CANCELLED h O0 S_NEW S_CHANGED S_UNCHANGED S_CANCELLED) hZ (hw _ (List.mem_of_getElem? (i := 53) rfl)) (hw _ (List.mem_of_getElem? (i := 52) rfl)) (by decide) (by decide)) (g := (mkF m 90 #[.val (.int a), .val (.int b), .val (.ref o), .val (.long n), .second] [(.int ((a.toUInt32 >>> ((10 : Int32) &&& 31).toUInt32).toInt32)), (.ref o)])) rfl (by rw [hml]; rfl) (argsL := [(.int ((a.toUInt32 >>> ((10 : Int32) &&& 31).toUInt32).toInt32))]) (rest := [(.ref o)]) (lenOf pd__I_Lcom_example_kertyma_kertyma_RowOutcome_ rfl) rfl (by show 2 * 0 + _ ≤ _; exact Nat.le_of_eq rfl) (hb hby at_90) (fun _ _ => ⟨rfl, e0, (by decide : 3 + 0 ≤ _), (by decide : 13 + 0 ≤ _)⟩)
    dsimp only [Pt.U, Pt.locs, Pt.cells, Pt.slots] at X2 l2 y2 z2 st2 hQ2
    subst l2 y2 z2
    obtain ⟨rfl, rfl, e2⟩ := hQ2
    have N2 := Fr.app N0 (Fr.nil _)
    refine Go.st st2 ?_
    have E_at := own_at_exa (((a.toUInt32 >>> ((10 : Int32) &&& 31).toUInt32).toInt32) &&& (3 : Int32)) E_NEW E_CHANGED E_UNCHANGED E_CANCELLED
    have F_at := own_at_fld ((a.toUInt32 >>> ((10 : Int32) &&& 31).toUInt32).toInt32) F_NEW_ordinal F_CHANGED_ordinal F_UNCHANGED_ordinal F_CANCELLED_ordinal
    show Go p e below _ (T2.setTop (mkF m 93 #[.val (.int a), .val (.int b), .val (.ref o), .val (.long n), .second] [(.ref (own_at (((a.toUInt32 >>> ((10 : Int32) &&& 31).toUInt32).toInt32) &&& (3 : Int32)) w_NEW w_CHANGED w_UNCHANGED w_CANCELLED)), (.ref o)]))
    obtain ⟨cq3, kq3, q3a, q3b, q3c⟩ := isOf hZ e2 Eo
    obtain ⟨_, _, ⟨T3, L3, k3, n3⟩, -, X3, ⟨Lc3, hQ3, l3, y3, z3⟩, st3⟩ := X2.virtualBack hx (y := (⟨"com/example/kertyma/kertyma/LoadCounts", "count", "(Lcom/example/kertyma/kertyma/RowOutcome;)V"⟩ : MethodName)) (z := (⟨"com/example/kertyma/kertyma/LoadCounts", "count", "(Lcom/example/kertyma/kertyma/RowOutcome;)V"⟩ : MethodName)) hown (mvT hZ (hw _ (List.mem_of_getElem? (i := 55) rfl))) (mvT hZ (hw _ (List.mem_of_getElem? (i := 56) rfl))) (notFace_of_selects (args := #[]) (mvT hZ (hw _ (List.mem_of_getElem? (i := 58) rfl)))) (mvT hZ (hw _ (List.mem_of_getElem? (i := 58) rfl))) (mvT hZ (hw _ (List.mem_of_getElem? (i := 57) rfl))) (by decide) (backOf (W := 0) (rmCount l Z a0 hw [] o ((own_at (((a.toUInt32 >>> ((10 : Int32) &&& 31).toUInt32).toInt32) &&& (3 : Int32)) w_NEW w_CHANGED w_UNCHANGED w_CANCELLED)) bb kb c0 c1 c2 c3 ((((a.toUInt32 >>> ((10 : Int32) &&& 31).toUInt32).toInt32) &&& (3 : Int32))) h O0 Fc Vb E_at F_at (own_and3 _) Gb Nob) hZ (hw _ (List.mem_of_getElem? (i := 59) rfl)) (hw _ (List.mem_of_getElem? (i := 2) rfl)) (by decide) (by decide)) q3a q3c (g := (mkF m 93 #[.val (.int a), .val (.int b), .val (.ref o), .val (.long n), .second] [(.ref (own_at (((a.toUInt32 >>> ((10 : Int32) &&& 31).toUInt32).toInt32) &&& (3 : Int32)) w_NEW w_CHANGED w_UNCHANGED w_CANCELLED)), (.ref o)])) rfl (by rw [hml]; rfl) (Steps.refl _) (argsL := [(.ref (own_at (((a.toUInt32 >>> ((10 : Int32) &&& 31).toUInt32).toInt32) &&& (3 : Int32)) w_NEW w_CHANGED w_UNCHANGED w_CANCELLED))]) (rest := []) (lenOf pd__Lcom_example_kertyma_kertyma_RowOutcome__V rfl) rfl (by show 2 * 0 + _ ≤ _; exact Nat.le_of_eq rfl) (hb hby at_93) (fun _ _ => ⟨rfl, e2, (by decide : 3 + 0 ≤ _), (by decide : 13 + 0 ≤ _)⟩)
    dsimp only [Pt.U, Pt.locs, Pt.cells, Pt.slots] at X3 l3 y3 z3 st3 hQ3
    subst l3 y3 z3
    obtain ⟨rfl, N3q, O3, Kc3, Pb_3⟩ := hQ3
    have N3 := Fr.app N2 N3q
    refine Go.tr st3 ?_
    have Eo_h4 := Eo.keep Kc3
    have Fc_h4 := Fc.keep Kc3 (ninS Nob nin0)
    have Fj_h4 := Fj.keep Kc3 (ninS Nob nin0)
    show Go p e below _ (T3.setTop (mkF m 96 #[.val (.int a), .val (.int b), .val (.ref o), .val (.long n), .second] []))
    refine Go.st (fun t' k' => XS.lloadN X3.here hx rfl (hb hby at_96) rfl k') ?_
    show Go p e below _ (T3.setTop (mkF m 97 #[.val (.int a), .val (.int b), .val (.ref o), .val (.long n), .second] [(.long n)]))
    refine Go.st (fun t' k' => XS.lconst X3.here hx rfl (hb hby at_97) k') ?_
    show Go p e below _ (T3.setTop (mkF m 98 #[.val (.int a), .val (.int b), .val (.ref o), .val (.long n), .second] [(.long (1 : Int64)), (.long n)]))
    refine Go.st (fun t' k' => XS.ladd X3.here hx rfl (hb hby at_98) rfl k') ?_
    show Go p e below _ (T3.setTop (mkF m 99 #[.val (.int a), .val (.int b), .val (.ref o), .val (.long n), .second] [(.long (n + (1 : Int64)))]))
    refine Go.st (fun t' k' => XS.lstoreN X3.here hx rfl (hb hby at_99) rfl (l' := #[.val (.int a), .val (.int b), .val (.ref o), .val (.long (n + (1 : Int64))), .second]) rfl k') ?_
    -- pc 100: behind the cut
    exact blk100 Z a0 hw a b w_VALUES k_VALUES w_NEW w_CHANGED w_UNCHANGED w_CANCELLED h0 S_NEW S_CHANGED S_UNCHANGED S_CANCELLED S_VALUES A_VALUES E_VALUES E_NEW E_CHANGED E_UNCHANGED E_CANCELLED F_NEW_ordinal F_CHANGED_ordinal F_UNCHANGED_ordinal F_CANCELLED_ordinal o ((n + (1 : Int64))) bb kb j ((own_bump (((a.toUInt32 >>> ((10 : Int32) &&& 31).toUInt32).toInt32) &&& (3 : Int32)) 0 c0)) ((own_bump (((a.toUInt32 >>> ((10 : Int32) &&& 31).toUInt32).toInt32) &&& (3 : Int32)) 1 c1)) ((own_bump (((a.toUInt32 >>> ((10 : Int32) &&& 31).toUInt32).toInt32) &&& (3 : Int32)) 2 c2)) ((own_bump (((a.toUInt32 >>> ((10 : Int32) &&& 31).toUInt32).toInt32) &&& (3 : Int32)) 3 c3)) T3.heap (own_stand_mono X3 (by decide) (by decide)) hx hZ hby hml hown hret hlk rfl N3 O3 Eo_h4 Fc_h4 Fj_h4 Pb_3 Goo Gb Nob ((own_tot (own_and3 _) c0 c1 c2 c3).trans (by rw [hn]))
set_option maxRecDepth 65536 in
set_option maxHeartbeats 40000000 in
theorem blk52 {p : Program} {l : Launch} {e : Env} {s : State} {m : MethodId} {below : List Frame} {meth : Method} {c : Code} {T0 : State} {locs : List Loc} (Z : State) (a0 : Array Value) (hw : ∀ d ∈ tables_1, d.before a0 Z = true) (a : Int32) (b : Int32) (w_VALUES : Addr) (k_VALUES : ClassId) (w_NEW : Addr) (w_CHANGED : Addr) (w_UNCHANGED : Addr) (w_CANCELLED : Addr) (h0 : Heap) (S_NEW : Sta Z Z.heap "com/example/kertyma/kertyma/RowOutcome" "NEW" "Lcom/example/kertyma/kertyma/RowOutcome;" (.ref w_NEW)) (S_CHANGED : Sta Z Z.heap "com/example/kertyma/kertyma/RowOutcome" "CHANGED" "Lcom/example/kertyma/kertyma/RowOutcome;" (.ref w_CHANGED)) (S_UNCHANGED : Sta Z Z.heap "com/example/kertyma/kertyma/RowOutcome" "UNCHANGED" "Lcom/example/kertyma/kertyma/RowOutcome;" (.ref w_UNCHANGED)) (S_CANCELLED : Sta Z Z.heap "com/example/kertyma/kertyma/RowOutcome" "CANCELLED" "Lcom/example/kertyma/kertyma/RowOutcome;" (.ref w_CANCELLED)) (S_VALUES : Sta Z Z.heap "com/example/kertyma/kertyma/RowOutcome" "$VALUES" "[Lcom/example/kertyma/kertyma/RowOutcome;" (.ref w_VALUES)) (A_VALUES : Arv Z Z.heap w_VALUES k_VALUES (.object "com/example/kertyma/kertyma/RowOutcome") (4 : Int32) [(.ref w_NEW), (.ref w_CHANGED), (.ref w_UNCHANGED), (.ref w_CANCELLED)] .null) (E_VALUES : Exa Z Z.heap w_VALUES "[Lcom/example/kertyma/kertyma/RowOutcome;") (E_NEW : Exa Z Z.heap w_NEW "com/example/kertyma/kertyma/RowOutcome") (E_CHANGED : Exa Z Z.heap w_CHANGED "com/example/kertyma/kertyma/RowOutcome") (E_UNCHANGED : Exa Z Z.heap w_UNCHANGED "com/example/kertyma/kertyma/RowOutcome") (E_CANCELLED : Exa Z Z.heap w_CANCELLED "com/example/kertyma/kertyma/RowOutcome") (F_NEW_ordinal : Fld Z Z.heap w_NEW "java/lang/Enum" "ordinal" "I" (.int (0 : Int32))) (F_CHANGED_ordinal : Fld Z Z.heap w_CHANGED "java/lang/Enum" "ordinal" "I" (.int (1 : Int32))) (F_UNCHANGED_ordinal : Fld Z Z.heap w_UNCHANGED "java/lang/Enum" "ordinal" "I" (.int (2 : Int32))) (F_CANCELLED_ordinal : Fld Z Z.heap w_CANCELLED "java/lang/Enum" "ordinal" "I" (.int (3 : Int32))) (o : Addr) (n : Int64) (bb : Addr) (kb : ClassId) (j : Int64) (c0 : Int64) (c1 : Int64) (c2 : Int64) (c3 : Int64) (h : Heap) (X0 : Stand p l e room_1 s m #[(.int a), (.int b)] below meth c T0 locs 3 13)
    (hx : p.tables.exec = Jvm.exec) (hZ : Z.Warmed39 s.vm) (hby : c.code = code) (hml : c.maxLocals = 5) (hown : s.vm.findClass "com/example/kertyma/kertyma/LoadCountsTotalPinLaw" = some m.cls) (hret : meth.sig.returnType = ret) (hlk : meth.locks = false) (e0 : T0.heap = h) (N0 : Fr Z.heap.size locs) (O0 : Ext Z.heap h) (Eo : Exa Z h o "com/example/kertyma/kertyma/LoadCounts") (Fc : Fld Z h o "com/example/kertyma/kertyma/LoadCounts" "counts" "[J" (.ref bb)) (Fj : Fld Z h o "com/example/kertyma/kertyma/LoadCounts" "rejected" "J" (.long j)) (Vb : Arv Z h bb kb .long (4 : Int32) [(.long c0), (.long c1), (.long c2), (.long c3)] (.long (0 : Int64))) (Goo : Z.heap.size ≤ o) (Gb : Z.heap.size ≤ bb) (Nob : o ≠ bb) (hn : (((((0 : Int64) + c0) + c1) + c2) + c3) = n) :
    Go p e below (GO s (Q_rm0 Z a b w_VALUES k_VALUES w_NEW w_CHANGED w_UNCHANGED w_CANCELLED h0) room_1.cells room_1.slots) (T0.setTop (mkF m 52 #[.val (.int a), .val (.int b), .val (.ref o), .val (.long n), .second] [])) := by
  show Go p e below _ (T0.setTop (mkF m 52 #[.val (.int a), .val (.int b), .val (.ref o), .val (.long n), .second] []))
  refine Go.st (fun t' k' => XS.iloadN X0.here hx rfl (hb hby at_52) rfl k') ?_
  show Go p e below _ (T0.setTop (mkF m 53 #[.val (.int a), .val (.int b), .val (.ref o), .val (.long n), .second] [(.int a)]))
  refine Go.st (fun t' k' => XS.bipush X0.here hx rfl (hb hby at_53) k') ?_
  show Go p e below _ (T0.setTop (mkF m 55 #[.val (.int a), .val (.int b), .val (.ref o), .val (.long n), .second] [(.int (6 : Int32)), (.int a)]))
  refine Go.st (fun t' k' => XS.iushr X0.here hx rfl (hb hby at_55) rfl k') ?_
  show Go p e below _ (T0.setTop (mkF m 56 #[.val (.int a), .val (.int b), .val (.ref o), .val (.long n), .second] [(.int ((a.toUInt32 >>> ((6 : Int32) &&& 31).toUInt32).toInt32))]))
  refine Go.st (fun t' k' => XS.iconst X0.here hx rfl (hb hby at_56) k') ?_
  show Go p e below _ (T0.setTop (mkF m 57 #[.val (.int a), .val (.int b), .val (.ref o), .val (.long n), .second] [(.int (1 : Int32)), (.int ((a.toUInt32 >>> ((6 : Int32) &&& 31).toUInt32).toInt32))]))
  refine Go.st (fun t' k' => XS.iand X0.here hx rfl (hb hby at_57) rfl k') ?_
  show Go p e below _ (T0.setTop (mkF m 58 #[.val (.int a), .val (.int b), .val (.ref o), .val (.long n), .second] [(.int (((a.toUInt32 >>> ((6 : Int32) &&& 31).toUInt32).toInt32) &&& (1 : Int32)))]))
  by_cases hc58_1 : (((a.toUInt32 >>> ((6 : Int32) &&& 31).toUInt32).toInt32) &&& (1 : Int32)) = (0 : Int32)
  · refine Go.st (fun t' k' => XS.ifYes X0.here hx rfl (pc0 := 58) (pc' := 76) rfl (hb hby at_58) rfl ((if0 _ _).trans (teq hc58_1).1) (by decide) (by decide) k') ?_
    -- pc 76: behind the cut
    exact blk76 Z a0 hw a b w_VALUES k_VALUES w_NEW w_CHANGED w_UNCHANGED w_CANCELLED h0 S_NEW S_CHANGED S_UNCHANGED S_CANCELLED S_VALUES A_VALUES E_VALUES E_NEW E_CHANGED E_UNCHANGED E_CANCELLED F_NEW_ordinal F_CHANGED_ordinal F_UNCHANGED_ordinal F_CANCELLED_ordinal o n bb kb j c0 c1 c2 c3 h (own_stand_mono X0 (by decide) (by decide)) hx hZ hby hml hown hret hlk e0 N0 O0 Eo Fc Fj Vb Goo Gb Nob hn
  · refine Go.st (fun t' k' => XS.ifNo X0.here hx rfl (hb hby at_58) rfl ((if0 _ _).trans (feq hc58_1).1) k') ?_
    show Go p e below _ (T0.setTop (mkF m 61 #[.val (.int a), .val (.int b), .val (.ref o), .val (.long n), .second] []))
    refine Go.st (fun t' k' => XS.aloadN X0.here hx rfl (hb hby at_61) rfl rfl k') ?_
    show Go p e below _ (T0.setTop (mkF m 62 #[.val (.int a), .val (.int b), .val (.ref o), .val (.long n), .second] [(.ref o)]))
    refine Go.st (fun t' k' => XS.iloadN X0.here hx rfl (hb hby at_62) rfl k') ?_
    show Go p e below _ (T0.setTop (mkF m 63 #[.val (.int a), .val (.int b), .val (.ref o), .val (.long n), .second] [(.int a), (.ref o)]))
    refine Go.st (fun t' k' => XS.bipush X0.here hx rfl (hb hby at_63) k') ?_
    show Go p e below _ (T0.setTop (mkF m 65 #[.val (.int a), .val (.int b), .val (.ref o), .val (.long n), .second] [(.int (7 : Int32)), (.int a), (.ref o)]))
    refine Go.st (fun t' k' => XS.iushr X0.here hx rfl (hb hby at_65) rfl k') ?_
    show Go p e below _ (T0.setTop (mkF m 66 #[.val (.int a), .val (.int b), .val (.ref o), .val (.long n), .second] [(.int ((a.toUInt32 >>> ((7 : Int32) &&& 31).toUInt32).toInt32)), (.ref o)]))
    obtain ⟨_, _, ⟨T2, L2, k2, n2⟩, -, X2, ⟨Lc2, hQ2, l2, y2, z2⟩, st2⟩ := Jvm.LawKit.callS X0 hx (y := (⟨"com/example/kertyma/kertyma/LoadCountsTotalPinLaw", "outcome", "(I)Lcom/example/kertyma/kertyma/RowOutcome;"⟩ : MethodName)) hown (mvT hZ (hw _ (List.mem_of_getElem? (i := 50) rfl))) (mvT hZ (hw _ (List.mem_of_getElem? (i := 51) rfl))) (mvT hZ (hw _ (List.mem_of_getElem? (i := 52) rfl))) (mvT hZ (hw _ (List.mem_of_getElem? (i := 53) rfl))) (by decide) (backOf (W := 1) (rmPick l Z a0 hw [] (((a.toUInt32 >>> ((7 : Int32) &&& 31).toUInt32).toInt32)) w_NEW w_CHANGED w_UNCHANGED w_CANCELLED h O0 S_NEW S_CHANGED S_UNCHANGED S_CANCELLED) hZ (hw _ (List.mem_of_getElem? (i := 53) rfl)) (hw _ (List.mem_of_getElem? (i := 52) rfl)) (by decide) (by decide)) (g := (mkF m 66 #[.val (.int a), .val (.int b), .val (.ref o), .val (.long n), .second] [(.int ((a.toUInt32 >>> ((7 : Int32) &&& 31).toUInt32).toInt32)), (.ref o)])) rfl (by rw [hml]; rfl) (argsL := [(.int ((a.toUInt32 >>> ((7 : Int32) &&& 31).toUInt32).toInt32))]) (rest := [(.ref o)]) (lenOf pd__I_Lcom_example_kertyma_kertyma_RowOutcome_ rfl) rfl (by show 2 * 0 + _ ≤ _; exact Nat.le_of_eq rfl) (hb hby at_66) (fun _ _ => ⟨rfl, e0, (by decide : 3 + 0 ≤ _), (by decide : 13 + 0 ≤ _)⟩)
    dsimp only [Pt.U, Pt.locs, Pt.cells, Pt.slots] at X2 l2 y2 z2 st2 hQ2
    subst l2 y2 z2
    obtain ⟨rfl, rfl, e2⟩ := hQ2
    have N2 := Fr.app N0 (Fr.nil _)
    refine Go.st st2 ?_
    have E_at := own_at_exa (((a.toUInt32 >>> ((7 : Int32) &&& 31).toUInt32).toInt32) &&& (3 : Int32)) E_NEW E_CHANGED E_UNCHANGED E_CANCELLED
    have F_at := own_at_fld ((a.toUInt32 >>> ((7 : Int32) &&& 31).toUInt32).toInt32) F_NEW_ordinal F_CHANGED_ordinal F_UNCHANGED_ordinal F_CANCELLED_ordinal
    show Go p e below _ (T2.setTop (mkF m 69 #[.val (.int a), .val (.int b), .val (.ref o), .val (.long n), .second] [(.ref (own_at (((a.toUInt32 >>> ((7 : Int32) &&& 31).toUInt32).toInt32) &&& (3 : Int32)) w_NEW w_CHANGED w_UNCHANGED w_CANCELLED)), (.ref o)]))
    obtain ⟨cq3, kq3, q3a, q3b, q3c⟩ := isOf hZ e2 Eo
    obtain ⟨_, _, ⟨T3, L3, k3, n3⟩, -, X3, ⟨Lc3, hQ3, l3, y3, z3⟩, st3⟩ := X2.virtualBack hx (y := (⟨"com/example/kertyma/kertyma/LoadCounts", "count", "(Lcom/example/kertyma/kertyma/RowOutcome;)V"⟩ : MethodName)) (z := (⟨"com/example/kertyma/kertyma/LoadCounts", "count", "(Lcom/example/kertyma/kertyma/RowOutcome;)V"⟩ : MethodName)) hown (mvT hZ (hw _ (List.mem_of_getElem? (i := 55) rfl))) (mvT hZ (hw _ (List.mem_of_getElem? (i := 56) rfl))) (notFace_of_selects (args := #[]) (mvT hZ (hw _ (List.mem_of_getElem? (i := 58) rfl)))) (mvT hZ (hw _ (List.mem_of_getElem? (i := 58) rfl))) (mvT hZ (hw _ (List.mem_of_getElem? (i := 57) rfl))) (by decide) (backOf (W := 0) (rmCount l Z a0 hw [] o ((own_at (((a.toUInt32 >>> ((7 : Int32) &&& 31).toUInt32).toInt32) &&& (3 : Int32)) w_NEW w_CHANGED w_UNCHANGED w_CANCELLED)) bb kb c0 c1 c2 c3 ((((a.toUInt32 >>> ((7 : Int32) &&& 31).toUInt32).toInt32) &&& (3 : Int32))) h O0 Fc Vb E_at F_at (own_and3 _) Gb Nob) hZ (hw _ (List.mem_of_getElem? (i := 59) rfl)) (hw _ (List.mem_of_getElem? (i := 2) rfl)) (by decide) (by decide)) q3a q3c (g := (mkF m 69 #[.val (.int a), .val (.int b), .val (.ref o), .val (.long n), .second] [(.ref (own_at (((a.toUInt32 >>> ((7 : Int32) &&& 31).toUInt32).toInt32) &&& (3 : Int32)) w_NEW w_CHANGED w_UNCHANGED w_CANCELLED)), (.ref o)])) rfl (by rw [hml]; rfl) (Steps.refl _) (argsL := [(.ref (own_at (((a.toUInt32 >>> ((7 : Int32) &&& 31).toUInt32).toInt32) &&& (3 : Int32)) w_NEW w_CHANGED w_UNCHANGED w_CANCELLED))]) (rest := []) (lenOf pd__Lcom_example_kertyma_kertyma_RowOutcome__V rfl) rfl (by show 2 * 0 + _ ≤ _; exact Nat.le_of_eq rfl) (hb hby at_69) (fun _ _ => ⟨rfl, e2, (by decide : 3 + 0 ≤ _), (by decide : 13 + 0 ≤ _)⟩)
    dsimp only [Pt.U, Pt.locs, Pt.cells, Pt.slots] at X3 l3 y3 z3 st3 hQ3
    subst l3 y3 z3
    obtain ⟨rfl, N3q, O3, Kc3, Pb_3⟩ := hQ3
    have N3 := Fr.app N2 N3q
    refine Go.tr st3 ?_
    have Eo_h4 := Eo.keep Kc3
    have Fc_h4 := Fc.keep Kc3 (ninS Nob nin0)
    have Fj_h4 := Fj.keep Kc3 (ninS Nob nin0)
    show Go p e below _ (T3.setTop (mkF m 72 #[.val (.int a), .val (.int b), .val (.ref o), .val (.long n), .second] []))
    refine Go.st (fun t' k' => XS.lloadN X3.here hx rfl (hb hby at_72) rfl k') ?_
    show Go p e below _ (T3.setTop (mkF m 73 #[.val (.int a), .val (.int b), .val (.ref o), .val (.long n), .second] [(.long n)]))
    refine Go.st (fun t' k' => XS.lconst X3.here hx rfl (hb hby at_73) k') ?_
    show Go p e below _ (T3.setTop (mkF m 74 #[.val (.int a), .val (.int b), .val (.ref o), .val (.long n), .second] [(.long (1 : Int64)), (.long n)]))
    refine Go.st (fun t' k' => XS.ladd X3.here hx rfl (hb hby at_74) rfl k') ?_
    show Go p e below _ (T3.setTop (mkF m 75 #[.val (.int a), .val (.int b), .val (.ref o), .val (.long n), .second] [(.long (n + (1 : Int64)))]))
    refine Go.st (fun t' k' => XS.lstoreN X3.here hx rfl (hb hby at_75) rfl (l' := #[.val (.int a), .val (.int b), .val (.ref o), .val (.long (n + (1 : Int64))), .second]) rfl k') ?_
    -- pc 76: behind the cut
    exact blk76 Z a0 hw a b w_VALUES k_VALUES w_NEW w_CHANGED w_UNCHANGED w_CANCELLED h0 S_NEW S_CHANGED S_UNCHANGED S_CANCELLED S_VALUES A_VALUES E_VALUES E_NEW E_CHANGED E_UNCHANGED E_CANCELLED F_NEW_ordinal F_CHANGED_ordinal F_UNCHANGED_ordinal F_CANCELLED_ordinal o ((n + (1 : Int64))) bb kb j ((own_bump (((a.toUInt32 >>> ((7 : Int32) &&& 31).toUInt32).toInt32) &&& (3 : Int32)) 0 c0)) ((own_bump (((a.toUInt32 >>> ((7 : Int32) &&& 31).toUInt32).toInt32) &&& (3 : Int32)) 1 c1)) ((own_bump (((a.toUInt32 >>> ((7 : Int32) &&& 31).toUInt32).toInt32) &&& (3 : Int32)) 2 c2)) ((own_bump (((a.toUInt32 >>> ((7 : Int32) &&& 31).toUInt32).toInt32) &&& (3 : Int32)) 3 c3)) T3.heap (own_stand_mono X3 (by decide) (by decide)) hx hZ hby hml hown hret hlk rfl N3 O3 Eo_h4 Fc_h4 Fj_h4 Pb_3 Goo Gb Nob ((own_tot (own_and3 _) c0 c1 c2 c3).trans (by rw [hn]))
set_option maxRecDepth 65536 in
set_option maxHeartbeats 40000000 in
theorem blk30 {p : Program} {l : Launch} {e : Env} {s : State} {m : MethodId} {below : List Frame} {meth : Method} {c : Code} {T0 : State} {locs : List Loc} (Z : State) (a0 : Array Value) (hw : ∀ d ∈ tables_1, d.before a0 Z = true) (a : Int32) (b : Int32) (w_VALUES : Addr) (k_VALUES : ClassId) (w_NEW : Addr) (w_CHANGED : Addr) (w_UNCHANGED : Addr) (w_CANCELLED : Addr) (h0 : Heap) (S_NEW : Sta Z Z.heap "com/example/kertyma/kertyma/RowOutcome" "NEW" "Lcom/example/kertyma/kertyma/RowOutcome;" (.ref w_NEW)) (S_CHANGED : Sta Z Z.heap "com/example/kertyma/kertyma/RowOutcome" "CHANGED" "Lcom/example/kertyma/kertyma/RowOutcome;" (.ref w_CHANGED)) (S_UNCHANGED : Sta Z Z.heap "com/example/kertyma/kertyma/RowOutcome" "UNCHANGED" "Lcom/example/kertyma/kertyma/RowOutcome;" (.ref w_UNCHANGED)) (S_CANCELLED : Sta Z Z.heap "com/example/kertyma/kertyma/RowOutcome" "CANCELLED" "Lcom/example/kertyma/kertyma/RowOutcome;" (.ref w_CANCELLED)) (S_VALUES : Sta Z Z.heap "com/example/kertyma/kertyma/RowOutcome" "$VALUES" "[Lcom/example/kertyma/kertyma/RowOutcome;" (.ref w_VALUES)) (A_VALUES : Arv Z Z.heap w_VALUES k_VALUES (.object "com/example/kertyma/kertyma/RowOutcome") (4 : Int32) [(.ref w_NEW), (.ref w_CHANGED), (.ref w_UNCHANGED), (.ref w_CANCELLED)] .null) (E_VALUES : Exa Z Z.heap w_VALUES "[Lcom/example/kertyma/kertyma/RowOutcome;") (E_NEW : Exa Z Z.heap w_NEW "com/example/kertyma/kertyma/RowOutcome") (E_CHANGED : Exa Z Z.heap w_CHANGED "com/example/kertyma/kertyma/RowOutcome") (E_UNCHANGED : Exa Z Z.heap w_UNCHANGED "com/example/kertyma/kertyma/RowOutcome") (E_CANCELLED : Exa Z Z.heap w_CANCELLED "com/example/kertyma/kertyma/RowOutcome") (F_NEW_ordinal : Fld Z Z.heap w_NEW "java/lang/Enum" "ordinal" "I" (.int (0 : Int32))) (F_CHANGED_ordinal : Fld Z Z.heap w_CHANGED "java/lang/Enum" "ordinal" "I" (.int (1 : Int32))) (F_UNCHANGED_ordinal : Fld Z Z.heap w_UNCHANGED "java/lang/Enum" "ordinal" "I" (.int (2 : Int32))) (F_CANCELLED_ordinal : Fld Z Z.heap w_CANCELLED "java/lang/Enum" "ordinal" "I" (.int (3 : Int32))) (o : Addr) (n : Int64) (bb : Addr) (kb : ClassId) (j : Int64) (c0 : Int64) (c1 : Int64) (c2 : Int64) (c3 : Int64) (h : Heap) (X0 : Stand p l e room_1 s m #[(.int a), (.int b)] below meth c T0 locs 3 13)
    (hx : p.tables.exec = Jvm.exec) (hZ : Z.Warmed39 s.vm) (hby : c.code = code) (hml : c.maxLocals = 5) (hown : s.vm.findClass "com/example/kertyma/kertyma/LoadCountsTotalPinLaw" = some m.cls) (hret : meth.sig.returnType = ret) (hlk : meth.locks = false) (e0 : T0.heap = h) (N0 : Fr Z.heap.size locs) (O0 : Ext Z.heap h) (Eo : Exa Z h o "com/example/kertyma/kertyma/LoadCounts") (Fc : Fld Z h o "com/example/kertyma/kertyma/LoadCounts" "counts" "[J" (.ref bb)) (Fj : Fld Z h o "com/example/kertyma/kertyma/LoadCounts" "rejected" "J" (.long j)) (Vb : Arv Z h bb kb .long (4 : Int32) [(.long c0), (.long c1), (.long c2), (.long c3)] (.long (0 : Int64))) (Goo : Z.heap.size ≤ o) (Gb : Z.heap.size ≤ bb) (Nob : o ≠ bb) (hn : (((((0 : Int64) + c0) + c1) + c2) + c3) = n) :
    Go p e below (GO s (Q_rm0 Z a b w_VALUES k_VALUES w_NEW w_CHANGED w_UNCHANGED w_CANCELLED h0) room_1.cells room_1.slots) (T0.setTop (mkF m 30 #[.val (.int a), .val (.int b), .val (.ref o), .val (.long n), .second] [])) := by
  show Go p e below _ (T0.setTop (mkF m 30 #[.val (.int a), .val (.int b), .val (.ref o), .val (.long n), .second] []))
  refine Go.st (fun t' k' => XS.iloadN X0.here hx rfl (hb hby at_30) rfl k') ?_
  show Go p e below _ (T0.setTop (mkF m 31 #[.val (.int a), .val (.int b), .val (.ref o), .val (.long n), .second] [(.int a)]))
  refine Go.st (fun t' k' => XS.iconst X0.here hx rfl (hb hby at_31) k') ?_
  show Go p e below _ (T0.setTop (mkF m 32 #[.val (.int a), .val (.int b), .val (.ref o), .val (.long n), .second] [(.int (3 : Int32)), (.int a)]))
  refine Go.st (fun t' k' => XS.iushr X0.here hx rfl (hb hby at_32) rfl k') ?_
  show Go p e below _ (T0.setTop (mkF m 33 #[.val (.int a), .val (.int b), .val (.ref o), .val (.long n), .second] [(.int ((a.toUInt32 >>> ((3 : Int32) &&& 31).toUInt32).toInt32))]))
  refine Go.st (fun t' k' => XS.iconst X0.here hx rfl (hb hby at_33) k') ?_
  show Go p e below _ (T0.setTop (mkF m 34 #[.val (.int a), .val (.int b), .val (.ref o), .val (.long n), .second] [(.int (1 : Int32)), (.int ((a.toUInt32 >>> ((3 : Int32) &&& 31).toUInt32).toInt32))]))
  refine Go.st (fun t' k' => XS.iand X0.here hx rfl (hb hby at_34) rfl k') ?_
  show Go p e below _ (T0.setTop (mkF m 35 #[.val (.int a), .val (.int b), .val (.ref o), .val (.long n), .second] [(.int (((a.toUInt32 >>> ((3 : Int32) &&& 31).toUInt32).toInt32) &&& (1 : Int32)))]))
  by_cases hc35_1 : (((a.toUInt32 >>> ((3 : Int32) &&& 31).toUInt32).toInt32) &&& (1 : Int32)) = (0 : Int32)
  · refine Go.st (fun t' k' => XS.ifYes X0.here hx rfl (pc0 := 35) (pc' := 52) rfl (hb hby at_35) rfl ((if0 _ _).trans (teq hc35_1).1) (by decide) (by decide) k') ?_
    -- pc 52: behind the cut
    exact blk52 Z a0 hw a b w_VALUES k_VALUES w_NEW w_CHANGED w_UNCHANGED w_CANCELLED h0 S_NEW S_CHANGED S_UNCHANGED S_CANCELLED S_VALUES A_VALUES E_VALUES E_NEW E_CHANGED E_UNCHANGED E_CANCELLED F_NEW_ordinal F_CHANGED_ordinal F_UNCHANGED_ordinal F_CANCELLED_ordinal o n bb kb j c0 c1 c2 c3 h (own_stand_mono X0 (by decide) (by decide)) hx hZ hby hml hown hret hlk e0 N0 O0 Eo Fc Fj Vb Goo Gb Nob hn
  · refine Go.st (fun t' k' => XS.ifNo X0.here hx rfl (hb hby at_35) rfl ((if0 _ _).trans (feq hc35_1).1) k') ?_
    show Go p e below _ (T0.setTop (mkF m 38 #[.val (.int a), .val (.int b), .val (.ref o), .val (.long n), .second] []))
    refine Go.st (fun t' k' => XS.aloadN X0.here hx rfl (hb hby at_38) rfl rfl k') ?_
    show Go p e below _ (T0.setTop (mkF m 39 #[.val (.int a), .val (.int b), .val (.ref o), .val (.long n), .second] [(.ref o)]))
    refine Go.st (fun t' k' => XS.iloadN X0.here hx rfl (hb hby at_39) rfl k') ?_
    show Go p e below _ (T0.setTop (mkF m 40 #[.val (.int a), .val (.int b), .val (.ref o), .val (.long n), .second] [(.int a), (.ref o)]))
    refine Go.st (fun t' k' => XS.iconst X0.here hx rfl (hb hby at_40) k') ?_
    show Go p e below _ (T0.setTop (mkF m 41 #[.val (.int a), .val (.int b), .val (.ref o), .val (.long n), .second] [(.int (4 : Int32)), (.int a), (.ref o)]))
    refine Go.st (fun t' k' => XS.iushr X0.here hx rfl (hb hby at_41) rfl k') ?_
    show Go p e below _ (T0.setTop (mkF m 42 #[.val (.int a), .val (.int b), .val (.ref o), .val (.long n), .second] [(.int ((a.toUInt32 >>> ((4 : Int32) &&& 31).toUInt32).toInt32)), (.ref o)]))
    obtain ⟨_, _, ⟨T2, L2, k2, n2⟩, -, X2, ⟨Lc2, hQ2, l2, y2, z2⟩, st2⟩ := Jvm.LawKit.callS X0 hx (y := (⟨"com/example/kertyma/kertyma/LoadCountsTotalPinLaw", "outcome", "(I)Lcom/example/kertyma/kertyma/RowOutcome;"⟩ : MethodName)) hown (mvT hZ (hw _ (List.mem_of_getElem? (i := 50) rfl))) (mvT hZ (hw _ (List.mem_of_getElem? (i := 51) rfl))) (mvT hZ (hw _ (List.mem_of_getElem? (i := 52) rfl))) (mvT hZ (hw _ (List.mem_of_getElem? (i := 53) rfl))) (by decide) (backOf (W := 1) (rmPick l Z a0 hw [] (((a.toUInt32 >>> ((4 : Int32) &&& 31).toUInt32).toInt32)) w_NEW w_CHANGED w_UNCHANGED w_CANCELLED h O0 S_NEW S_CHANGED S_UNCHANGED S_CANCELLED) hZ (hw _ (List.mem_of_getElem? (i := 53) rfl)) (hw _ (List.mem_of_getElem? (i := 52) rfl)) (by decide) (by decide)) (g := (mkF m 42 #[.val (.int a), .val (.int b), .val (.ref o), .val (.long n), .second] [(.int ((a.toUInt32 >>> ((4 : Int32) &&& 31).toUInt32).toInt32)), (.ref o)])) rfl (by rw [hml]; rfl) (argsL := [(.int ((a.toUInt32 >>> ((4 : Int32) &&& 31).toUInt32).toInt32))]) (rest := [(.ref o)]) (lenOf pd__I_Lcom_example_kertyma_kertyma_RowOutcome_ rfl) rfl (by show 2 * 0 + _ ≤ _; exact Nat.le_of_eq rfl) (hb hby at_42) (fun _ _ => ⟨rfl, e0, (by decide : 3 + 0 ≤ _), (by decide : 13 + 0 ≤ _)⟩)
    dsimp only [Pt.U, Pt.locs, Pt.cells, Pt.slots] at X2 l2 y2 z2 st2 hQ2
    subst l2 y2 z2
    obtain ⟨rfl, rfl, e2⟩ := hQ2
    have N2 := Fr.app N0 (Fr.nil _)
    refine Go.st st2 ?_
    have E_at := own_at_exa (((a.toUInt32 >>> ((4 : Int32) &&& 31).toUInt32).toInt32) &&& (3 : Int32)) E_NEW E_CHANGED E_UNCHANGED E_CANCELLED
    have F_at := own_at_fld ((a.toUInt32 >>> ((4 : Int32) &&& 31).toUInt32).toInt32) F_NEW_ordinal F_CHANGED_ordinal F_UNCHANGED_ordinal F_CANCELLED_ordinal
    show Go p e below _ (T2.setTop (mkF m 45 #[.val (.int a), .val (.int b), .val (.ref o), .val (.long n), .second] [(.ref (own_at (((a.toUInt32 >>> ((4 : Int32) &&& 31).toUInt32).toInt32) &&& (3 : Int32)) w_NEW w_CHANGED w_UNCHANGED w_CANCELLED)), (.ref o)]))
    obtain ⟨cq3, kq3, q3a, q3b, q3c⟩ := isOf hZ e2 Eo
    obtain ⟨_, _, ⟨T3, L3, k3, n3⟩, -, X3, ⟨Lc3, hQ3, l3, y3, z3⟩, st3⟩ := X2.virtualBack hx (y := (⟨"com/example/kertyma/kertyma/LoadCounts", "count", "(Lcom/example/kertyma/kertyma/RowOutcome;)V"⟩ : MethodName)) (z := (⟨"com/example/kertyma/kertyma/LoadCounts", "count", "(Lcom/example/kertyma/kertyma/RowOutcome;)V"⟩ : MethodName)) hown (mvT hZ (hw _ (List.mem_of_getElem? (i := 55) rfl))) (mvT hZ (hw _ (List.mem_of_getElem? (i := 56) rfl))) (notFace_of_selects (args := #[]) (mvT hZ (hw _ (List.mem_of_getElem? (i := 58) rfl)))) (mvT hZ (hw _ (List.mem_of_getElem? (i := 58) rfl))) (mvT hZ (hw _ (List.mem_of_getElem? (i := 57) rfl))) (by decide) (backOf (W := 0) (rmCount l Z a0 hw [] o ((own_at (((a.toUInt32 >>> ((4 : Int32) &&& 31).toUInt32).toInt32) &&& (3 : Int32)) w_NEW w_CHANGED w_UNCHANGED w_CANCELLED)) bb kb c0 c1 c2 c3 ((((a.toUInt32 >>> ((4 : Int32) &&& 31).toUInt32).toInt32) &&& (3 : Int32))) h O0 Fc Vb E_at F_at (own_and3 _) Gb Nob) hZ (hw _ (List.mem_of_getElem? (i := 59) rfl)) (hw _ (List.mem_of_getElem? (i := 2) rfl)) (by decide) (by decide)) q3a q3c (g := (mkF m 45 #[.val (.int a), .val (.int b), .val (.ref o), .val (.long n), .second] [(.ref (own_at (((a.toUInt32 >>> ((4 : Int32) &&& 31).toUInt32).toInt32) &&& (3 : Int32)) w_NEW w_CHANGED w_UNCHANGED w_CANCELLED)), (.ref o)])) rfl (by rw [hml]; rfl) (Steps.refl _) (argsL := [(.ref (own_at (((a.toUInt32 >>> ((4 : Int32) &&& 31).toUInt32).toInt32) &&& (3 : Int32)) w_NEW w_CHANGED w_UNCHANGED w_CANCELLED))]) (rest := []) (lenOf pd__Lcom_example_kertyma_kertyma_RowOutcome__V rfl) rfl (by show 2 * 0 + _ ≤ _; exact Nat.le_of_eq rfl) (hb hby at_45) (fun _ _ => ⟨rfl, e2, (by decide : 3 + 0 ≤ _), (by decide : 13 + 0 ≤ _)⟩)
    dsimp only [Pt.U, Pt.locs, Pt.cells, Pt.slots] at X3 l3 y3 z3 st3 hQ3
    subst l3 y3 z3
    obtain ⟨rfl, N3q, O3, Kc3, Pb_3⟩ := hQ3
    have N3 := Fr.app N2 N3q
    refine Go.tr st3 ?_
    have Eo_h4 := Eo.keep Kc3
    have Fc_h4 := Fc.keep Kc3 (ninS Nob nin0)
    have Fj_h4 := Fj.keep Kc3 (ninS Nob nin0)
    show Go p e below _ (T3.setTop (mkF m 48 #[.val (.int a), .val (.int b), .val (.ref o), .val (.long n), .second] []))
    refine Go.st (fun t' k' => XS.lloadN X3.here hx rfl (hb hby at_48) rfl k') ?_
    show Go p e below _ (T3.setTop (mkF m 49 #[.val (.int a), .val (.int b), .val (.ref o), .val (.long n), .second] [(.long n)]))
    refine Go.st (fun t' k' => XS.lconst X3.here hx rfl (hb hby at_49) k') ?_
    show Go p e below _ (T3.setTop (mkF m 50 #[.val (.int a), .val (.int b), .val (.ref o), .val (.long n), .second] [(.long (1 : Int64)), (.long n)]))
    refine Go.st (fun t' k' => XS.ladd X3.here hx rfl (hb hby at_50) rfl k') ?_
    show Go p e below _ (T3.setTop (mkF m 51 #[.val (.int a), .val (.int b), .val (.ref o), .val (.long n), .second] [(.long (n + (1 : Int64)))]))
    refine Go.st (fun t' k' => XS.lstoreN X3.here hx rfl (hb hby at_51) rfl (l' := #[.val (.int a), .val (.int b), .val (.ref o), .val (.long (n + (1 : Int64))), .second]) rfl k') ?_
    -- pc 52: behind the cut
    exact blk52 Z a0 hw a b w_VALUES k_VALUES w_NEW w_CHANGED w_UNCHANGED w_CANCELLED h0 S_NEW S_CHANGED S_UNCHANGED S_CANCELLED S_VALUES A_VALUES E_VALUES E_NEW E_CHANGED E_UNCHANGED E_CANCELLED F_NEW_ordinal F_CHANGED_ordinal F_UNCHANGED_ordinal F_CANCELLED_ordinal o ((n + (1 : Int64))) bb kb j ((own_bump (((a.toUInt32 >>> ((4 : Int32) &&& 31).toUInt32).toInt32) &&& (3 : Int32)) 0 c0)) ((own_bump (((a.toUInt32 >>> ((4 : Int32) &&& 31).toUInt32).toInt32) &&& (3 : Int32)) 1 c1)) ((own_bump (((a.toUInt32 >>> ((4 : Int32) &&& 31).toUInt32).toInt32) &&& (3 : Int32)) 2 c2)) ((own_bump (((a.toUInt32 >>> ((4 : Int32) &&& 31).toUInt32).toInt32) &&& (3 : Int32)) 3 c3)) T3.heap (own_stand_mono X3 (by decide) (by decide)) hx hZ hby hml hown hret hlk rfl N3 O3 Eo_h4 Fc_h4 Fj_h4 Pb_3 Goo Gb Nob ((own_tot (own_and3 _) c0 c1 c2 c3).trans (by rw [hn]))
set_option maxRecDepth 65536 in
set_option maxHeartbeats 40000000 in
theorem blk10 {p : Program} {l : Launch} {e : Env} {s : State} {m : MethodId} {below : List Frame} {meth : Method} {c : Code} {T0 : State} {locs : List Loc} (Z : State) (a0 : Array Value) (hw : ∀ d ∈ tables_1, d.before a0 Z = true) (a : Int32) (b : Int32) (w_VALUES : Addr) (k_VALUES : ClassId) (w_NEW : Addr) (w_CHANGED : Addr) (w_UNCHANGED : Addr) (w_CANCELLED : Addr) (h0 : Heap) (S_NEW : Sta Z Z.heap "com/example/kertyma/kertyma/RowOutcome" "NEW" "Lcom/example/kertyma/kertyma/RowOutcome;" (.ref w_NEW)) (S_CHANGED : Sta Z Z.heap "com/example/kertyma/kertyma/RowOutcome" "CHANGED" "Lcom/example/kertyma/kertyma/RowOutcome;" (.ref w_CHANGED)) (S_UNCHANGED : Sta Z Z.heap "com/example/kertyma/kertyma/RowOutcome" "UNCHANGED" "Lcom/example/kertyma/kertyma/RowOutcome;" (.ref w_UNCHANGED)) (S_CANCELLED : Sta Z Z.heap "com/example/kertyma/kertyma/RowOutcome" "CANCELLED" "Lcom/example/kertyma/kertyma/RowOutcome;" (.ref w_CANCELLED)) (S_VALUES : Sta Z Z.heap "com/example/kertyma/kertyma/RowOutcome" "$VALUES" "[Lcom/example/kertyma/kertyma/RowOutcome;" (.ref w_VALUES)) (A_VALUES : Arv Z Z.heap w_VALUES k_VALUES (.object "com/example/kertyma/kertyma/RowOutcome") (4 : Int32) [(.ref w_NEW), (.ref w_CHANGED), (.ref w_UNCHANGED), (.ref w_CANCELLED)] .null) (E_VALUES : Exa Z Z.heap w_VALUES "[Lcom/example/kertyma/kertyma/RowOutcome;") (E_NEW : Exa Z Z.heap w_NEW "com/example/kertyma/kertyma/RowOutcome") (E_CHANGED : Exa Z Z.heap w_CHANGED "com/example/kertyma/kertyma/RowOutcome") (E_UNCHANGED : Exa Z Z.heap w_UNCHANGED "com/example/kertyma/kertyma/RowOutcome") (E_CANCELLED : Exa Z Z.heap w_CANCELLED "com/example/kertyma/kertyma/RowOutcome") (F_NEW_ordinal : Fld Z Z.heap w_NEW "java/lang/Enum" "ordinal" "I" (.int (0 : Int32))) (F_CHANGED_ordinal : Fld Z Z.heap w_CHANGED "java/lang/Enum" "ordinal" "I" (.int (1 : Int32))) (F_UNCHANGED_ordinal : Fld Z Z.heap w_UNCHANGED "java/lang/Enum" "ordinal" "I" (.int (2 : Int32))) (F_CANCELLED_ordinal : Fld Z Z.heap w_CANCELLED "java/lang/Enum" "ordinal" "I" (.int (3 : Int32))) (o : Addr) (n : Int64) (bb : Addr) (kb : ClassId) (j : Int64) (c0 : Int64) (c1 : Int64) (c2 : Int64) (c3 : Int64) (h : Heap) (X0 : Stand p l e room_1 s m #[(.int a), (.int b)] below meth c T0 locs 3 13)
    (hx : p.tables.exec = Jvm.exec) (hZ : Z.Warmed39 s.vm) (hby : c.code = code) (hml : c.maxLocals = 5) (hown : s.vm.findClass "com/example/kertyma/kertyma/LoadCountsTotalPinLaw" = some m.cls) (hret : meth.sig.returnType = ret) (hlk : meth.locks = false) (e0 : T0.heap = h) (N0 : Fr Z.heap.size locs) (O0 : Ext Z.heap h) (Eo : Exa Z h o "com/example/kertyma/kertyma/LoadCounts") (Fc : Fld Z h o "com/example/kertyma/kertyma/LoadCounts" "counts" "[J" (.ref bb)) (Fj : Fld Z h o "com/example/kertyma/kertyma/LoadCounts" "rejected" "J" (.long j)) (Vb : Arv Z h bb kb .long (4 : Int32) [(.long c0), (.long c1), (.long c2), (.long c3)] (.long (0 : Int64))) (Goo : Z.heap.size ≤ o) (Gb : Z.heap.size ≤ bb) (Nob : o ≠ bb) (hn : (((((0 : Int64) + c0) + c1) + c2) + c3) = n) :
    Go p e below (GO s (Q_rm0 Z a b w_VALUES k_VALUES w_NEW w_CHANGED w_UNCHANGED w_CANCELLED h0) room_1.cells room_1.slots) (T0.setTop (mkF m 10 #[.val (.int a), .val (.int b), .val (.ref o), .val (.long n), .second] [])) := by
  show Go p e below _ (T0.setTop (mkF m 10 #[.val (.int a), .val (.int b), .val (.ref o), .val (.long n), .second] []))
  refine Go.st (fun t' k' => XS.iloadN X0.here hx rfl (hb hby at_10) rfl k') ?_
  show Go p e below _ (T0.setTop (mkF m 11 #[.val (.int a), .val (.int b), .val (.ref o), .val (.long n), .second] [(.int a)]))
  refine Go.st (fun t' k' => XS.iconst X0.here hx rfl (hb hby at_11) k') ?_
  show Go p e below _ (T0.setTop (mkF m 12 #[.val (.int a), .val (.int b), .val (.ref o), .val (.long n), .second] [(.int (1 : Int32)), (.int a)]))
  refine Go.st (fun t' k' => XS.iand X0.here hx rfl (hb hby at_12) rfl k') ?_
  show Go p e below _ (T0.setTop (mkF m 13 #[.val (.int a), .val (.int b), .val (.ref o), .val (.long n), .second] [(.int (a &&& (1 : Int32)))]))
  by_cases hc13_1 : (a &&& (1 : Int32)) = (0 : Int32)
  · refine Go.st (fun t' k' => XS.ifYes X0.here hx rfl (pc0 := 13) (pc' := 30) rfl (hb hby at_13) rfl ((if0 _ _).trans (teq hc13_1).1) (by decide) (by decide) k') ?_
    -- pc 30: behind the cut
    exact blk30 Z a0 hw a b w_VALUES k_VALUES w_NEW w_CHANGED w_UNCHANGED w_CANCELLED h0 S_NEW S_CHANGED S_UNCHANGED S_CANCELLED S_VALUES A_VALUES E_VALUES E_NEW E_CHANGED E_UNCHANGED E_CANCELLED F_NEW_ordinal F_CHANGED_ordinal F_UNCHANGED_ordinal F_CANCELLED_ordinal o n bb kb j c0 c1 c2 c3 h (own_stand_mono X0 (by decide) (by decide)) hx hZ hby hml hown hret hlk e0 N0 O0 Eo Fc Fj Vb Goo Gb Nob hn
  · refine Go.st (fun t' k' => XS.ifNo X0.here hx rfl (hb hby at_13) rfl ((if0 _ _).trans (feq hc13_1).1) k') ?_
    show Go p e below _ (T0.setTop (mkF m 16 #[.val (.int a), .val (.int b), .val (.ref o), .val (.long n), .second] []))
    refine Go.st (fun t' k' => XS.aloadN X0.here hx rfl (hb hby at_16) rfl rfl k') ?_
    show Go p e below _ (T0.setTop (mkF m 17 #[.val (.int a), .val (.int b), .val (.ref o), .val (.long n), .second] [(.ref o)]))
    refine Go.st (fun t' k' => XS.iloadN X0.here hx rfl (hb hby at_17) rfl k') ?_
    show Go p e below _ (T0.setTop (mkF m 18 #[.val (.int a), .val (.int b), .val (.ref o), .val (.long n), .second] [(.int a), (.ref o)]))
    refine Go.st (fun t' k' => XS.iconst X0.here hx rfl (hb hby at_18) k') ?_
    show Go p e below _ (T0.setTop (mkF m 19 #[.val (.int a), .val (.int b), .val (.ref o), .val (.long n), .second] [(.int (1 : Int32)), (.int a), (.ref o)]))
    refine Go.st (fun t' k' => XS.iushr X0.here hx rfl (hb hby at_19) rfl k') ?_
    show Go p e below _ (T0.setTop (mkF m 20 #[.val (.int a), .val (.int b), .val (.ref o), .val (.long n), .second] [(.int ((a.toUInt32 >>> ((1 : Int32) &&& 31).toUInt32).toInt32)), (.ref o)]))
    obtain ⟨_, _, ⟨T2, L2, k2, n2⟩, -, X2, ⟨Lc2, hQ2, l2, y2, z2⟩, st2⟩ := Jvm.LawKit.callS X0 hx (y := (⟨"com/example/kertyma/kertyma/LoadCountsTotalPinLaw", "outcome", "(I)Lcom/example/kertyma/kertyma/RowOutcome;"⟩ : MethodName)) hown (mvT hZ (hw _ (List.mem_of_getElem? (i := 50) rfl))) (mvT hZ (hw _ (List.mem_of_getElem? (i := 51) rfl))) (mvT hZ (hw _ (List.mem_of_getElem? (i := 52) rfl))) (mvT hZ (hw _ (List.mem_of_getElem? (i := 53) rfl))) (by decide) (backOf (W := 1) (rmPick l Z a0 hw [] (((a.toUInt32 >>> ((1 : Int32) &&& 31).toUInt32).toInt32)) w_NEW w_CHANGED w_UNCHANGED w_CANCELLED h O0 S_NEW S_CHANGED S_UNCHANGED S_CANCELLED) hZ (hw _ (List.mem_of_getElem? (i := 53) rfl)) (hw _ (List.mem_of_getElem? (i := 52) rfl)) (by decide) (by decide)) (g := (mkF m 20 #[.val (.int a), .val (.int b), .val (.ref o), .val (.long n), .second] [(.int ((a.toUInt32 >>> ((1 : Int32) &&& 31).toUInt32).toInt32)), (.ref o)])) rfl (by rw [hml]; rfl) (argsL := [(.int ((a.toUInt32 >>> ((1 : Int32) &&& 31).toUInt32).toInt32))]) (rest := [(.ref o)]) (lenOf pd__I_Lcom_example_kertyma_kertyma_RowOutcome_ rfl) rfl (by show 2 * 0 + _ ≤ _; exact Nat.le_of_eq rfl) (hb hby at_20) (fun _ _ => ⟨rfl, e0, (by decide : 3 + 0 ≤ _), (by decide : 13 + 0 ≤ _)⟩)
    dsimp only [Pt.U, Pt.locs, Pt.cells, Pt.slots] at X2 l2 y2 z2 st2 hQ2
    subst l2 y2 z2
    obtain ⟨rfl, rfl, e2⟩ := hQ2
    have N2 := Fr.app N0 (Fr.nil _)
    refine Go.st st2 ?_
    have E_at := own_at_exa (((a.toUInt32 >>> ((1 : Int32) &&& 31).toUInt32).toInt32) &&& (3 : Int32)) E_NEW E_CHANGED E_UNCHANGED E_CANCELLED
    have F_at := own_at_fld ((a.toUInt32 >>> ((1 : Int32) &&& 31).toUInt32).toInt32) F_NEW_ordinal F_CHANGED_ordinal F_UNCHANGED_ordinal F_CANCELLED_ordinal
    show Go p e below _ (T2.setTop (mkF m 23 #[.val (.int a), .val (.int b), .val (.ref o), .val (.long n), .second] [(.ref (own_at (((a.toUInt32 >>> ((1 : Int32) &&& 31).toUInt32).toInt32) &&& (3 : Int32)) w_NEW w_CHANGED w_UNCHANGED w_CANCELLED)), (.ref o)]))
    obtain ⟨cq3, kq3, q3a, q3b, q3c⟩ := isOf hZ e2 Eo
    obtain ⟨_, _, ⟨T3, L3, k3, n3⟩, -, X3, ⟨Lc3, hQ3, l3, y3, z3⟩, st3⟩ := X2.virtualBack hx (y := (⟨"com/example/kertyma/kertyma/LoadCounts", "count", "(Lcom/example/kertyma/kertyma/RowOutcome;)V"⟩ : MethodName)) (z := (⟨"com/example/kertyma/kertyma/LoadCounts", "count", "(Lcom/example/kertyma/kertyma/RowOutcome;)V"⟩ : MethodName)) hown (mvT hZ (hw _ (List.mem_of_getElem? (i := 55) rfl))) (mvT hZ (hw _ (List.mem_of_getElem? (i := 56) rfl))) (notFace_of_selects (args := #[]) (mvT hZ (hw _ (List.mem_of_getElem? (i := 58) rfl)))) (mvT hZ (hw _ (List.mem_of_getElem? (i := 58) rfl))) (mvT hZ (hw _ (List.mem_of_getElem? (i := 57) rfl))) (by decide) (backOf (W := 0) (rmCount l Z a0 hw [] o ((own_at (((a.toUInt32 >>> ((1 : Int32) &&& 31).toUInt32).toInt32) &&& (3 : Int32)) w_NEW w_CHANGED w_UNCHANGED w_CANCELLED)) bb kb c0 c1 c2 c3 ((((a.toUInt32 >>> ((1 : Int32) &&& 31).toUInt32).toInt32) &&& (3 : Int32))) h O0 Fc Vb E_at F_at (own_and3 _) Gb Nob) hZ (hw _ (List.mem_of_getElem? (i := 59) rfl)) (hw _ (List.mem_of_getElem? (i := 2) rfl)) (by decide) (by decide)) q3a q3c (g := (mkF m 23 #[.val (.int a), .val (.int b), .val (.ref o), .val (.long n), .second] [(.ref (own_at (((a.toUInt32 >>> ((1 : Int32) &&& 31).toUInt32).toInt32) &&& (3 : Int32)) w_NEW w_CHANGED w_UNCHANGED w_CANCELLED)), (.ref o)])) rfl (by rw [hml]; rfl) (Steps.refl _) (argsL := [(.ref (own_at (((a.toUInt32 >>> ((1 : Int32) &&& 31).toUInt32).toInt32) &&& (3 : Int32)) w_NEW w_CHANGED w_UNCHANGED w_CANCELLED))]) (rest := []) (lenOf pd__Lcom_example_kertyma_kertyma_RowOutcome__V rfl) rfl (by show 2 * 0 + _ ≤ _; exact Nat.le_of_eq rfl) (hb hby at_23) (fun _ _ => ⟨rfl, e2, (by decide : 3 + 0 ≤ _), (by decide : 13 + 0 ≤ _)⟩)
    dsimp only [Pt.U, Pt.locs, Pt.cells, Pt.slots] at X3 l3 y3 z3 st3 hQ3
    subst l3 y3 z3
    obtain ⟨rfl, N3q, O3, Kc3, Pb_3⟩ := hQ3
    have N3 := Fr.app N2 N3q
    refine Go.tr st3 ?_
    have Eo_h4 := Eo.keep Kc3
    have Fc_h4 := Fc.keep Kc3 (ninS Nob nin0)
    have Fj_h4 := Fj.keep Kc3 (ninS Nob nin0)
    show Go p e below _ (T3.setTop (mkF m 26 #[.val (.int a), .val (.int b), .val (.ref o), .val (.long n), .second] []))
    refine Go.st (fun t' k' => XS.lloadN X3.here hx rfl (hb hby at_26) rfl k') ?_
    show Go p e below _ (T3.setTop (mkF m 27 #[.val (.int a), .val (.int b), .val (.ref o), .val (.long n), .second] [(.long n)]))
    refine Go.st (fun t' k' => XS.lconst X3.here hx rfl (hb hby at_27) k') ?_
    show Go p e below _ (T3.setTop (mkF m 28 #[.val (.int a), .val (.int b), .val (.ref o), .val (.long n), .second] [(.long (1 : Int64)), (.long n)]))
    refine Go.st (fun t' k' => XS.ladd X3.here hx rfl (hb hby at_28) rfl k') ?_
    show Go p e below _ (T3.setTop (mkF m 29 #[.val (.int a), .val (.int b), .val (.ref o), .val (.long n), .second] [(.long (n + (1 : Int64)))]))
    refine Go.st (fun t' k' => XS.lstoreN X3.here hx rfl (hb hby at_29) rfl (l' := #[.val (.int a), .val (.int b), .val (.ref o), .val (.long (n + (1 : Int64))), .second]) rfl k') ?_
    -- pc 30: behind the cut
    exact blk30 Z a0 hw a b w_VALUES k_VALUES w_NEW w_CHANGED w_UNCHANGED w_CANCELLED h0 S_NEW S_CHANGED S_UNCHANGED S_CANCELLED S_VALUES A_VALUES E_VALUES E_NEW E_CHANGED E_UNCHANGED E_CANCELLED F_NEW_ordinal F_CHANGED_ordinal F_UNCHANGED_ordinal F_CANCELLED_ordinal o ((n + (1 : Int64))) bb kb j ((own_bump (((a.toUInt32 >>> ((1 : Int32) &&& 31).toUInt32).toInt32) &&& (3 : Int32)) 0 c0)) ((own_bump (((a.toUInt32 >>> ((1 : Int32) &&& 31).toUInt32).toInt32) &&& (3 : Int32)) 1 c1)) ((own_bump (((a.toUInt32 >>> ((1 : Int32) &&& 31).toUInt32).toInt32) &&& (3 : Int32)) 2 c2)) ((own_bump (((a.toUInt32 >>> ((1 : Int32) &&& 31).toUInt32).toInt32) &&& (3 : Int32)) 3 c3)) T3.heap (own_stand_mono X3 (by decide) (by decide)) hx hZ hby hml hown hret hlk rfl N3 O3 Eo_h4 Fc_h4 Fj_h4 Pb_3 Goo Gb Nob ((own_tot (own_and3 _) c0 c1 c2 c3).trans (by rw [hn]))
theorem ef_rm0 (m : MethodId) (x0 : Int32) (x1 : Int32) : entryFrame m #[(.int x0), (.int x1)] maxLocals = mkF m 0 #[.val (.int x0), .val (.int x1), .unset, .unset, .unset] [] := by first | (simp [entryFrame, mkF, argsToLocals, Value.category, maxLocals]; done) | rfl
set_option maxRecDepth 65536 in
set_option maxHeartbeats 40000000 in
theorem rm0 (l : Launch) (Z : State) (a0 : Array Value) (hw : ∀ d ∈ tables_1, d.before a0 Z = true) (ws : List Jvm.Cond) (a : Int32) (b : Int32) (w_VALUES : Addr) (k_VALUES : ClassId) (w_NEW : Addr) (w_CHANGED : Addr) (w_UNCHANGED : Addr) (w_CANCELLED : Addr) (h0 : Heap) (O0 : Ext Z.heap h0) (S_NEW : Sta Z Z.heap "com/example/kertyma/kertyma/RowOutcome" "NEW" "Lcom/example/kertyma/kertyma/RowOutcome;" (.ref w_NEW)) (S_CHANGED : Sta Z Z.heap "com/example/kertyma/kertyma/RowOutcome" "CHANGED" "Lcom/example/kertyma/kertyma/RowOutcome;" (.ref w_CHANGED)) (S_UNCHANGED : Sta Z Z.heap "com/example/kertyma/kertyma/RowOutcome" "UNCHANGED" "Lcom/example/kertyma/kertyma/RowOutcome;" (.ref w_UNCHANGED)) (S_CANCELLED : Sta Z Z.heap "com/example/kertyma/kertyma/RowOutcome" "CANCELLED" "Lcom/example/kertyma/kertyma/RowOutcome;" (.ref w_CANCELLED)) (S_VALUES : Sta Z Z.heap "com/example/kertyma/kertyma/RowOutcome" "$VALUES" "[Lcom/example/kertyma/kertyma/RowOutcome;" (.ref w_VALUES)) (A_VALUES : Arv Z Z.heap w_VALUES k_VALUES (.object "com/example/kertyma/kertyma/RowOutcome") (4 : Int32) [(.ref w_NEW), (.ref w_CHANGED), (.ref w_UNCHANGED), (.ref w_CANCELLED)] .null) (E_VALUES : Exa Z Z.heap w_VALUES "[Lcom/example/kertyma/kertyma/RowOutcome;") (E_NEW : Exa Z Z.heap w_NEW "com/example/kertyma/kertyma/RowOutcome") (E_CHANGED : Exa Z Z.heap w_CHANGED "com/example/kertyma/kertyma/RowOutcome") (E_UNCHANGED : Exa Z Z.heap w_UNCHANGED "com/example/kertyma/kertyma/RowOutcome") (E_CANCELLED : Exa Z Z.heap w_CANCELLED "com/example/kertyma/kertyma/RowOutcome") (F_NEW_ordinal : Fld Z Z.heap w_NEW "java/lang/Enum" "ordinal" "I" (.int (0 : Int32))) (F_CHANGED_ordinal : Fld Z Z.heap w_CHANGED "java/lang/Enum" "ordinal" "I" (.int (1 : Int32))) (F_UNCHANGED_ordinal : Fld Z Z.heap w_UNCHANGED "java/lang/Enum" "ordinal" "I" (.int (2 : Int32))) (F_CANCELLED_ordinal : Fld Z Z.heap w_CANCELLED "java/lang/Enum" "ordinal" "I" (.int (3 : Int32))) :
    MetFree l x (head1 (Jvm.Cond.code x code maxLocals ret :: ws) room_1) (fun av' U => av' = #[(.int a), (.int b)] ∧ Z.Warmed39 U.vm ∧ U.heap = h0) (fun _ _ _ _ _ => True) (fun _ U o U' => ∃ v L, o = .returned v ∧ Q_rm0 Z a b w_VALUES k_VALUES w_NEW w_CHANGED w_UNCHANGED w_CANCELLED h0 v U'.heap L ∧ FrameEnd U o U' L room_1.cells room_1.slots) := by
  refine MetFree.of_bodySF (plainFor_of_name pn_com_example_kertyma_kertyma_LoadCountsTotalPinLaw) hisR ?_
  intro p e s m args below meth c s₁ Bd hml0 hP hK
  obtain ⟨rfl, hZ, hh⟩ := hP
  have hx := Bd.exec
  have hby := Bd.bytes
  have hret := Bd.returns
  have hlk : meth.locks = false := Bd.notSynchronized
  have hml : c.maxLocals = 5 := hml0
  have hown : s.vm.findClass "com/example/kertyma/kertyma/LoadCountsTotalPinLaw" = some m.cls := findClass_of_methodNamed Bd.named
  have hnm := (name_of_methodNamed Bd.named Bd.method).1
  have X0 : Stand p l e room_1 s m #[(.int a), (.int b)] below meth c s₁ [] 0 0 := Stand.of_body Bd
  -- the walk
  have e0 : s₁.heap = h0 := by rw [← hh, Bd.state]; rfl
  have N0 := Fr.nil Z.heap.size
  show Go p e below (GO s (Q_rm0 Z a b w_VALUES k_VALUES w_NEW w_CHANGED w_UNCHANGED w_CANCELLED h0) room_1.cells room_1.slots) (s₁.setTop (entryFrame m #[(.int a), (.int b)] maxLocals))
  refine Go.st (fun t' k' => castTop (ef_rm0 m a b) k') ?_
  show Go p e below _ (s₁.setTop (mkF m 0 #[.val (.int a), .val (.int b), .unset, .unset, .unset] []))
  obtain ⟨T1, h1, X1, e1, E1, A1, D1, -, st1⟩ := newO X0 hx hZ hown (hw _ (List.mem_of_getElem? (i := 0) rfl)) (hw _ (List.mem_of_getElem? (i := 1) rfl)) (hw _ (List.mem_of_getElem? (i := 2) rfl)) e0 (g := (mkF m 0 #[.val (.int a), .val (.int b), .unset, .unset, .unset] [])) rfl (hb hby at_0) (by decide) (by decide)
  obtain ⟨b1, g1⟩ : ∃ z, z = h0.size := ⟨_, rfl⟩
  rw [← g1] at A1 D1 st1
  refine Go.st st1 ?_
  have ne_w_VALUES_b1 : w_VALUES ≠ b1 := Nat.ne_of_lt (Nat.lt_of_lt_of_le (A_VALUES.ext O0).lt (Nat.le_of_eq g1.symm))
  have ne_w_NEW_b1 : w_NEW ≠ b1 := Nat.ne_of_lt (Nat.lt_of_lt_of_le (E_NEW.ext O0).lt (Nat.le_of_eq g1.symm))
  have ne_w_CHANGED_b1 : w_CHANGED ≠ b1 := Nat.ne_of_lt (Nat.lt_of_lt_of_le (E_CHANGED.ext O0).lt (Nat.le_of_eq g1.symm))
  have ne_w_UNCHANGED_b1 : w_UNCHANGED ≠ b1 := Nat.ne_of_lt (Nat.lt_of_lt_of_le (E_UNCHANGED.ext O0).lt (Nat.le_of_eq g1.symm))
  have ne_w_CANCELLED_b1 : w_CANCELLED ≠ b1 := Nat.ne_of_lt (Nat.lt_of_lt_of_le (E_CANCELLED.ext O0).lt (Nat.le_of_eq g1.symm))
  have g_b1 : Z.heap.size ≤ b1 := Nat.le_trans O0.1 (Nat.le_of_eq g1.symm)
  have O1 := own_ext_trans O0 E1
  have F_counts_b1 : Fld Z h1 b1 "com/example/kertyma/kertyma/LoadCounts" "counts" "[J" .null := D1 (Or.inr (hw _ (List.mem_of_getElem? (i := 31) rfl))) (ty := (.array .long)) (by decide)
  have F_resumedAfter_b1 : Fld Z h1 b1 "com/example/kertyma/kertyma/LoadCounts" "resumedAfter" "J" (.long (0 : Int64)) := D1 (Or.inr (hw _ (List.mem_of_getElem? (i := 33) rfl))) (ty := .long) (by decide)
  have F_restartedAfter_b1 : Fld Z h1 b1 "com/example/kertyma/kertyma/LoadCounts" "restartedAfter" "J" (.long (0 : Int64)) := D1 (Or.inr (hw _ (List.mem_of_getElem? (i := 35) rfl))) (ty := .long) (by decide)
  have F_finishedPartitions_b1 : Fld Z h1 b1 "com/example/kertyma/kertyma/LoadCounts" "finishedPartitions" "I" (.int (0 : Int32)) := D1 (Or.inr (hw _ (List.mem_of_getElem? (i := 37) rfl))) (ty := .int) (by decide)
  have F_rejected_b1 : Fld Z h1 b1 "com/example/kertyma/kertyma/LoadCounts" "rejected" "J" (.long (0 : Int64)) := D1 (Or.inl (hw _ (List.mem_of_getElem? (i := 44) rfl))) (ty := .long) (by decide)
  show Go p e below _ (T1.setTop (mkF m 3 #[.val (.int a), .val (.int b), .unset, .unset, .unset] [(.ref b1)]))
  refine Go.st (fun t' k' => XS.dup X1.here hx rfl (hb hby at_3) rfl rfl k') ?_
  show Go p e below _ (T1.setTop (mkF m 4 #[.val (.int a), .val (.int b), .unset, .unset, .unset] [(.ref b1), (.ref b1)]))
  obtain ⟨_, _, ⟨T3, L3, k3, n3⟩, -, X3, ⟨Lc3, hQ3, l3, y3, z3⟩, st3⟩ := X1.specialBack hx (y := (⟨"com/example/kertyma/kertyma/LoadCounts", "<init>", "()V"⟩ : MethodName)) rfl hown (mvT hZ (hw _ (List.mem_of_getElem? (i := 3) rfl))) (mvT hZ (hw _ (List.mem_of_getElem? (i := 4) rfl))) (mvT hZ (hw _ (List.mem_of_getElem? (i := 5) rfl))) (by decide) (backOf (W := 1) (rmInit l Z a0 hw [] b1 w_VALUES k_VALUES w_NEW w_CHANGED w_UNCHANGED w_CANCELLED h1 O1 S_VALUES A_VALUES E_VALUES A1 g_b1 F_counts_b1 F_rejected_b1 F_resumedAfter_b1 F_restartedAfter_b1 F_finishedPartitions_b1) hZ (hw _ (List.mem_of_getElem? (i := 5) rfl)) (hw _ (List.mem_of_getElem? (i := 2) rfl)) (by decide) (by decide)) (g := (mkF m 4 #[.val (.int a), .val (.int b), .unset, .unset, .unset] [(.ref b1), (.ref b1)])) rfl (by rw [hml]; rfl) (Steps.refl _) (a := b1) (argsL := []) (rest := [(.ref b1)]) (lenOf pd___V rfl) rfl (by show 2 * 0 + _ ≤ _; exact Nat.le_of_eq rfl) (hb hby at_4) (fun _ _ => ⟨rfl, e1, (by decide : 1 + 2 ≤ _), (by decide : 5 + 8 ≤ _)⟩)
  dsimp only [Pt.U, Pt.locs, Pt.cells, Pt.slots] at X3 l3 y3 z3 st3 hQ3
  subst l3 y3 z3
  obtain ⟨b_3, kb_3, rfl, N3q, O3, Kc3, Pc_3, Vb_3, Gb_3, Sb_3, Nab_3, Pr_3, Pf_3, Ps_3⟩ := hQ3
  have N3 := Fr.app N0 N3q
  refine Go.tr st3 ?_
  have A1_h4 := A1.keep Kc3
  have ne_w_VALUES_b_3 : w_VALUES ≠ b_3 := Nat.ne_of_lt (Nat.lt_of_lt_of_le (A_VALUES.ext O1).lt Sb_3)
  have ne_w_NEW_b_3 : w_NEW ≠ b_3 := Nat.ne_of_lt (Nat.lt_of_lt_of_le (E_NEW.ext O1).lt Sb_3)
  have ne_w_CHANGED_b_3 : w_CHANGED ≠ b_3 := Nat.ne_of_lt (Nat.lt_of_lt_of_le (E_CHANGED.ext O1).lt Sb_3)
  have ne_w_UNCHANGED_b_3 : w_UNCHANGED ≠ b_3 := Nat.ne_of_lt (Nat.lt_of_lt_of_le (E_UNCHANGED.ext O1).lt Sb_3)
  have ne_w_CANCELLED_b_3 : w_CANCELLED ≠ b_3 := Nat.ne_of_lt (Nat.lt_of_lt_of_le (E_CANCELLED.ext O1).lt Sb_3)
  show Go p e below _ (T3.setTop (mkF m 7 #[.val (.int a), .val (.int b), .unset, .unset, .unset] [(.ref b1)]))
  refine Go.st (fun t' k' => XS.astoreN X3.here hx rfl (hb hby at_7) rfl rfl (l' := #[.val (.int a), .val (.int b), .val (.ref b1), .unset, .unset]) rfl k') ?_
  show Go p e below _ (T3.setTop (mkF m 8 #[.val (.int a), .val (.int b), .val (.ref b1), .unset, .unset] []))
  refine Go.st (fun t' k' => XS.lconst X3.here hx rfl (hb hby at_8) k') ?_
  show Go p e below _ (T3.setTop (mkF m 9 #[.val (.int a), .val (.int b), .val (.ref b1), .unset, .unset] [(.long (0 : Int64))]))
  refine Go.st (fun t' k' => XS.lstoreN X3.here hx rfl (hb hby at_9) rfl (l' := #[.val (.int a), .val (.int b), .val (.ref b1), .val (.long (0 : Int64)), .second]) rfl k') ?_
  -- pc 10: behind the cut
  exact blk10 Z a0 hw a b w_VALUES k_VALUES w_NEW w_CHANGED w_UNCHANGED w_CANCELLED h0 S_NEW S_CHANGED S_UNCHANGED S_CANCELLED S_VALUES A_VALUES E_VALUES E_NEW E_CHANGED E_UNCHANGED E_CANCELLED F_NEW_ordinal F_CHANGED_ordinal F_UNCHANGED_ordinal F_CANCELLED_ordinal b1 ((0 : Int64)) b_3 kb_3 ((0 : Int64)) ((0 : Int64)) ((0 : Int64)) ((0 : Int64)) ((0 : Int64)) T3.heap (own_stand_mono X3 (by decide) (by decide)) hx hZ hby hml hown hret hlk rfl N3 O3 A1_h4 Pc_3 Pr_3 Vb_3 g_b1 Gb_3 Nab_3 (by decide)
set_option maxRecDepth 65536 in
set_option maxHeartbeats 40000000 in
theorem comes_1 {Post : Tables → Env → Array Value → State → Outcome → State → Prop} (hpost : ∀ tb e args s v u, (limb_1_1.after args s (.returned v) u = true ∧ limb_1_2.after args s (.returned v) u = true ∧ True) → FrameEnd s (.returned v) u (Jvm.fieldLocs frame_1_writes args s ++ Jvm.arrayLocs frame_1_arrays args s ++ Jvm.staticLocs frame_1_statics s) 16 128 → Post tb e args s (.returned v) u) :
    ArmFor flags0 classFile x code maxLocals ret World_1 tables_1 room_1 Calls_1 rest_1 Pre_1 Post := by
  intro l hfl _ _ p e ha hc hk s m args below hf hA hF happ hP
  obtain ⟨hcalls, hrest, hpre⟩ := hP
  obtain ⟨-, -, -, hnamed, -, -, -, hat⟩ := (Spec.applies_iff hf).mp happ
  obtain ⟨hg, hn⟩ := and_e (Cond.before_iff.mp (show (Jvm.Cond.and given_1 narrow_1).before args s = true from hpre))
  obtain ⟨c1, c2⟩ := and_e hg
  obtain ⟨c3, c4⟩ := and_e c2
  obtain ⟨w0, w1, rfl⟩ : ∃ w0 w1 : Value, args = #[w0, w1] := by
    have hs : args.size = 2 := by simpa [Cond.value, given_1] using c1
    obtain ⟨L⟩ := args
    match L, hs with
    | [w0, w1], _ => exact ⟨w0, w1, rfl⟩
  have hw := fun d (hd : d ∈ tables_1) => atoms_spec (ws := Jvm.Cond.code x code maxLocals ret :: tables_1) hat d (List.mem_cons_of_mem _ hd)
  have hfit : Fit s := fun {y c} hc i hi => by
    obtain ⟨ha, rfl⟩ := Array.getElem?_eq_some_iff.mp hc
    have q := List.all_eq_true.mp ((Array.all_eq_true_iff_forall_mem.mp hF) _ (Array.getElem_mem ha)) i (List.mem_range.mpr hi)
    simpa [Array.getElem?_eq_getElem hi] using q
  obtain ⟨i0, ei0⟩ := is_v c3
  obtain rfl : w0 = (.int i0) := Option.some.inj ei0
  obtain ⟨i1, ei1⟩ := is_v c4
  obtain rfl : w1 = (.int i1) := Option.some.inj ei1
  obtain ⟨c5, c6⟩ := and_e hn
  obtain ⟨c7, c8⟩ := and_e c6
  obtain ⟨c9, c10⟩ := and_e c8
  obtain ⟨c11, c12⟩ := and_e c10
  obtain ⟨c13, c14⟩ := and_e c12
  obtain ⟨c15, c16⟩ := and_e c14
  obtain ⟨c17, c18⟩ := and_e c16
  obtain ⟨c19, c20⟩ := and_e c18
  obtain ⟨c21, c22⟩ := and_e c20
  obtain ⟨c23, c24⟩ := and_e c22
  obtain ⟨c25, c26⟩ := and_e c24
  obtain ⟨c27, c28⟩ := and_e c26
  obtain ⟨c29, c30⟩ := and_e c28
  obtain ⟨c31, c32⟩ := and_e c30
  obtain ⟨w__VALUES, ev__VALUES⟩ := exa_v c7
  have S__VALUES := Sta.start ev__VALUES (Or.inr ⟨(hw _ (List.mem_of_getElem? (i := 11) rfl)), (hw _ (List.mem_of_getElem? (i := 14) rfl))⟩)
  have E__VALUES := Exa.start ev__VALUES c7
  obtain ⟨w_NEW, ev_NEW⟩ := exa_v c11
  have S_NEW := Sta.start ev_NEW (Or.inr ⟨(hw _ (List.mem_of_getElem? (i := 11) rfl)), (hw _ (List.mem_of_getElem? (i := 22) rfl))⟩)
  have E_NEW := Exa.start ev_NEW c11
  obtain ⟨w_CHANGED, ev_CHANGED⟩ := exa_v c15
  have S_CHANGED := Sta.start ev_CHANGED (Or.inr ⟨(hw _ (List.mem_of_getElem? (i := 11) rfl)), (hw _ (List.mem_of_getElem? (i := 23) rfl))⟩)
  have E_CHANGED := Exa.start ev_CHANGED c15
  obtain ⟨w_UNCHANGED, ev_UNCHANGED⟩ := exa_v c19
  have S_UNCHANGED := Sta.start ev_UNCHANGED (Or.inr ⟨(hw _ (List.mem_of_getElem? (i := 11) rfl)), (hw _ (List.mem_of_getElem? (i := 24) rfl))⟩)
  have E_UNCHANGED := Exa.start ev_UNCHANGED c19
  obtain ⟨w_CANCELLED, ev_CANCELLED⟩ := exa_v c23
  have S_CANCELLED := Sta.start ev_CANCELLED (Or.inr ⟨(hw _ (List.mem_of_getElem? (i := 11) rfl)), (hw _ (List.mem_of_getElem? (i := 25) rfl))⟩)
  have E_CANCELLED := Exa.start ev_CANCELLED c23
  have F_NEW_ordinal := own_fld ev_NEW c27
  have F_UNCHANGED_ordinal := own_fld ev_UNCHANGED c29
  have F_CANCELLED_ordinal := own_fld ev_CANCELLED c31
  have F_CHANGED_ordinal := own_fld ev_CHANGED c32
  obtain ⟨cl_V, Ar_V⟩ := Arr.start ev__VALUES c5
  obtain ⟨lt_V, len_V⟩ := own_len ev__VALUES Ar_V c9
  have el_0 := own_elem ev__VALUES Ar_V ev_NEW c13
  have el_1 := own_elem ev__VALUES Ar_V ev_CHANGED c17
  have el_2 := own_elem ev__VALUES Ar_V ev_UNCHANGED c21
  have el_3 := own_elem ev__VALUES Ar_V ev_CANCELLED c25
  have A_VALUES : Arv s s.heap w__VALUES cl_V.cls (.object "com/example/kertyma/kertyma/RowOutcome") 4 [(.ref w_NEW), (.ref w_CHANGED), (.ref w_UNCHANGED), (.ref w_CANCELLED)] .null := Arv.start hfit Ar_V lt_V len_V (by decide) rfl ⟨el_0, el_1, el_2, el_3, trivial⟩
  obtain ⟨n, o, h1, h2, h3, _, L, rfl, ⟨rfl, N⟩, hq⟩ := rm0 l s _ hw tables_1 i0 i1 w__VALUES cl_V.cls w_NEW w_CHANGED w_UNCHANGED w_CANCELLED s.heap (own_ext_refl _) S_NEW S_CHANGED S_UNCHANGED S_CANCELLED S__VALUES A_VALUES E__VALUES E_NEW E_CHANGED E_UNCHANGED E_CANCELLED F_NEW_ordinal F_CHANGED_ordinal F_UNCHANGED_ordinal F_CANCELLED_ordinal p e ha hc hk s m _ below hf ((Spec.applies_iff_loose hf).mp happ).1 ⟨rfl, State.Warmed39.refl s, rfl⟩ trivial
  refine ⟨n, _, h1, h2, h3, hpost _ _ _ _ _ _ ⟨Cond.after_iff.mpr rfl, Cond.after_iff.mpr (eq_i res_at (Term.int_eval (1)) rfl), trivial⟩ ⟨hq.1, hq.2.1, (hq.2.2.sift fun y hy => Or.inr (N y hy)).mono (by decide) (by decide)⟩⟩
theorem main_1_1 : Claimed_1_1 := comes_1 fun _ _ _ _ _ _ h hF => ⟨h.1, hF⟩
theorem main_1_2 : Claimed_1_2 := comes_1 fun _ _ _ _ _ _ h hF => ⟨h.2.1, hF⟩
end Jvm.Pilot.@@N@@
namespace Jvm.Pilot.@@N@@
open Jvm Jvm.ClassFile Sem Op Lib Jvm.Free Jvm.Stand Jvm.Pilot.@@N@@.Jvm.D
/-! MADE BY PROGRAM (witnessworld.py) out of the Statement's table words and the real class files: 16 classes; the members and pool entries that the words name. The judged class is class 1, her method 2. -/
namespace start1
open Jvm.ClassFile
def u (s : String) : CpInfo := .utf8 (stringToUtf16 s)
/-- a pool by its gaps: so many unusable entries, then the entry; so many at the end -/
def gap : Nat → List CpInfo → List CpInfo
  | 0, r => r
  | n + 1, r => .unusable :: gap n r
def poolList (es : List (Nat × CpInfo)) (last : Nat) : List CpInfo := es.foldr (fun e r => gap e.1 (e.2 :: r)) (gap last [])
def pool (es : List (Nat × CpInfo)) (last : Nat) : Array CpInfo := ⟨poolList es last⟩
def fileOf (pool : Array CpInfo) (this : Nat) (attrs : Array Attribute := #[]) (ms : Array MethodInfo := #[]) (fl : Nat := 33) (sup : Nat := 0) (ifs : Array Nat := #[]) (fds : Array FieldInfo := #[]) : ClassFile where
  minorVersion := 0
  majorVersion := 65
  constantPool := pool
  accessFlags := fl
  thisClass := this
  superClass := sup
  interfaces := ifs
  fields := fds
  methods := ms
  attributes := attrs
def plain (name : String) (sup : Option ClassId) : Class where
  name := name
  kind := .ordinary
  loader := none
  accessFlags := 33
  super := sup
  interfaces := #[]
  cf := none
  fields := #[]
  methods := #[]
  instanceTypes := #[]
  staticTypes := #[]
  resolved := #[]
  callSites := []
  init := .initialized
  statics := none
  mirror := none

def pool0 : Array CpInfo := pool [(5, u "<init>"), (0, u "()V"), (1, .class_ 10), (1, u "java/lang/Object"), (85, u "clone"), (0, u "()Ljava/lang/Object;")] 26

def k0c0 : Code := { maxStack := 0, maxLocals := 1, code := object_method_1_code, exceptionTable := #[], attributes := #[] }
def k0m0 : Method := { name := "<init>", desc := "()V", sig := { parameters := [], returnType := none }, accessFlags := 1, code := some k0c0 }
def k0m1 : Method := { name := "clone", desc := "()Ljava/lang/Object;", sig := { parameters := [], returnType := some (.object "java/lang/Object") }, accessFlags := 260, code := none }
/-- java/lang/Object -/
def k0 : Class := { plain "java/lang/Object" none with
  accessFlags := 33
  interfaces := #[]
  cf := some (fileOf pool0 8 #[] #[{ accessFlags := 1, nameIndex := 5, descriptorIndex := 6, attributes := #[] }, { accessFlags := 260, nameIndex := 96, descriptorIndex := 97, attributes := #[] }] 33 0 #[] #[])
  fields := #[]
  methods := #[k0m0, k0m1]
  instanceTypes := #[]
  staticTypes := #[]
  resolved := Array.replicate 124 none
  statics := none }

def pool1 : Array CpInfo := pool [(2, .class_ 4), (0, .nameAndType 5 6), (0, u "java/lang/Object"), (0, u "<init>"), (0, u "()V"), (0, .fieldref 8 9), (0, .class_ 10), (0, .nameAndType 11 12), (0, u "com/example/kertyma/kertyma/RowOutcome"), (0, u "NEW"), (0, u "Lcom/example/kertyma/kertyma/RowOutcome;"), (0, .fieldref 8 14), (0, .nameAndType 15 12), (0, u "CHANGED"), (0, .fieldref 8 17), (0, .nameAndType 18 12), (0, u "UNCHANGED"), (0, .fieldref 8 20), (0, .nameAndType 21 12), (0, u "CANCELLED"), (0, .class_ 23), (0, u "com/example/kertyma/kertyma/LoadCounts"), (0, .methodref 22 3), (0, .methodref 26 27), (0, .class_ 28), (0, .nameAndType 29 30), (0, u "com/example/kertyma/kertyma/LoadCountsTotalPinLaw"), (0, u "outcome"), (0, u "(I)Lcom/example/kertyma/kertyma/RowOutcome;"), (0, .methodref 22 32), (0, .nameAndType 33 34), (0, u "count"), (0, u "(Lcom/example/kertyma/kertyma/RowOutcome;)V"), (0, .methodref 22 36), (0, .nameAndType 37 6), (0, u "reject"), (0, .methodref 22 39), (0, .nameAndType 40 41), (0, u "total"), (0, u "()J"), (3, u "law"), (0, u "(II)Z")] 2

def k1m0 : Method := { name := "<init>", desc := "()V", sig := { parameters := [], returnType := none }, accessFlags := 1, code := none }
def k1c1 : Code := { maxStack := 2, maxLocals := 2, code := method_2_code, exceptionTable := #[], attributes := #[] }
def k1m1 : Method := { name := "outcome", desc := "(I)Lcom/example/kertyma/kertyma/RowOutcome;", sig := { parameters := [.int], returnType := some (.object "com/example/kertyma/kertyma/RowOutcome") }, accessFlags := 10, code := some k1c1 }
def k1c2 : Code := { maxStack := 4, maxLocals := 5, code := code, exceptionTable := #[], attributes := #[] }
def k1m2 : Method := { name := "law", desc := "(II)Z", sig := { parameters := [.int, .int], returnType := some .boolean }, accessFlags := 9, code := some k1c2 }
/-- com/example/kertyma/kertyma/LoadCountsTotalPinLaw -/
def k1 : Class := { plain "com/example/kertyma/kertyma/LoadCountsTotalPinLaw" (some 0) with
  accessFlags := 49
  interfaces := #[]
  cf := some (fileOf pool1 26 #[] #[{ accessFlags := 1, nameIndex := 5, descriptorIndex := 6, attributes := #[] }, { accessFlags := 10, nameIndex := 29, descriptorIndex := 30, attributes := #[] }, { accessFlags := 9, nameIndex := 45, descriptorIndex := 46, attributes := #[] }] 49 2 #[] #[])
  fields := #[]
  methods := #[k1m0, k1m1, k1m2]
  instanceTypes := #[]
  staticTypes := #[]
  resolved := Array.replicate 49 none
  statics := none }

def pool2 : Array CpInfo := pool [(1, .methodref 2 3), (0, .class_ 4), (0, .nameAndType 5 6), (0, u "java/lang/Object"), (0, u "<init>"), (0, u "()V"), (0, .methodref 8 9), (0, .class_ 10), (0, .nameAndType 11 12), (0, u "com/example/kertyma/kertyma/RowOutcome"), (0, u "values"), (0, u "()[Lcom/example/kertyma/kertyma/RowOutcome;"), (0, .fieldref 14 15), (0, .class_ 16), (0, .nameAndType 17 18), (0, u "com/example/kertyma/kertyma/LoadCounts"), (0, u "counts"), (0, u "[J"), (0, .fieldref 14 20), (0, .nameAndType 21 22), (0, u "resumedAfter"), (0, u "J"), (0, .fieldref 14 24), (0, .nameAndType 25 22), (0, u "restartedAfter"), (0, .fieldref 14 27), (0, .nameAndType 28 29), (0, u "finishedPartitions"), (0, u "I"), (6, .fieldref 14 37), (0, .nameAndType 38 22), (0, u "rejected"), (3, u "()J"), (16, .methodref 8 60), (0, .nameAndType 61 62), (0, u "ordinal"), (0, u "()I"), (2, u "total"), (13, u "count"), (0, u "(Lcom/example/kertyma/kertyma/RowOutcome;)V"), (0, u "reject")] 6

def k2c0 : Code := { maxStack := 3, maxLocals := 1, code := prog_4_method_1_code, exceptionTable := #[], attributes := #[] }
def k2m0 : Method := { name := "<init>", desc := "()V", sig := { parameters := [], returnType := none }, accessFlags := 0, code := some k2c0 }
def k2c1 : Code := { maxStack := 6, maxLocals := 2, code := prog_4_method_4_code, exceptionTable := #[], attributes := #[] }
def k2m1 : Method := { name := "count", desc := "(Lcom/example/kertyma/kertyma/RowOutcome;)V", sig := { parameters := [(.object "com/example/kertyma/kertyma/RowOutcome")], returnType := none }, accessFlags := 0, code := some k2c1 }
def k2c2 : Code := { maxStack := 5, maxLocals := 1, code := prog_4_method_5_code, exceptionTable := #[], attributes := #[] }
def k2m2 : Method := { name := "reject", desc := "()V", sig := { parameters := [], returnType := none }, accessFlags := 0, code := some k2c2 }
def k2c3 : Code := { maxStack := 4, maxLocals := 8, code := prog_4_method_7_code, exceptionTable := #[], attributes := #[] }
def k2m3 : Method := { name := "total", desc := "()J", sig := { parameters := [], returnType := some .long }, accessFlags := 1, code := some k2c3 }
/-- com/example/kertyma/kertyma/LoadCounts -/
def k2 : Class := { plain "com/example/kertyma/kertyma/LoadCounts" (some 0) with
  accessFlags := 33
  interfaces := #[]
  cf := some (fileOf pool2 14 #[] #[{ accessFlags := 0, nameIndex := 5, descriptorIndex := 6, attributes := #[] }, { accessFlags := 0, nameIndex := 79, descriptorIndex := 80, attributes := #[] }, { accessFlags := 0, nameIndex := 81, descriptorIndex := 6, attributes := #[] }, { accessFlags := 1, nameIndex := 65, descriptorIndex := 42, attributes := #[] }] 33 2 #[] #[{ accessFlags := 18, nameIndex := 17, descriptorIndex := 18, attributes := #[] }, { accessFlags := 2, nameIndex := 38, descriptorIndex := 22, attributes := #[] }, { accessFlags := 18, nameIndex := 21, descriptorIndex := 22, attributes := #[] }, { accessFlags := 18, nameIndex := 25, descriptorIndex := 22, attributes := #[] }, { accessFlags := 18, nameIndex := 28, descriptorIndex := 29, attributes := #[] }])
  fields := #[{ name := "counts", type := (.array .long), accessFlags := 18, slot := 0, constantValue := 0 }, { name := "rejected", type := .long, accessFlags := 2, slot := 1, constantValue := 0 }, { name := "resumedAfter", type := .long, accessFlags := 18, slot := 2, constantValue := 0 }, { name := "restartedAfter", type := .long, accessFlags := 18, slot := 3, constantValue := 0 }, { name := "finishedPartitions", type := .int, accessFlags := 18, slot := 4, constantValue := 0 }]
  methods := #[k2m0, k2m1, k2m2, k2m3]
  instanceTypes := #[(.array .long), .long, .long, .long, .int]
  staticTypes := #[]
  resolved := Array.replicate 88 none
  statics := none }

def pool3 : Array CpInfo := pool [(1, .class_ 2), (0, u "java/lang/constant/Constable"), (0, .class_ 4), (0, u "java/lang/Object")] 6

/-- java/lang/constant/Constable -/
def k3 : Class := { plain "java/lang/constant/Constable" (some 0) with
  accessFlags := 1537
  interfaces := #[]
  cf := some (fileOf pool3 1 #[] #[] 1537 3 #[] #[])
  fields := #[]
  methods := #[]
  instanceTypes := #[]
  staticTypes := #[]
  resolved := Array.replicate 11 none
  statics := none }

def pool4 : Array CpInfo := pool [(1, .class_ 2), (0, u "java/lang/Comparable"), (0, .class_ 4), (0, u "java/lang/Object")] 7

/-- java/lang/Comparable -/
def k4 : Class := { plain "java/lang/Comparable" (some 0) with
  accessFlags := 1537
  interfaces := #[]
  cf := some (fileOf pool4 1 #[] #[] 1537 3 #[] #[])
  fields := #[]
  methods := #[]
  instanceTypes := #[]
  staticTypes := #[]
  resolved := Array.replicate 12 none
  statics := none }

def pool5 : Array CpInfo := pool [(1, .class_ 2), (0, u "java/io/Serializable"), (0, .class_ 4), (0, u "java/lang/Object")] 2

/-- java/io/Serializable -/
def k5 : Class := { plain "java/io/Serializable" (some 0) with
  accessFlags := 1537
  interfaces := #[]
  cf := some (fileOf pool5 1 #[] #[] 1537 3 #[] #[])
  fields := #[]
  methods := #[]
  instanceTypes := #[]
  staticTypes := #[]
  resolved := Array.replicate 7 none
  statics := none }

def pool6 : Array CpInfo := pool [(2, .class_ 4), (1, u "java/lang/Enum"), (0, u "name"), (0, u "Ljava/lang/String;"), (0, .fieldref 2 8), (0, .nameAndType 9 10), (0, u "ordinal"), (0, u "I"), (1, .class_ 14), (1, u "java/lang/Object"), (4, u "hash"), (86, .class_ 108), (1, u "java/lang/Enum$EnumDesc"), (2, .class_ 112), (0, u "java/lang/constant/Constable"), (0, .class_ 114), (0, u "java/lang/Comparable"), (0, .class_ 116), (0, u "java/io/Serializable"), (9, u "()I")] 77

def k6c0 : Code := { maxStack := 1, maxLocals := 1, code := jdk_37_method_2_code, exceptionTable := #[], attributes := #[] }
def k6m0 : Method := { name := "ordinal", desc := "()I", sig := { parameters := [], returnType := some .int }, accessFlags := 17, code := some k6c0 }
/-- java/lang/Enum -/
def k6 : Class := { plain "java/lang/Enum" (some 0) with
  accessFlags := 1057
  interfaces := #[3, 4, 5]
  cf := some (fileOf pool6 2 #[.nestMembers #[106]] #[{ accessFlags := 17, nameIndex := 9, descriptorIndex := 126, attributes := #[] }] 1057 12 #[111, 113, 115] #[{ accessFlags := 18, nameIndex := 5, descriptorIndex := 6, attributes := #[] }, { accessFlags := 18, nameIndex := 9, descriptorIndex := 10, attributes := #[] }, { accessFlags := 2, nameIndex := 19, descriptorIndex := 10, attributes := #[] }])
  fields := #[{ name := "name", type := (.object "java/lang/String"), accessFlags := 18, slot := 0, constantValue := 0 }, { name := "ordinal", type := .int, accessFlags := 18, slot := 1, constantValue := 0 }, { name := "hash", type := .int, accessFlags := 2, slot := 2, constantValue := 0 }]
  methods := #[k6m0]
  instanceTypes := #[(.object "java/lang/String"), .int, .int]
  staticTypes := #[]
  resolved := Array.replicate 204 none
  statics := none }

def pool7 : Array CpInfo := pool [(1, .class_ 2), (0, u "com/example/kertyma/kertyma/RowOutcome"), (2, u "NEW"), (0, u "Lcom/example/kertyma/kertyma/RowOutcome;"), (2, u "CHANGED"), (2, u "UNCHANGED"), (2, u "CANCELLED"), (0, .fieldref 1 17), (0, .nameAndType 18 19), (0, u "$VALUES"), (0, u "[Lcom/example/kertyma/kertyma/RowOutcome;"), (0, .methodref 21 22), (0, .class_ 19), (0, .nameAndType 23 24), (0, u "clone"), (0, u "()Ljava/lang/Object;"), (1, .class_ 28), (1, u "java/lang/Enum"), (14, u "()[Lcom/example/kertyma/kertyma/RowOutcome;"), (0, u "values")] 10

def k7c0 : Code := { maxStack := 1, maxLocals := 0, code := prog_8_method_1_code, exceptionTable := #[], attributes := #[] }
def k7m0 : Method := { name := "values", desc := "()[Lcom/example/kertyma/kertyma/RowOutcome;", sig := { parameters := [], returnType := some (.array (.object "com/example/kertyma/kertyma/RowOutcome")) }, accessFlags := 9, code := some k7c0 }
/-- com/example/kertyma/kertyma/RowOutcome -/
def k7 : Class := { plain "com/example/kertyma/kertyma/RowOutcome" (some 6) with
  accessFlags := 16433
  interfaces := #[]
  cf := some (fileOf pool7 1 #[] #[{ accessFlags := 9, nameIndex := 44, descriptorIndex := 43, attributes := #[] }] 16433 26 #[] #[{ accessFlags := 16409, nameIndex := 5, descriptorIndex := 6, attributes := #[] }, { accessFlags := 16409, nameIndex := 9, descriptorIndex := 6, attributes := #[] }, { accessFlags := 16409, nameIndex := 12, descriptorIndex := 6, attributes := #[] }, { accessFlags := 16409, nameIndex := 15, descriptorIndex := 6, attributes := #[] }, { accessFlags := 4122, nameIndex := 18, descriptorIndex := 19, attributes := #[] }])
  fields := #[{ name := "NEW", type := (.object "com/example/kertyma/kertyma/RowOutcome"), accessFlags := 16409, slot := 0, constantValue := 0 }, { name := "CHANGED", type := (.object "com/example/kertyma/kertyma/RowOutcome"), accessFlags := 16409, slot := 1, constantValue := 0 }, { name := "UNCHANGED", type := (.object "com/example/kertyma/kertyma/RowOutcome"), accessFlags := 16409, slot := 2, constantValue := 0 }, { name := "CANCELLED", type := (.object "com/example/kertyma/kertyma/RowOutcome"), accessFlags := 16409, slot := 3, constantValue := 0 }, { name := "$VALUES", type := (.array (.object "com/example/kertyma/kertyma/RowOutcome")), accessFlags := 4122, slot := 4, constantValue := 0 }]
  methods := #[k7m0]
  instanceTypes := #[(.object "java/lang/String"), .int, .int]
  staticTypes := #[(.object "com/example/kertyma/kertyma/RowOutcome"), (.object "com/example/kertyma/kertyma/RowOutcome"), (.object "com/example/kertyma/kertyma/RowOutcome"), (.object "com/example/kertyma/kertyma/RowOutcome"), (.array (.object "com/example/kertyma/kertyma/RowOutcome"))]
  resolved := Array.replicate 55 none
  statics := some 0 }

def pool8 : Array CpInfo := pool [(1, .class_ 2), (0, u "java/lang/Cloneable"), (0, .class_ 4), (0, u "java/lang/Object")] 2

/-- java/lang/Cloneable -/
def k8 : Class := { plain "java/lang/Cloneable" (some 0) with
  accessFlags := 1537
  interfaces := #[]
  cf := some (fileOf pool8 1 #[] #[] 1537 3 #[] #[])
  fields := #[]
  methods := #[]
  instanceTypes := #[]
  staticTypes := #[]
  resolved := Array.replicate 7 none
  statics := none }

/-- the primitive byte -/
def k9 : Class := { plain "byte" none with kind := .primitive 'B', accessFlags := 0x411 }
/-- [B -/
def k10 : Class := { plain "[B" (some 0) with kind := .array 9 .byte, interfaces := #[8, 5], accessFlags := 1041 }

/-- the primitive int -/
def k11 : Class := { plain "int" none with kind := .primitive 'I', accessFlags := 0x411 }
/-- [I -/
def k12 : Class := { plain "[I" (some 0) with kind := .array 11 .int, interfaces := #[8, 5], accessFlags := 1041 }

/-- the primitive long -/
def k13 : Class := { plain "long" none with kind := .primitive 'J', accessFlags := 0x411 }
/-- [J -/
def k14 : Class := { plain "[J" (some 0) with kind := .array 13 .long, interfaces := #[8, 5], accessFlags := 1041 }

/-- [Lcom/example/kertyma/kertyma/RowOutcome; -/
def k15 : Class := { plain "[Lcom/example/kertyma/kertyma/RowOutcome;" (some 0) with kind := .array 7 (.object "com/example/kertyma/kertyma/RowOutcome"), interfaces := #[8, 5], accessFlags := 1041 }

def heap : Heap := #[{ cls := 7, slots := #[.ref 2, .ref 3, .ref 4, .ref 5, .ref 1], vm := .statics 7 },
  { cls := 15, slots := #[.ref 2, .ref 3, .ref 4, .ref 5], vm := .none },
  { cls := 7, slots := #[.null, .int 0, .int 0], vm := .none },
  { cls := 7, slots := #[.null, .int 1, .int 0], vm := .none },
  { cls := 7, slots := #[.null, .int 2, .int 0], vm := .none },
  { cls := 7, slots := #[.null, .int 3, .int 0], vm := .none }]
def classes : Array Class := #[k0, k1, k2, k3, k4, k5, k6, k7, k8, k9, k10, k11, k12, k13, k14, k15]
def interned : List (Array UInt16 × Addr) := []
def slotsUsed : Nat := 21
def theMethod : MethodId := ⟨1, 2⟩
def args0 : Array Value := #[.int 5, .int 6]
def aboutOver (below : List Frame) : State where
  vm := { classes := classes, interned := interned.toArray }
  heap := heap
  slotsUsed := slotsUsed
  threads := #[{ frames := .invoking theMethod args0 :: below }]
def below0 : List Frame := [.native { method := ⟨0, 0⟩, args := #[] }]
def about1 : State := aboutOver below0
def p0 : Program := .bare "" "" ""
def e0 : Env := launch0.env 0 0 0
theorem w_frames : about1.frames = Frame.invoking theMethod args0 :: below0 := rfl
set_option maxRecDepth 65536 in
theorem w_args : argsFit about1.vm theMethod args0 = true := by decide +kernel
set_option maxRecDepth 65536 in
theorem w_heap : heapFits about1 = true := by decide +kernel
set_option maxRecDepth 65536 in
theorem w_runnable : about1.curStatus? = some .runnable := by decide +kernel
set_option maxRecDepth 65536 in
theorem w_alone : about1.alone = true := by decide +kernel
set_option maxRecDepth 65536 in
theorem w_named : about1.methodNamed? x = some theMethod := by decide +kernel
set_option maxRecDepth 65536 in
theorem w_hears : about1.hears theMethod below0 = true := by decide +kernel
set_option maxRecDepth 65536 in
theorem w_ripe : about1.ripe theMethod args0 below0 = true := by decide +kernel
theorem w_running : about1.status = .running := rfl
set_option maxRecDepth 65536 in
theorem w_room : about1.hasRoom e0.platform room_1 = true :=
  launch0.hasRoom_least _ room_1 (by decide +kernel) (by decide +kernel) (by decide +kernel) (by decide +kernel) (by decide +kernel) (by decide +kernel)
theorem allAtoms_all (ts : List Jvm.Cond) (a : Array Jvm.Value) (st : Jvm.State) : (allAtoms ts).before a st = ts.all (fun c => c.before a st) := by
  induction ts with
  | nil => rfl
  | cons c t ih =>
    show (Jvm.Cond.and c (allAtoms t)).before a st = _
    rw [Jvm.Cond.before_and, ih, List.all_cons]
def words1 : List Jvm.Cond := Jvm.Cond.code x code maxLocals ret :: tables_1
/-- a 'code' word, met by the world's own term for the bytes: nothing is compared byte by byte -/
theorem code_word {y : MethodName} {bytes : ByteArray} {mx : Nat} {rt : Option FieldType} {a : Array Value} {s : State} {m : MethodId} {meth : Method} {c : Code} (h1 : s.methodNamed? y = some m) (h2 : s.vm.method? m = some meth) (h3 : meth.code = some c) (h4 : c.code = bytes)
    (h5 : (c.maxLocals == mx && c.exceptionTable.isEmpty && decide (c.maxStack ≤ mostOperands) && decide (meth.sig.returnType = rt) && !meth.locks && decide (parseMethodDescriptor y.desc = some meth.sig)) = true) : (Jvm.Cond.code y bytes mx rt).before a s = true := by
  simp only [Bool.and_eq_true, beq_iff_eq, Bool.not_eq_true', decide_eq_true_eq] at h5
  obtain ⟨⟨⟨⟨⟨g1, g2⟩, g3⟩, g4⟩, g5⟩, g6⟩ := h5
  simp [Cond.before, Cond.holds, Cond.value, h1, h2, h3, h4, g1, g2, g3, g4, g5, g6]
def isCode : Jvm.Cond → Bool
  | .code _ _ _ _ => true
  | _ => false
theorem all_split {L : List Jvm.Cond} {P : Jvm.Cond → Bool} (h1 : L.all (fun c => isCode c || P c) = true) (h2 : ∀ c ∈ L.filter isCode, P c = true) : L.all P = true := by
  refine List.all_eq_true.mpr fun c hc => ?_
  have h := List.all_eq_true.mp h1 c hc
  rcases Bool.eq_false_or_eq_true (isCode c) with hi | hi
  · exact h2 c (List.mem_filter.mpr ⟨hc, hi⟩)
  · simpa [hi] using h
set_option maxRecDepth 65536 in
theorem w_c0 : (Jvm.Cond.code x code maxLocals ret).before args0 about1 = true := code_word (m := ⟨1, 2⟩) (meth := k1m2) (c := k1c2) (by decide +kernel) rfl rfl rfl (by decide +kernel)
set_option maxRecDepth 65536 in
theorem w_c1 : (Jvm.Cond.code ({ cls := "com/example/kertyma/kertyma/LoadCounts", name := "<init>", desc := "()V" } : Jvm.MethodName) prog_4_method_1_code (1 : Nat) (Option.none : Option Jvm.ClassFile.FieldType)).before args0 about1 = true := code_word (m := ⟨2, 0⟩) (meth := k2m0) (c := k2c0) (by decide +kernel) rfl rfl rfl (by decide +kernel)
set_option maxRecDepth 65536 in
theorem w_c2 : (Jvm.Cond.code ({ cls := "java/lang/Object", name := "<init>", desc := "()V" } : Jvm.MethodName) object_method_1_code (1 : Nat) (Option.none : Option Jvm.ClassFile.FieldType)).before args0 about1 = true := code_word (m := ⟨0, 0⟩) (meth := k0m0) (c := k0c0) (by decide +kernel) rfl rfl rfl (by decide +kernel)
set_option maxRecDepth 65536 in
theorem w_c3 : (Jvm.Cond.code ({ cls := "com/example/kertyma/kertyma/RowOutcome", name := "values", desc := "()[Lcom/example/kertyma/kertyma/RowOutcome;" } : Jvm.MethodName) prog_8_method_1_code (0 : Nat) (Option.some (Jvm.ClassFile.FieldType.array (Jvm.ClassFile.FieldType.object "com/example/kertyma/kertyma/RowOutcome")))).before args0 about1 = true := code_word (m := ⟨7, 0⟩) (meth := k7m0) (c := k7c0) (by decide +kernel) rfl rfl rfl (by decide +kernel)
set_option maxRecDepth 65536 in
theorem w_c4 : (Jvm.Cond.code ({ cls := "com/example/kertyma/kertyma/LoadCounts", name := "reject", desc := "()V" } : Jvm.MethodName) prog_4_method_5_code (1 : Nat) (Option.none : Option Jvm.ClassFile.FieldType)).before args0 about1 = true := code_word (m := ⟨2, 2⟩) (meth := k2m2) (c := k2c2) (by decide +kernel) rfl rfl rfl (by decide +kernel)
set_option maxRecDepth 65536 in
theorem w_c5 : (Jvm.Cond.code ({ cls := "com/example/kertyma/kertyma/LoadCounts", name := "total", desc := "()J" } : Jvm.MethodName) prog_4_method_7_code (8 : Nat) (Option.some Jvm.ClassFile.FieldType.long)).before args0 about1 = true := code_word (m := ⟨2, 3⟩) (meth := k2m3) (c := k2c3) (by decide +kernel) rfl rfl rfl (by decide +kernel)
set_option maxRecDepth 65536 in
theorem w_c6 : (Jvm.Cond.code ({ cls := "com/example/kertyma/kertyma/LoadCountsTotalPinLaw", name := "outcome", desc := "(I)Lcom/example/kertyma/kertyma/RowOutcome;" } : Jvm.MethodName) method_2_code (2 : Nat) (Option.some (Jvm.ClassFile.FieldType.object "com/example/kertyma/kertyma/RowOutcome"))).before args0 about1 = true := code_word (m := ⟨1, 1⟩) (meth := k1m1) (c := k1c1) (by decide +kernel) rfl rfl rfl (by decide +kernel)
set_option maxRecDepth 65536 in
theorem w_c7 : (Jvm.Cond.code ({ cls := "com/example/kertyma/kertyma/LoadCounts", name := "count", desc := "(Lcom/example/kertyma/kertyma/RowOutcome;)V" } : Jvm.MethodName) prog_4_method_4_code (2 : Nat) (Option.none : Option Jvm.ClassFile.FieldType)).before args0 about1 = true := code_word (m := ⟨2, 1⟩) (meth := k2m1) (c := k2c1) (by decide +kernel) rfl rfl rfl (by decide +kernel)
set_option maxRecDepth 65536 in
theorem w_c8 : (Jvm.Cond.code ({ cls := "java/lang/Enum", name := "ordinal", desc := "()I" } : Jvm.MethodName) jdk_37_method_2_code (1 : Nat) (Option.some Jvm.ClassFile.FieldType.int)).before args0 about1 = true := code_word (m := ⟨6, 0⟩) (meth := k6m0) (c := k6c0) (by decide +kernel) rfl rfl rfl (by decide +kernel)
def codes1 : List Jvm.Cond := [Jvm.Cond.code x code maxLocals ret, Jvm.Cond.code ({ cls := "com/example/kertyma/kertyma/LoadCounts", name := "<init>", desc := "()V" } : Jvm.MethodName) prog_4_method_1_code (1 : Nat) (Option.none : Option Jvm.ClassFile.FieldType), Jvm.Cond.code ({ cls := "java/lang/Object", name := "<init>", desc := "()V" } : Jvm.MethodName) object_method_1_code (1 : Nat) (Option.none : Option Jvm.ClassFile.FieldType), Jvm.Cond.code ({ cls := "com/example/kertyma/kertyma/RowOutcome", name := "values", desc := "()[Lcom/example/kertyma/kertyma/RowOutcome;" } : Jvm.MethodName) prog_8_method_1_code (0 : Nat) (Option.some (Jvm.ClassFile.FieldType.array (Jvm.ClassFile.FieldType.object "com/example/kertyma/kertyma/RowOutcome"))), Jvm.Cond.code ({ cls := "com/example/kertyma/kertyma/LoadCounts", name := "reject", desc := "()V" } : Jvm.MethodName) prog_4_method_5_code (1 : Nat) (Option.none : Option Jvm.ClassFile.FieldType), Jvm.Cond.code ({ cls := "com/example/kertyma/kertyma/LoadCounts", name := "total", desc := "()J" } : Jvm.MethodName) prog_4_method_7_code (8 : Nat) (Option.some Jvm.ClassFile.FieldType.long), Jvm.Cond.code ({ cls := "com/example/kertyma/kertyma/LoadCountsTotalPinLaw", name := "outcome", desc := "(I)Lcom/example/kertyma/kertyma/RowOutcome;" } : Jvm.MethodName) method_2_code (2 : Nat) (Option.some (Jvm.ClassFile.FieldType.object "com/example/kertyma/kertyma/RowOutcome")), Jvm.Cond.code ({ cls := "com/example/kertyma/kertyma/LoadCounts", name := "count", desc := "(Lcom/example/kertyma/kertyma/RowOutcome;)V" } : Jvm.MethodName) prog_4_method_4_code (2 : Nat) (Option.none : Option Jvm.ClassFile.FieldType), Jvm.Cond.code ({ cls := "java/lang/Enum", name := "ordinal", desc := "()I" } : Jvm.MethodName) jdk_37_method_2_code (1 : Nat) (Option.some Jvm.ClassFile.FieldType.int)]
set_option maxRecDepth 65536 in
theorem codes_eq : words1.filter isCode = codes1 := rfl
theorem w_codes : ∀ c ∈ words1.filter isCode, c.before args0 about1 = true := by
  rw [codes_eq]
  intro c hc
  simp only [codes1, List.mem_cons, List.not_mem_nil, or_false] at hc
  rcases hc with rfl | rfl | rfl | rfl | rfl | rfl | rfl | rfl | rfl
  · exact w_c0
  · exact w_c1
  · exact w_c2
  · exact w_c3
  · exact w_c4
  · exact w_c5
  · exact w_c6
  · exact w_c7
  · exact w_c8
set_option maxRecDepth 65536 in
theorem w_t1 : (words1.take 24).all (fun c => isCode c || c.before args0 about1) = true := by decide +kernel
set_option maxRecDepth 65536 in
theorem w_t2 : ((words1.drop 24).take 24).all (fun c => isCode c || c.before args0 about1) = true := by decide +kernel
set_option maxRecDepth 65536 in
theorem w_t3 : (((words1.drop 24).drop 24).take 24).all (fun c => isCode c || c.before args0 about1) = true := by decide +kernel
set_option maxRecDepth 65536 in
theorem w_t4 : (((words1.drop 24).drop 24).drop 24).all (fun c => isCode c || c.before args0 about1) = true := by decide +kernel
theorem w_tables : (allAtoms (Jvm.Cond.code x code maxLocals ret :: tables_1)).before args0 about1 = true := by
  rw [allAtoms_all]
  show words1.all (fun c => c.before args0 about1) = true
  refine all_split ?_ w_codes
  rw [← List.take_append_drop 24 words1, List.all_append, w_t1, ← List.take_append_drop 24 (words1.drop 24), List.all_append, w_t2, ← List.take_append_drop 24 ((words1.drop 24).drop 24), List.all_append, w_t3, w_t4]
  rfl
set_option maxRecDepth 65536 in
theorem w_case : (Jvm.Cond.and given_1 narrow_1).before args0 about1 = true := by decide +kernel
theorem w_applies : (headSpec (Jvm.Cond.code x code maxLocals ret :: tables_1) room_1).applies x e0.platform about1 = true :=
  (Spec.applies_iff w_frames).mpr ⟨w_running, w_runnable, w_alone, w_named, w_hears, w_ripe, w_room, w_tables⟩
theorem atStart : AtStart classFile x code maxLocals ret World_1 tables_1 room_1 Calls_1 rest_1 Pre_1 launch0 p0 e0 about1 theMethod args0 below0 :=
  ⟨lists_1, trivial, launch0.admits_env _ _ _, launch0.least_env, fairChoices_fair.cas, fairChoices_fair.clock, w_frames, w_args, w_heap, w_applies, trivial, trivial, w_case⟩
end start1
theorem witness_1 : WitnessClaimed_1 := ⟨start1.p0, start1.e0, start1.about1, start1.theMethod, start1.args0, start1.below0, start1.atStart⟩
end Jvm.Pilot.@@N@@
