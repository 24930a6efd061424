import JvmDerived
import JvmDerived.Pilot.@@N@@Statement
import JvmDerived.Pilot.@@N@@Code
set_option linter.unusedVariables false
set_option linter.unusedSimpArgs false
namespace Jvm.Own
open Sem ClassFile Op Lib Jvm.Stand Jvm.Free Jvm.LawKit Jvm.RoadKit
section Own
variable {p : Program} {l : Launch} {e : Env} {R : Room} {s : State} {m : MethodId} {args : Array Value} {below : List Frame} {meth : Method} {c : Code} {T S S' : State} {locs : List Loc} {cells slots : Nat} {G : Outcome → State → Prop} {Q : Option Value → Heap → List Loc → Prop} {C K : Nat}
/-- from S the run comes to an end of which G holds -/
def Go (p : Program) (e : Env) (below : List Frame) (G : Outcome → State → Prop) (S : State) : Prop := ∃ t o, Steps p.tables e below S t ∧ t.status = .running ∧ Ended t below o ∧ G o t
def GO (s : State) (Q : Option Value → Heap → List Loc → Prop) (C K : Nat) (o : Outcome) (t : State) : Prop := ∃ v L, o = .returned v ∧ Q v t.heap L ∧ FrameEnd s o t L C K
theorem Go.st (k : ∀ t, Steps p.tables e below S' t → Steps p.tables e below S t) (h : Go p e below G S') : Go p e below G S := by
  obtain ⟨t, o, h1, h2⟩ := h
  exact ⟨t, o, k t h1, h2⟩
theorem Go.tr (k : Steps p.tables e below S S') (h : Go p e below G S') : Go p e below G S := by
  obtain ⟨t, o, h1, h2⟩ := h
  exact ⟨t, o, k.trans h1, h2⟩
theorem Go.outN (X : Stand p l e R s m args below meth c T locs cells slots) (hx : p.tables.exec = Jvm.exec) (hlk : meth.locks = false) {pc : Nat} {Ls : Array Slot} {z : Int32} {t : FieldType} {rest : List Value} (hret : meth.sig.returnType = some t) (ht : t = .boolean ∨ t = .byte ∨ t = .char ∨ t = .short)
    (hd : decode c.code pc = .ok (.ireturn, 1)) (hQ : Q (some (.int (nar t z))) T.heap locs) (hC : cells ≤ C) (hK : slots ≤ K) : Go p e below (GO s Q C K) (T.setTop (mkF m pc Ls (.int z :: rest))) := by
  obtain ⟨fs, hr, hrun, hended, hW, hsame⟩ := X.leave (v := some (.int (nar t z))) (fun h => by rw [hret] at h; cases h) hlk
  exact ⟨_, _, retN X hx hret ht hd hr, hrun, hended, _, _, rfl, hQ, ⟨_, rfl⟩, hW, hsame.mono hC hK⟩
theorem Go.outI (X : Stand p l e R s m args below meth c T locs cells slots) (hx : p.tables.exec = Jvm.exec) (hlk : meth.locks = false) {pc : Nat} {Ls : Array Slot} {z : Int32} {rest : List Value} (hret : meth.sig.returnType = some .int)
    (hd : decode c.code pc = .ok (.ireturn, 1)) (hQ : Q (some (.int z)) T.heap locs) (hC : cells ≤ C) (hK : slots ≤ K) : Go p e below (GO s Q C K) (T.setTop (mkF m pc Ls (.int z :: rest))) := by
  obtain ⟨fs, hr, hrun, hended, hW, hsame⟩ := X.leave (v := some (.int z)) (fun h => by rw [hret] at h; cases h) hlk
  exact ⟨_, _, retOut X hx hret rfl (Or.inl ⟨rfl, Or.inl rfl, z, rfl⟩) hd hr, hrun, hended, _, _, rfl, hQ, ⟨_, rfl⟩, hW, hsame.mono hC hK⟩
theorem Go.outJ (X : Stand p l e R s m args below meth c T locs cells slots) (hx : p.tables.exec = Jvm.exec) (hlk : meth.locks = false) {pc : Nat} {Ls : Array Slot} {z : Int64} {rest : List Value} (hret : meth.sig.returnType = some .long)
    (hd : decode c.code pc = .ok (.lreturn, 1)) (hQ : Q (some (.long z)) T.heap locs) (hC : cells ≤ C) (hK : slots ≤ K) : Go p e below (GO s Q C K) (T.setTop (mkF m pc Ls (.long z :: rest))) := by
  obtain ⟨fs, hr, hrun, hended, hW, hsame⟩ := X.leave (v := some (.long z)) (fun h => by rw [hret] at h; cases h) hlk
  exact ⟨_, _, retOut X hx hret rfl (Or.inr (Or.inl ⟨rfl, rfl, z, rfl⟩)) hd hr, hrun, hended, _, _, rfl, hQ, ⟨_, rfl⟩, hW, hsame.mono hC hK⟩
theorem own_narrow_ref (t : FieldType) {w : Value} (h : w.isRef = true) : narrow t w = w := by
  rcases ref_cases h with rfl | ⟨a, rfl⟩ <;> cases t <;> rfl
theorem own_fits_ref (t : FieldType) {w : Value} (h : w.isRef = true) (ht : t.isReference = true := by rfl) : fits t w = true := by
  rcases ref_cases h with rfl | ⟨a, rfl⟩ <;> cases t <;> first | rfl | (cases ht)
theorem own_cat_ref {w : Value} (h : w.isRef = true) : w.category = 1 := by
  rcases ref_cases h with rfl | ⟨a, rfl⟩ <;> rfl
theorem Go.outR (X : Stand p l e R s m args below meth c T locs cells slots) (hx : p.tables.exec = Jvm.exec) (hlk : meth.locks = false) {pc : Nat} {Ls : Array Slot} {w : Value} {t : FieldType} {rest : List Value} (hret : meth.sig.returnType = some t) (ht : t.isReference = true) (hw : w.isRef = true)
    (hd : decode c.code pc = .ok (.areturn, 1)) (hQ : Q (some w) T.heap locs) (hC : cells ≤ C) (hK : slots ≤ K) : Go p e below (GO s Q C K) (T.setTop (mkF m pc Ls (w :: rest))) := by
  obtain ⟨fs, hr, hrun, hended, hW, hsame⟩ := X.leave (v := some w) (fun h => by rw [hret] at h; cases h) hlk
  exact ⟨_, _, retOut X hx hret (own_narrow_ref t hw) (Or.inr (Or.inr (Or.inr (Or.inr ⟨rfl, ht, hw⟩)))) hd hr, hrun, hended, _, _, rfl, hQ, ⟨_, rfl⟩, hW, hsame.mono hC hK⟩
theorem Go.outU (X : Stand p l e R s m args below meth c T locs cells slots) (hx : p.tables.exec = Jvm.exec) (hlk : meth.locks = false) {pc : Nat} {Ls : Array Slot} (hret : meth.sig.returnType = none)
    (hd : decode c.code pc = .ok (.return_, 1)) (hQ : Q none T.heap locs) (hC : cells ≤ C) (hK : slots ≤ K) : Go p e below (GO s Q C K) (T.setTop (mkF m pc Ls [])) := by
  obtain ⟨fs, hr, hrun, hended, hW, hsame⟩ := X.leave (v := none) (fun _ => rfl) hlk
  exact ⟨_, _, X.returnOut hx hret hd hr, hrun, hended, _, _, rfl, hQ, ⟨_, rfl⟩, hW, hsame.mono hC hK⟩
def GOW (s : State) (Q : Option Value → Heap → List Loc → Prop) (C K : Nat) (o : Outcome) (t : State) : Prop := ∃ v L, o = .returned v ∧ Q v t.heap L ∧ ReturnedEndW s o t L C K
theorem Go.outW {vm₁ : Vm} {n : Nat} (X : Stand p l e R (s.setVm vm₁) m args below meth c T locs cells slots) (hS : s.Since vm₁ n) (hn : n ≤ T.heap.size) {v : Option Value} (hv : meth.sig.returnType = none → v = none) (hlk : meth.locks = false)
    (st : ∀ fs, (∀ (f : JFrame) (acts : List Action), f.method = m → f.locked = none → f.entered = [] → (doReturn e (T.setTop f) acts v).1 = T.setFrames fs) → Steps p.tables e below S (T.setFrames fs)) (hQ : Q v T.heap locs) (hC : cells ≤ C) (hK : slots ≤ K) : Go p e below (GOW s Q C K) S := by
  obtain ⟨fs, hr, hrun, hended, h1, h2, h3, h4⟩ := X.leaveW hS hn (v := v) hv hlk
  exact ⟨_, _, st fs hr, hrun, hended, _, _, rfl, hQ, h1, h2, h3, h4.mono hC hK⟩
theorem own_stand_mono {cells' slots' : Nat} (X : Stand p l e R s m args below meth c T locs cells slots) (h1 : cells ≤ cells') (h2 : slots ≤ slots') : Stand p l e R s m args below meth c T locs cells' slots' :=
  ⟨X.admits, X.cas, X.clock, X.frames, X.room, X.hears, X.method, X.code, X.here, X.tail, X.warmed, X.limits, X.bytes, X.same.mono h1 h2⟩
end Own
section Facts
variable {Z : State} {h h' h0 : Heap} {a b : Addr} {sl : Nat} {v : Value} {ws : List Addr}
theorem own_ext_refl (h : Heap) : Ext h h := ⟨Nat.le_refl _, fun _ _ q => q⟩
theorem own_ext_trans (O : Ext h0 h) (E : Ext h h') : Ext h0 h' := ⟨Nat.le_trans O.1 E.1, fun x c q => E.2 x c (O.2 x c q)⟩
theorem own_ext_keep (O : Ext h0 h) (K : Keep h h' ws) (g : ∀ x ∈ ws, h0.size ≤ x) : Ext h0 h' := ⟨Nat.le_trans O.1 K.1, fun x c q => K.2.1 x c (O.2 x c q) fun z => Nat.not_lt.mpr (g x z) (Array.getElem?_eq_some_iff.mp q).1⟩
theorem own_ext_wr (O : Ext h0 h) (W : Wr h h' a sl v) (g : h0.size ≤ a) : Ext h0 h' := own_ext_keep O (Keep.of_wr W) (allS g all0)
theorem own_irr (x : Int32) : ¬ x < x := fun h => Int32.lt_irrefl h
theorem own_fld {args : Array Value} {t : Term} {C n d : String} {k : Int32} (ev : t.eval args Z none [] Z = some (.ref a)) (hq : (Cond.eq (.field t C n d) (.int k)).value args Z none Z [] = some true) : Fld Z Z.heap a C n d (.int k) := by
  obtain ⟨x, y, h1, h2, h3, h4⟩ := cmp_v (Or.inl hq)
  have e2 : y = .int k := Option.some.inj (h2.symm.trans (Term.int_eval k))
  subst e2
  obtain ⟨z, rfl⟩ := h4
  have e3 : z = k := by simpa [Cond.value, h1, h2] using hq
  subst e3
  exact Fld.start ((fld_at ev).symm.trans h1)
theorem own_fldN {args : Array Value} {t : Term} {C n d : String} (ev : t.eval args Z none [] Z = some (.ref a)) (hq : (Cond.eq (.field t C n d) .null).value args Z none Z [] = some true) : Fld Z Z.heap a C n d .null :=
  Fld.start ((fld_at ev).symm.trans (null_v hq))
theorem own_len {args : Array Value} {t : Term} {z : Int32} {cl : Cell} {ty : FieldType} (ev : t.eval args Z none [] Z = some (.ref a)) (A : Arr Z Z.heap a cl ty) (hq : (Cond.eq (.length t) (.int z)).value args Z none Z [] = some true) : cl.slots.size < 2 ^ 31 ∧ cl.slots.size.toInt32 = z := by
  obtain ⟨x, y, h1, h2, h3, h4⟩ := cmp_v (Or.inl hq)
  have e2 : y = .int z := Option.some.inj (h2.symm.trans (Term.int_eval z))
  subst e2
  have ha : Z.arrayAt? a = some cl := A.fin (Vm.Alike.refl _)
  by_cases hl : cl.slots.size < 2 ^ 31
  · have e3 := Option.some.inj ((len_f ev ha hl).symm.trans h1)
    subst e3
    refine ⟨hl, ?_⟩
    simpa [Cond.value, h1, h2] using hq
  · exfalso
    simp [Term.eval, ev, ha] at h1
    exact hl h1.1
theorem own_elem {args : Array Value} {t u : Term} {i : Int32} {cl : Cell} {ty : FieldType} (ev : t.eval args Z none [] Z = some (.ref a)) (A : Arr Z Z.heap a cl ty) (eu : u.eval args Z none [] Z = some (.ref b)) (hq : (Cond.eq (.elem t (.int i)) u).value args Z none Z [] = some true) : cl.slots[i.toNatClampNeg]? = some (.ref b) := by
  obtain ⟨x, y, h1, h2, h3, h4⟩ := cmp_v (Or.inl hq)
  have e2 : y = .ref b := Option.some.inj (h2.symm.trans eu)
  subst e2
  have h5 := (elem_in h1 ev (Term.int_eval i) A.1).2
  have e3 : x = .ref b := gotT (eq_R h1 h2 h4.2 rfl) hq
  rw [← e3]
  exact h5
theorem own_and3 (k : Int32) : k &&& 3 = 0 ∨ k &&& 3 = 1 ∨ k &&& 3 = 2 ∨ k &&& 3 = 3 := by
  have h := c_mask k 3 2 (by decide) (by decide)
  simp only [← Int32.toInt_inj, Int32.reduceToInt]
  omega
theorem own_mod (x n : Int32) (hn : 0 < n.toInt) : 0 ≤ ((x &&& 2147483647) % n).toInt ∧ ((x &&& 2147483647) % n).toInt < n.toInt := by
  have h1 := (c_and x 2147483647 (by decide)).1
  have h2 := (c_iremV (x &&& 2147483647) n).1 h1 hn
  exact ⟨h2.1, h2.2.1⟩
theorem own_cp0 {p : Program} {l : Launch} {e : Env} {R : Room} {s : State} {m : MethodId} {args : Array Value} {below : List Frame} {meth : Method} {c : Code} {T : State} {locs : List Loc} {cells slots : Nat} {a0 : Array Value} {own : String} {index : Nat} (X : Stand p l e R s m args below meth c T locs cells slots) (hx : p.tables.exec = Jvm.exec) (hZ : Z.Warmed39 s.vm) (hown : s.vm.findClass own = some m.cls)
    (w1 : (Cond.methodLink own index Jvm.Stand.acN).before a0 Z = true) (w2 : (Cond.native Jvm.Stand.acN).before a0 Z = true) (w3 : (Cond.static Jvm.Stand.acN).before a0 Z = true) (w4 : (Cond.initialized "java/lang/System").before a0 Z = true) (eT : T.heap = h)
    {k k' : ClassId} {ty : FieldType} {z z' : Int32} {vs vd : List Value} {dv dd : Value} (A : Arv Z h a k ty z vs dv) (B : Arv Z h b k' ty z' vd dd) (hty : refKind ty = false) {nn : Int32} (hnn : nn = 0)
    {g : JFrame} (hg : g.method = m) (hsize : g.locals.size = c.maxLocals) {rest : List Value} (hs : g.stack = .int nn :: .int 0 :: .ref b :: .int 0 :: .ref a :: rest) (hd : decode c.code g.pc = .ok (.invokestatic index, 3))
    (hf : 1 ≤ R.frames) {W : Nat} (hW : 2 * g.monitorRoom + (rest.map fun v => v.category).sum ≤ W) (hlo : W + (nativeFrameWords "java/lang/System" "arraycopy" 5 + 11) ≤ R.locals) :
    ∃ T', Stand p l e R s m args below meth c T' locs cells slots ∧ T'.heap = h ∧ ∀ target, Steps p.tables e below (T'.setTop { g with pc := g.pc + 3, stack := rest }) target → Steps p.tables e below (T.setTop g) target := by
  subst hnn
  obtain ⟨cs, As, -, Ss, -, Hs, Gs⟩ := A
  obtain ⟨cd, Ad, qd, Sd, Nd, Hd, Gd⟩ := B
  obtain ⟨os, ks, hks, sc, hsk⟩ := State.isArrayOf_alike hZ.alike As.2.1
  obtain ⟨od, kd, hkd, dc, hdk⟩ := State.isArrayOf_alike hZ.alike Ad.2.1
  have z0 : (0 : Int32).toInt = 0 := rfl
  obtain ⟨vm₁, hW₁, X', st⟩ := X.arraycopyK (srcPos := 0) (destPos := 0) (n := 0) hx hown (mvT hZ w1) (mvT hZ w2) (mvT hZ w3) (mvT hZ w4) (by rw [eT]; exact As.1) (by rw [eT]; exact Ad.1) os od As.2.2 Ad.2.2 hks hkd hsk hdk
    (by simp [hty]) (by decide) (by decide) (by decide) (by rw [z0]; omega) (by rw [z0]; omega) (fun vm₁ hw i hi => absurd hi (Nat.not_lt_zero i)) hg hsize hs hd hf (by omega)
  have e1 : copied cs cd 0 0 0 = cd := rfl
  have e2 : copyLocs b (0 : Int32).toNatClampNeg (0 : Int32).toNatClampNeg = [] := rfl
  rw [e1] at X' st
  rw [e2, List.append_nil] at X'
  refine ⟨_, X', ?_, st⟩
  show (T.heap.setIfInBounds b cd) = h
  rw [eT]
  refine Array.ext_getElem? fun i => ?_
  by_cases q : b = i
  · subst q
    rw [Array.getElem?_setIfInBounds_self_of_lt (Array.getElem?_eq_some_iff.mp Ad.1).1]
    exact Ad.1.symm
  · rw [Array.getElem?_setIfInBounds_ne q]
/-- an array of which the length alone is said -/
def own_AL (Z : State) (h : Heap) (a : Addr) (ty : FieldType) (z : Int32) : Prop := ∃ k vs d, Arv Z h a k ty z vs d
theorem own_AL.of {k : ClassId} {ty : FieldType} {z : Int32} {vs : List Value} {d : Value} (F : Arv Z h a k ty z vs d) : own_AL Z h a ty z := ⟨k, vs, d, F⟩
theorem own_AL.lt {ty : FieldType} {z : Int32} (F : own_AL Z h a ty z) : a < h.size := by obtain ⟨k, vs, d, F⟩ := F; exact F.lt
theorem own_AL.ext {ty : FieldType} {z : Int32} (F : own_AL Z h a ty z) (E : Ext h h') : own_AL Z h' a ty z := by obtain ⟨k, vs, d, F⟩ := F; exact ⟨k, vs, d, F.ext E⟩
theorem own_AL.other {ty : FieldType} {z : Int32} (F : own_AL Z h b ty z) (W : Wr h h' a sl v) (q : b ≠ a) : own_AL Z h' b ty z := by obtain ⟨k, vs, d, F⟩ := F; exact ⟨k, vs, d, F.other W q⟩
theorem own_AL.keep {ty : FieldType} {z : Int32} (F : own_AL Z h a ty z) (K : Keep h h' ws) (q : a ∉ ws) : own_AL Z h' a ty z := by obtain ⟨k, vs, d, F⟩ := F; exact ⟨k, vs, d, F.keep K q⟩
theorem own_AL.len {ty : FieldType} {z : Int32} (F : own_AL Z h a ty z) (n : Nat) : ∃ k vs d, Arv Z h a k ty z vs d ∧ n ≤ vs.length := by
  obtain ⟨k, vs, d, F⟩ := F
  exact ⟨k, vs ++ List.replicate n d, d, F.pad (pad_rep vs d n), by simp⟩
theorem own_AL.nn {ty : FieldType} {z : Int32} (F : own_AL Z h a ty z) : 0 ≤ z.toInt := by
  obtain ⟨k, vs, d, c, A, q1, q2, q3, r⟩ := F
  rw [Int32.lt_iff_toInt_lt] at q3
  exact Int.not_lt.mp q3
/-- a copy into one array leaves every array's length -/
theorem own_AL.cp {k : ClassId} {ty ty' : FieldType} {z z' : Int32} {vs : List Value} {d : Value} (F : own_AL Z h a ty z) (B : own_AL Z h b ty' z') (K : Keep h h' [b]) (V : Arv Z h' b k ty' z' vs d) : own_AL Z h' a ty z := by
  by_cases q : a = b
  · subst q
    obtain ⟨k1, vs1, d1, c1, A1, e1, s1, n1, -⟩ := F
    obtain ⟨k2, vs2, d2, c2, A2, e2, s2, n2, -⟩ := B
    have ec : c1 = c2 := Option.some.inj (A1.1.symm.trans A2.1)
    subst ec
    obtain ⟨-, w1, g1, p1, g2⟩ := A1.2.1
    obtain ⟨-, w2, g3, p2, g4⟩ := A2.2.1
    have ew : w1 = w2 := Option.some.inj (g1.symm.trans g3)
    subst ew
    have et : ty = ty' := by rw [g2] at g4; cases g4; rfl
    have ez : z = z' := by rw [← (back32 n1).1, ← (back32 n2).1, ← s1, ← s2]
    subst et ez
    exact ⟨_, _, _, V⟩
  · exact F.keep K (ninS q nin0)
theorem own_IB {vm : Vm} (hint : vm.interned = Z.vm.interned) : IB Z vm [] := ⟨#[], by rw [hint]; simp, fun q hq => by simp at hq⟩
theorem own_backOfSI {p : Program} {l : Launch} {e : Env} {R : Room} {s : State} {args : Array Value} {below : List Frame} {a0 : Array Value} {y : MethodName} {bytes : ByteArray} {maxL : Nat} {ret : Option FieldType} {rm : Room} {len W : Nat} {as' : Array Value} {Q : Option Value → Heap → List Loc → Prop} (hint : s.vm.interned = Z.vm.interned)
    (hM : MetFree l y (head1 [Cond.code y bytes maxL ret] rm) (fun a U => a = as' ∧ Z.Warmed39 U.vm ∧ U.heap = h ∧ U.vm.interned = Z.vm.interned) (fun _ _ _ _ _ => True) (fun _ U o U' => ∃ v L, o = .returned v ∧ Q v U'.heap L ∧ ReturnedEndW U o U' L rm.cells rm.slots))
    (hZ : Z.Warmed39 s.vm) (wc : (Cond.code y bytes maxL ret).before a0 Z = true) (wz : (Cond.initialized y.cls).before a0 Z = true) (hf : rm.frames + 1 ≤ R.frames) (hl : W + (maxL + 11) + rm.locals ≤ R.locals) :
    BackS l R p e below s args y len W (fun A a => a = as' ∧ A.U.heap = h ∧ A.cells + rm.cells ≤ R.cells ∧ A.slots + rm.slots ≤ R.slots)
      (fun A _ v B => ∃ L, Q v B.U.heap L ∧ B.locs = A.locs ++ L ∧ B.cells = A.cells + rm.cells ∧ B.slots = A.slots + rm.slots) :=
  BackS.of_freeW (bytes := bytes) (maxL := maxL) (ret := ret) (E := fun _ _ o t L k n => k = rm.cells ∧ n = rm.slots ∧ ∃ v, o = .returned v ∧ Q v t.heap L) hM hf hl
    (fun m meth c A a Y hp => have hU : Z.Warmed39 A.U.vm := wtrans hZ Y.warmed
      ⟨by show (Cond.and _ .tt).before a A.U = true; rw [Cond.before_and, mv hU wc]; rfl, mv hU wc, mv hU wz, hp.2.2.1, hp.2.2.2⟩)
    (fun m meth c A a g mk Y hp => ⟨hp.1, wtrans hZ Y.warmed, hp.2.1, Y.warmed.interned_eq.trans hint⟩) (fun _ _ _ _ _ _ _ _ _ => trivial)
    (fun _ _ _ _ ⟨v, L, h1, h2, h3⟩ => ⟨L, _, _, h3, rfl, rfl, v, h1, h2⟩)
    (fun m meth c A a g mk v t L k n Y hp _ _ ⟨e1, e2, v', e3, e4⟩ => by cases e3; subst e1 e2; exact ⟨L, e4, rfl, rfl, rfl⟩)
end Facts
end Jvm.Own
namespace Jvm.Pilot.@@N@@
open Jvm Jvm.ClassFile Sem Op Lib Jvm.Free Jvm.Stand Jvm.LawKit Jvm.RoadKit Jvm.Own Bundle Jvm.Pilot.@@N@@.Jvm.D
def own_at (q : Int32) (a b c d : Addr) : Addr := if q = 0 then a else if q = 1 then b else if q = 2 then c else d
def own_max (a b : Int32) : Int32 := if a < b then b else a
theorem ef_rmValues (m : MethodId)  : entryFrame m #[] 0 = mkF m 0 #[] [] := by first | (simp [entryFrame, mkF, argsToLocals, Value.category]; done) | rfl
def Q_rmValues (Z : State) (w_VALUES : Addr) (k_VALUES : ClassId) (w_NEW : Addr) (w_CHANGED : Addr) (w_UNCHANGED : Addr) (w_CANCELLED : Addr) (h0 : Heap) (v : Option Value) (h : Heap) (L : List Loc) : Prop := ∃ b : Addr, v = some (.ref b) ∧ Fr Z.heap.size L ∧ Ext Z.heap h ∧ Keep h0 h [] ∧ Arv Z h b k_VALUES (.object "com/example/kertyma/kertyma/RowOutcome") (4 : Int32) [(.ref w_NEW), (.ref w_CHANGED), (.ref w_UNCHANGED), (.ref w_CANCELLED)] .null ∧ h0.size ≤ b
theorem pn_com_example_kertyma_kertyma_RowOutcome : plainName "com/example/kertyma/kertyma/RowOutcome" = true := by first | (simp [plainName, overriddenIn]; done) | decide +kernel
theorem d3_0 : decode prog_8_method_1_code 0 = .ok (.getstatic 16, 3) := by decide +kernel
theorem d3_3 : decode prog_8_method_1_code 3 = .ok (.invokevirtual 20, 3) := by decide +kernel
theorem d3_6 : decode prog_8_method_1_code 6 = .ok (.checkcast 21, 3) := by decide +kernel
theorem d3_9 : decode prog_8_method_1_code 9 = .ok (.areturn, 1) := by decide +kernel
set_option maxRecDepth 65536 in
set_option maxHeartbeats 40000000 in
theorem rmValues (l : Launch) (Z : State) (a0 : Array Value) (hw : ∀ d ∈ tables_1, d.before a0 Z = true) (ws : List Jvm.Cond) (w_VALUES : Addr) (k_VALUES : ClassId) (w_NEW : Addr) (w_CHANGED : Addr) (w_UNCHANGED : Addr) (w_CANCELLED : Addr) (h0 : Heap) (O0 : Ext Z.heap h0) (S_VALUES : Sta Z Z.heap "com/example/kertyma/kertyma/RowOutcome" "$VALUES" "[Lcom/example/kertyma/kertyma/RowOutcome;" (.ref w_VALUES)) (A_VALUES : Arv Z Z.heap w_VALUES k_VALUES (.object "com/example/kertyma/kertyma/RowOutcome") (4 : Int32) [(.ref w_NEW), (.ref w_CHANGED), (.ref w_UNCHANGED), (.ref w_CANCELLED)] .null) (E_VALUES : Exa Z Z.heap w_VALUES "[Lcom/example/kertyma/kertyma/RowOutcome;") :
    MetFree l (⟨"com/example/kertyma/kertyma/RowOutcome", "values", "()[Lcom/example/kertyma/kertyma/RowOutcome;"⟩ : MethodName) (head1 (Jvm.Cond.code (⟨"com/example/kertyma/kertyma/RowOutcome", "values", "()[Lcom/example/kertyma/kertyma/RowOutcome;"⟩ : MethodName) prog_8_method_1_code 0 (some (.array (.object "com/example/kertyma/kertyma/RowOutcome"))) :: ws) ({ frames := 1, cells := 1, slots := 4, locals := 16 } : Room)) (fun av' U => av' = #[] ∧ Z.Warmed39 U.vm ∧ U.heap = h0) (fun _ _ _ _ _ => True) (fun _ U o U' => ∃ v L, o = .returned v ∧ Q_rmValues Z w_VALUES k_VALUES w_NEW w_CHANGED w_UNCHANGED w_CANCELLED h0 v U'.heap L ∧ FrameEnd U o U' L ({ frames := 1, cells := 1, slots := 4, locals := 16 } : Room).cells ({ frames := 1, cells := 1, slots := 4, locals := 16 } : Room).slots) := by
  refine MetFree.of_bodySF (plainFor_of_name pn_com_example_kertyma_kertyma_RowOutcome) hisR ?_
  intro p e s m args below meth c s₁ Bd hml0 hP hK
  obtain ⟨rfl, hZ, hh⟩ := hP
  have hx := Bd.exec
  have hby := Bd.bytes
  have hret := Bd.returns
  have hlk : meth.locks = false := Bd.notSynchronized
  have hml : c.maxLocals = 0 := hml0
  have hown : s.vm.findClass "com/example/kertyma/kertyma/RowOutcome" = some m.cls := findClass_of_methodNamed Bd.named
  have hnm := (name_of_methodNamed Bd.named Bd.method).1
  have X0 : Stand p l e ({ frames := 1, cells := 1, slots := 4, locals := 16 } : Room) s m #[] below meth c s₁ [] 0 0 := Stand.of_body Bd
  -- the walk
  have e0 : s₁.heap = h0 := by rw [← hh, Bd.state]; rfl
  have N0 := Fr.nil Z.heap.size
  have K0 := Keep.refl h0 []
  show Go p e below (GO s (Q_rmValues Z w_VALUES k_VALUES w_NEW w_CHANGED w_UNCHANGED w_CANCELLED h0) ({ frames := 1, cells := 1, slots := 4, locals := 16 } : Room).cells ({ frames := 1, cells := 1, slots := 4, locals := 16 } : Room).slots) (s₁.setTop (entryFrame m #[] 0))
  refine Go.st (fun t' k' => castTop (ef_rmValues m ) k') ?_
  show Go p e below _ (s₁.setTop (mkF m 0 #[] []))
  obtain ⟨T101, X101, e101, st101⟩ := getS2 X0 hx hZ hown (host := "") (Or.inl (hw _ (List.mem_of_getElem? (i := 13) rfl))) Via.refl e0 (S_VALUES.ext O0) (g := (mkF m 0 #[] [])) rfl (hb hby d3_0)
  refine Go.st st101 ?_
  show Go p e below _ (T101.setTop (mkF m 3 #[] [(.ref w_VALUES)]))
  obtain ⟨T102, h102, X102, e102, E102, V102c, A102, st102⟩ := cloneH X101 hx hZ hown (hw _ (List.mem_of_getElem? (i := 15) rfl)) (hw _ (List.mem_of_getElem? (i := 16) rfl)) (hw _ (List.mem_of_getElem? (i := 20) rfl)) (hw _ (List.mem_of_getElem? (i := 18) rfl)) (hw _ (List.mem_of_getElem? (i := 19) rfl)) (hw _ (List.mem_of_getElem? (i := 21) rfl)) e101 (Arv.arh (A_VALUES.ext O0)) (E_VALUES.ext O0) (g := (mkF m 3 #[] [(.ref w_VALUES)])) rfl (by rw [hml]; rfl) rfl (hb hby d3_3) (by decide) (W := 0) (cap := 4) (by show 2 * 0 + _ ≤ _; exact Nat.le_of_eq rfl) (by decide) (by decide) (by decide) (by decide)
  obtain ⟨b102, g102⟩ : ∃ z, z = h0.size := ⟨_, rfl⟩
  rw [← g102] at A102 V102c st102
  refine Go.st st102 ?_
  have ne_w_VALUES_b102 : w_VALUES ≠ b102 := Nat.ne_of_lt (Nat.lt_of_lt_of_le (A_VALUES.ext O0).lt (Nat.le_of_eq g102.symm))
  have g_b102 : Z.heap.size ≤ b102 := Nat.le_trans O0.1 (Nat.le_of_eq g102.symm)
  have sz_b102 : h0.size ≤ b102 := Nat.le_trans K0.1 (Nat.le_of_eq g102.symm)
  have O102 := own_ext_trans O0 E102
  have K102 := K0.ext E102
  have V_b102 : Arv Z h102 b102 k_VALUES (.object "com/example/kertyma/kertyma/RowOutcome") (4 : Int32) [(.ref w_NEW), (.ref w_CHANGED), (.ref w_UNCHANGED), (.ref w_CANCELLED)] .null := V102c
  show Go p e below _ (T102.setTop (mkF m 6 #[] [(.ref b102)]))
  obtain ⟨T104, X104, e104, st104⟩ := castY X102 hx hZ hown (hw _ (List.mem_of_getElem? (i := 27) rfl)) e102 (Ins.self A102) (g := (mkF m 6 #[] [(.ref b102)])) rfl rfl (hb hby d3_6)
  refine Go.st st104 ?_
  show Go p e below _ (T104.setTop (mkF m 9 #[] [(.ref b102)]))
  exact Go.outR X104 hx hlk hret rfl rfl (hb hby d3_9) (Q := Q_rmValues Z w_VALUES k_VALUES w_NEW w_CHANGED w_UNCHANGED w_CANCELLED h0) (by rw [e104]; exact ⟨b102, rfl, N0, O102, K102, V_b102, sz_b102⟩) (by decide) (by decide)
theorem ef_rmInit (m : MethodId) (x0 : Addr) : entryFrame m #[(.ref x0)] 1 = mkF m 0 #[.val (.ref x0)] [] := by first | (simp [entryFrame, mkF, argsToLocals, Value.category]; done) | rfl
def Q_rmInit (Z : State) (a : Addr) (w_VALUES : Addr) (k_VALUES : ClassId) (w_NEW : Addr) (w_CHANGED : Addr) (w_UNCHANGED : Addr) (w_CANCELLED : Addr) (h0 : Heap) (v : Option Value) (h : Heap) (L : List Loc) : Prop := ∃ b : Addr, ∃ kb : ClassId, v = none ∧ Fr Z.heap.size L ∧ Ext Z.heap h ∧ Keep h0 h [a] ∧ Fld Z h a "com/example/kertyma/kertyma/LoadCounts" "counts" "[J" (.ref b) ∧ Arv Z h b kb .long (4 : Int32) [(.long (0 : Int64)), (.long (0 : Int64)), (.long (0 : Int64)), (.long (0 : Int64))] (.long (0 : Int64)) ∧ Z.heap.size ≤ b ∧ h0.size ≤ b ∧ a ≠ b ∧ Fld Z h a "com/example/kertyma/kertyma/LoadCounts" "rejected" "J" (.long (0 : Int64)) ∧ Fld Z h a "com/example/kertyma/kertyma/LoadCounts" "finishedPartitions" "I" (.int (-1 : Int32)) ∧ Fld Z h a "com/example/kertyma/kertyma/LoadCounts" "resumedAfter" "J" (.long (0 : Int64))
theorem pn_com_example_kertyma_kertyma_LoadCounts : plainName "com/example/kertyma/kertyma/LoadCounts" = true := by first | (simp [plainName, overriddenIn]; done) | decide +kernel
theorem d1_0 : decode prog_4_method_1_code 0 = .ok (.aload_n 0, 1) := by decide +kernel
theorem d1_1 : decode prog_4_method_1_code 1 = .ok (.invokespecial 1, 3) := by decide +kernel
theorem d1_4 : decode prog_4_method_1_code 4 = .ok (.aload_n 0, 1) := by decide +kernel
theorem d1_5 : decode prog_4_method_1_code 5 = .ok (.invokestatic 7, 3) := by decide +kernel
theorem pd____Lcom_example_kertyma_kertyma_RowOutcome_ : parseMethodDescriptor "()[Lcom/example/kertyma/kertyma/RowOutcome;" = some ⟨[], some (.array (.object "com/example/kertyma/kertyma/RowOutcome"))⟩ := by decide +kernel
theorem d1_8 : decode prog_4_method_1_code 8 = .ok (.arraylength, 1) := by decide +kernel
theorem d1_9 : decode prog_4_method_1_code 9 = .ok (.newarray .long, 2) := by decide +kernel
theorem d1_11 : decode prog_4_method_1_code 11 = .ok (.putfield 13, 3) := by decide +kernel
theorem d1_14 : decode prog_4_method_1_code 14 = .ok (.aload_n 0, 1) := by decide +kernel
theorem d1_15 : decode prog_4_method_1_code 15 = .ok (.lconst 0, 1) := by decide +kernel
theorem d1_16 : decode prog_4_method_1_code 16 = .ok (.putfield 19, 3) := by decide +kernel
theorem d1_19 : decode prog_4_method_1_code 19 = .ok (.aload_n 0, 1) := by decide +kernel
theorem d1_20 : decode prog_4_method_1_code 20 = .ok (.lconst 0, 1) := by decide +kernel
theorem d1_21 : decode prog_4_method_1_code 21 = .ok (.putfield 23, 3) := by decide +kernel
theorem d1_24 : decode prog_4_method_1_code 24 = .ok (.aload_n 0, 1) := by decide +kernel
theorem d1_25 : decode prog_4_method_1_code 25 = .ok (.iconst (-1), 1) := by decide +kernel
theorem d1_26 : decode prog_4_method_1_code 26 = .ok (.putfield 26, 3) := by decide +kernel
theorem d1_29 : decode prog_4_method_1_code 29 = .ok (.return_, 1) := by decide +kernel
set_option maxRecDepth 65536 in
set_option maxHeartbeats 40000000 in
theorem rmInit (l : Launch) (Z : State) (a0 : Array Value) (hw : ∀ d ∈ tables_1, d.before a0 Z = true) (ws : List Jvm.Cond) (a : Addr) (w_VALUES : Addr) (k_VALUES : ClassId) (w_NEW : Addr) (w_CHANGED : Addr) (w_UNCHANGED : Addr) (w_CANCELLED : Addr) (h0 : Heap) (O0 : Ext Z.heap h0) (S_VALUES : Sta Z Z.heap "com/example/kertyma/kertyma/RowOutcome" "$VALUES" "[Lcom/example/kertyma/kertyma/RowOutcome;" (.ref w_VALUES)) (A_VALUES : Arv Z Z.heap w_VALUES k_VALUES (.object "com/example/kertyma/kertyma/RowOutcome") (4 : Int32) [(.ref w_NEW), (.ref w_CHANGED), (.ref w_UNCHANGED), (.ref w_CANCELLED)] .null) (E_VALUES : Exa Z Z.heap w_VALUES "[Lcom/example/kertyma/kertyma/RowOutcome;") (Ea : Exa Z h0 a "com/example/kertyma/kertyma/LoadCounts") (Ga : Z.heap.size ≤ a) (Fc : Fld Z h0 a "com/example/kertyma/kertyma/LoadCounts" "counts" "[J" .null) (Frj : Fld Z h0 a "com/example/kertyma/kertyma/LoadCounts" "rejected" "J" (.long (0 : Int64))) (Fs : Fld Z h0 a "com/example/kertyma/kertyma/LoadCounts" "resumedAfter" "J" (.long (0 : Int64))) (Ft : Fld Z h0 a "com/example/kertyma/kertyma/LoadCounts" "restartedAfter" "J" (.long (0 : Int64))) (Ff : Fld Z h0 a "com/example/kertyma/kertyma/LoadCounts" "finishedPartitions" "I" (.int (0 : Int32))) :
    MetFree l (⟨"com/example/kertyma/kertyma/LoadCounts", "<init>", "()V"⟩ : MethodName) (head1 (Jvm.Cond.code (⟨"com/example/kertyma/kertyma/LoadCounts", "<init>", "()V"⟩ : MethodName) prog_4_method_1_code 1 none :: ws) ({ frames := 2, cells := 2, slots := 8, locals := 40 } : Room)) (fun av' U => av' = #[(.ref a)] ∧ Z.Warmed39 U.vm ∧ U.heap = h0) (fun _ _ _ _ _ => True) (fun _ U o U' => ∃ v L, o = .returned v ∧ Q_rmInit Z a w_VALUES k_VALUES w_NEW w_CHANGED w_UNCHANGED w_CANCELLED h0 v U'.heap L ∧ FrameEnd U o U' L ({ frames := 2, cells := 2, slots := 8, locals := 40 } : Room).cells ({ frames := 2, cells := 2, slots := 8, locals := 40 } : Room).slots) := by
  refine MetFree.of_bodySF (plainFor_of_name pn_com_example_kertyma_kertyma_LoadCounts) hisR ?_
  intro p e s m args below meth c s₁ Bd hml0 hP hK
  obtain ⟨rfl, hZ, hh⟩ := hP
  have hx := Bd.exec
  have hby := Bd.bytes
  have hret := Bd.returns
  have hlk : meth.locks = false := Bd.notSynchronized
  have hml : c.maxLocals = 1 := hml0
  have hown : s.vm.findClass "com/example/kertyma/kertyma/LoadCounts" = some m.cls := findClass_of_methodNamed Bd.named
  have hnm := (name_of_methodNamed Bd.named Bd.method).1
  have X0 : Stand p l e ({ frames := 2, cells := 2, slots := 8, locals := 40 } : Room) s m #[(.ref a)] below meth c s₁ [] 0 0 := Stand.of_body Bd
  -- the walk
  have e0 : s₁.heap = h0 := by rw [← hh, Bd.state]; rfl
  have N0 := Fr.nil Z.heap.size
  have K0 := Keep.refl h0 [a]
  show Go p e below (GO s (Q_rmInit Z a w_VALUES k_VALUES w_NEW w_CHANGED w_UNCHANGED w_CANCELLED h0) ({ frames := 2, cells := 2, slots := 8, locals := 40 } : Room).cells ({ frames := 2, cells := 2, slots := 8, locals := 40 } : Room).slots) (s₁.setTop (entryFrame m #[(.ref a)] 1))
  refine Go.st (fun t' k' => castTop (ef_rmInit m a) k') ?_
  show Go p e below _ (s₁.setTop (mkF m 0 #[.val (.ref a)] []))
  refine Go.st (fun t' k' => XS.aloadN X0.here hx rfl (hb hby d1_0) rfl rfl k') ?_
  show Go p e below _ (s₁.setTop (mkF m 1 #[.val (.ref a)] [(.ref a)]))
  obtain ⟨T101, X101, e101, st101⟩ := initO X0 hx hZ hown (hw _ (List.mem_of_getElem? (i := 6) rfl)) (hw _ (List.mem_of_getElem? (i := 7) rfl)) (hw _ (List.mem_of_getElem? (i := 8) rfl)) e0 (g := (mkF m 1 #[.val (.ref a)] [(.ref a)])) rfl (by rw [hml]; rfl) rfl (hb hby d1_1) (by decide) (W := 0) (by show 2 * 0 + _ ≤ _; exact Nat.le_of_eq rfl) (by decide)
  refine Go.st st101 ?_
  show Go p e below _ (T101.setTop (mkF m 4 #[.val (.ref a)] []))
  refine Go.st (fun t' k' => XS.aloadN X101.here hx rfl (hb hby d1_4) rfl rfl k') ?_
  show Go p e below _ (T101.setTop (mkF m 5 #[.val (.ref a)] [(.ref a)]))
  obtain ⟨_, _, ⟨T102, L102, k102, n102⟩, -, X102, ⟨Lc102, hQ102, l102, y102, z102⟩, st102⟩ := Jvm.LawKit.callS X101 hx (y := (⟨"com/example/kertyma/kertyma/RowOutcome", "values", "()[Lcom/example/kertyma/kertyma/RowOutcome;"⟩ : MethodName)) hown (mvT hZ (hw _ (List.mem_of_getElem? (i := 9) rfl))) (mvT hZ (hw _ (List.mem_of_getElem? (i := 10) rfl))) (mvT hZ (hw _ (List.mem_of_getElem? (i := 11) rfl))) (mvT hZ (hw _ (List.mem_of_getElem? (i := 12) rfl))) (by decide) (backOf (W := 1) (rmValues l Z a0 hw [] w_VALUES k_VALUES w_NEW w_CHANGED w_UNCHANGED w_CANCELLED h0 O0 S_VALUES A_VALUES E_VALUES) hZ (hw _ (List.mem_of_getElem? (i := 12) rfl)) (hw _ (List.mem_of_getElem? (i := 11) rfl)) (by decide) (by decide)) (g := (mkF m 5 #[.val (.ref a)] [(.ref a)])) rfl (by rw [hml]; rfl) (argsL := []) (rest := [(.ref a)]) (lenOf pd____Lcom_example_kertyma_kertyma_RowOutcome_ rfl) rfl (by show 2 * 0 + _ ≤ _; exact Nat.le_of_eq rfl) (hb hby d1_5) (fun _ _ => ⟨rfl, e101, (by decide : 0 + 1 ≤ _), (by decide : 0 + 4 ≤ _)⟩)
  dsimp only [Pt.U, Pt.locs, Pt.cells, Pt.slots] at X102 l102 y102 z102 st102 hQ102
  subst l102 y102 z102
  obtain ⟨b_102, rfl, N102q, O102, Kc102, Vb_102, Sb_102⟩ := hQ102
  have N102 := Fr.app N0 N102q
  refine Go.st st102 ?_
  have Ea_h103 := Ea.keep Kc102
  have Fc_h103 := Fc.keep Kc102 nin0
  have Frj_h103 := Frj.keep Kc102 nin0
  have Fs_h103 := Fs.keep Kc102 nin0
  have Ft_h103 := Ft.keep Kc102 nin0
  have Ff_h103 := Ff.keep Kc102 nin0
  have K102 := K0.trans Kc102 all0
  have ne_w_VALUES_b_102 : w_VALUES ≠ b_102 := Nat.ne_of_lt (Nat.lt_of_lt_of_le (A_VALUES.ext O0).lt Sb_102)
  have ne_a_b_102 : a ≠ b_102 := Nat.ne_of_lt (Nat.lt_of_lt_of_le Ea.lt Sb_102)
  have sz_b_102 : h0.size ≤ b_102 := Nat.le_trans K0.1 Sb_102
  show Go p e below _ (T102.setTop (mkF m 8 #[.val (.ref a)] [(.ref b_102), (.ref a)]))
  obtain ⟨cll104, Arl104, ql104, Szl104, Nzl104, Hsl104, Gsl104⟩ := (id Vb_102)
  refine Go.st (X102.arraylength hx Arl104.1 (State.isArrayOf_alike hZ.alike Arl104.2.1) (g := (mkF m 8 #[.val (.ref a)] [(.ref b_102), (.ref a)])) rfl rfl (hb hby d1_8)) ?_
  rw [len_of Szl104 Nzl104]
  show Go p e below _ (T102.setTop (mkF m 9 #[.val (.ref a)] [(.int (4 : Int32)), (.ref a)]))
  obtain ⟨T105, h105, k105, X105, e105, E105, A105, st105⟩ := newP X102 hx hZ (hw _ (List.mem_of_getElem? (i := 29) rfl)) rfl (g := (mkF m 9 #[.val (.ref a)] [(.int (4 : Int32)), (.ref a)])) rfl (hb hby d1_9) rfl (by decide) (cap := 4) (by decide) (by decide) (by decide) (by decide)
  obtain ⟨b105, g105⟩ : ∃ z, z = T102.heap.size := ⟨_, rfl⟩
  rw [← g105] at A105 st105
  refine Go.st st105 ?_
  have ne_w_VALUES_b105 : w_VALUES ≠ b105 := Nat.ne_of_lt (Nat.lt_of_lt_of_le (A_VALUES.ext O102).lt (Nat.le_of_eq g105.symm))
  have ne_a_b105 : a ≠ b105 := Nat.ne_of_lt (Nat.lt_of_lt_of_le Ea_h103.lt (Nat.le_of_eq g105.symm))
  have ne_b_102_b105 : b_102 ≠ b105 := Nat.ne_of_lt (Nat.lt_of_lt_of_le Vb_102.lt (Nat.le_of_eq g105.symm))
  have g_b105 : Z.heap.size ≤ b105 := Nat.le_trans O102.1 (Nat.le_of_eq g105.symm)
  have sz_b105 : h0.size ≤ b105 := Nat.le_trans K102.1 (Nat.le_of_eq g105.symm)
  have Ea_h106 := Ea_h103.ext E105
  have Fc_h106 := Fc_h103.ext E105
  have Frj_h106 := Frj_h103.ext E105
  have Fs_h106 := Fs_h103.ext E105
  have Ft_h106 := Ft_h103.ext E105
  have Ff_h106 := Ff_h103.ext E105
  have Vb_102_h106 := Vb_102.ext E105
  have O105 := own_ext_trans O102 E105
  have K105 := K102.ext E105
  have V_b105 : Arv Z h105 b105 k105 .long (4 : Int32) [(.long (0 : Int64)), (.long (0 : Int64)), (.long (0 : Int64)), (.long (0 : Int64))] (.long (0 : Int64)) := (Arv.new A105 (by decide)).pad (pad_rep [] (.long (0 : Int64)) 4)
  show Go p e below _ (T105.setTop (mkF m 11 #[.val (.ref a)] [(.ref b105), (.ref a)]))
  obtain ⟨T107, h107, X107, e107, W107, st107⟩ := putF X105 hx hZ hown (host := "") (Or.inl (hw _ (List.mem_of_getElem? (i := 30) rfl))) Via.refl e105 Fc_h106 Ea_h106 (Or.inr ⟨(hw _ (List.mem_of_getElem? (i := 31) rfl)), rfl, hnm⟩) (hw _ (List.mem_of_getElem? (i := 1) rfl)) (ty := (.array .long)) (by decide) rfl rfl (g := (mkF m 11 #[.val (.ref a)] [(.ref b105), (.ref a)])) rfl rfl (hb hby d1_11)
  refine Go.st st107 ?_
  have Fw107 : Fld Z h107 a "com/example/kertyma/kertyma/LoadCounts" "counts" "[J" (.ref b105) := Fc_h106.same W107
  have Ea_h108 := Ea_h106.wr W107
  have Frj_h108 := Frj_h106.other W107 (Or.inr (slot_ne (Or.inl (hw _ (List.mem_of_getElem? (i := 154) rfl))) (Or.inr (hw _ (List.mem_of_getElem? (i := 31) rfl))) (by decide) (t := .long) (t' := (.array .long)) (by decide) (by decide)))
  have Fs_h108 := Fs_h106.other W107 (Or.inr (slot_ne (Or.inr (hw _ (List.mem_of_getElem? (i := 33) rfl))) (Or.inr (hw _ (List.mem_of_getElem? (i := 31) rfl))) (by decide) (t := .long) (t' := (.array .long)) (by decide) (by decide)))
  have Ft_h108 := Ft_h106.other W107 (Or.inr (slot_ne (Or.inr (hw _ (List.mem_of_getElem? (i := 35) rfl))) (Or.inr (hw _ (List.mem_of_getElem? (i := 31) rfl))) (by decide) (t := .long) (t' := (.array .long)) (by decide) (by decide)))
  have Ff_h108 := Ff_h106.other W107 (Or.inr (slot_ne (Or.inr (hw _ (List.mem_of_getElem? (i := 37) rfl))) (Or.inr (hw _ (List.mem_of_getElem? (i := 31) rfl))) (by decide) (t := .int) (t' := (.array .long)) (by decide) (by decide)))
  have Vb_102_h108 := Vb_102_h106.other W107 (Ne.symm ne_a_b_102)
  have V_b105_h108 := V_b105.other W107 (Ne.symm ne_a_b105)
  have O107 := own_ext_wr O105 W107 Ga
  have K107 := K105.wr W107 (Or.inl (List.mem_of_getElem? (i := 0) rfl))
  have N107 := Fr.snoc X107 N102 Ga
  show Go p e below _ (T107.setTop (mkF m 14 #[.val (.ref a)] []))
  refine Go.st (fun t' k' => XS.aloadN X107.here hx rfl (hb hby d1_14) rfl rfl k') ?_
  show Go p e below _ (T107.setTop (mkF m 15 #[.val (.ref a)] [(.ref a)]))
  refine Go.st (fun t' k' => XS.lconst X107.here hx rfl (hb hby d1_15) k') ?_
  show Go p e below _ (T107.setTop (mkF m 16 #[.val (.ref a)] [(.long (0 : Int64)), (.ref a)]))
  obtain ⟨T109, h109, X109, e109, W109, st109⟩ := putF X107 hx hZ hown (host := "") (Or.inl (hw _ (List.mem_of_getElem? (i := 32) rfl))) Via.refl e107 Fs_h108 Ea_h108 (Or.inr ⟨(hw _ (List.mem_of_getElem? (i := 33) rfl)), rfl, hnm⟩) (hw _ (List.mem_of_getElem? (i := 1) rfl)) (ty := .long) (by decide) rfl rfl (g := (mkF m 16 #[.val (.ref a)] [(.long (0 : Int64)), (.ref a)])) rfl rfl (hb hby d1_16)
  refine Go.st st109 ?_
  have Fw109 : Fld Z h109 a "com/example/kertyma/kertyma/LoadCounts" "resumedAfter" "J" (.long (0 : Int64)) := Fs_h108.same W109
  have Ea_h110 := Ea_h108.wr W109
  have Frj_h110 := Frj_h108.other W109 (Or.inr (slot_ne (Or.inl (hw _ (List.mem_of_getElem? (i := 154) rfl))) (Or.inr (hw _ (List.mem_of_getElem? (i := 33) rfl))) (by decide) (t := .long) (t' := .long) (by decide) (by decide)))
  have Ft_h110 := Ft_h108.other W109 (Or.inr (slot_ne (Or.inr (hw _ (List.mem_of_getElem? (i := 35) rfl))) (Or.inr (hw _ (List.mem_of_getElem? (i := 33) rfl))) (by decide) (t := .long) (t' := .long) (by decide) (by decide)))
  have Ff_h110 := Ff_h108.other W109 (Or.inr (slot_ne (Or.inr (hw _ (List.mem_of_getElem? (i := 37) rfl))) (Or.inr (hw _ (List.mem_of_getElem? (i := 33) rfl))) (by decide) (t := .int) (t' := .long) (by decide) (by decide)))
  have Vb_102_h110 := Vb_102_h108.other W109 (Ne.symm ne_a_b_102)
  have V_b105_h110 := V_b105_h108.other W109 (Ne.symm ne_a_b105)
  have Fw107_h110 := Fw107.other W109 (Or.inr (slot_ne (Or.inr (hw _ (List.mem_of_getElem? (i := 31) rfl))) (Or.inr (hw _ (List.mem_of_getElem? (i := 33) rfl))) (by decide) (t := (.array .long)) (t' := .long) (by decide) (by decide)))
  have O109 := own_ext_wr O107 W109 Ga
  have K109 := K107.wr W109 (Or.inl (List.mem_of_getElem? (i := 0) rfl))
  have N109 := Fr.snoc X109 N107 Ga
  show Go p e below _ (T109.setTop (mkF m 19 #[.val (.ref a)] []))
  refine Go.st (fun t' k' => XS.aloadN X109.here hx rfl (hb hby d1_19) rfl rfl k') ?_
  show Go p e below _ (T109.setTop (mkF m 20 #[.val (.ref a)] [(.ref a)]))
  refine Go.st (fun t' k' => XS.lconst X109.here hx rfl (hb hby d1_20) k') ?_
  show Go p e below _ (T109.setTop (mkF m 21 #[.val (.ref a)] [(.long (0 : Int64)), (.ref a)]))
  obtain ⟨T111, h111, X111, e111, W111, st111⟩ := putF X109 hx hZ hown (host := "") (Or.inl (hw _ (List.mem_of_getElem? (i := 34) rfl))) Via.refl e109 Ft_h110 Ea_h110 (Or.inr ⟨(hw _ (List.mem_of_getElem? (i := 35) rfl)), rfl, hnm⟩) (hw _ (List.mem_of_getElem? (i := 1) rfl)) (ty := .long) (by decide) rfl rfl (g := (mkF m 21 #[.val (.ref a)] [(.long (0 : Int64)), (.ref a)])) rfl rfl (hb hby d1_21)
  refine Go.st st111 ?_
  have Fw111 : Fld Z h111 a "com/example/kertyma/kertyma/LoadCounts" "restartedAfter" "J" (.long (0 : Int64)) := Ft_h110.same W111
  have Ea_h112 := Ea_h110.wr W111
  have Frj_h112 := Frj_h110.other W111 (Or.inr (slot_ne (Or.inl (hw _ (List.mem_of_getElem? (i := 154) rfl))) (Or.inr (hw _ (List.mem_of_getElem? (i := 35) rfl))) (by decide) (t := .long) (t' := .long) (by decide) (by decide)))
  have Ff_h112 := Ff_h110.other W111 (Or.inr (slot_ne (Or.inr (hw _ (List.mem_of_getElem? (i := 37) rfl))) (Or.inr (hw _ (List.mem_of_getElem? (i := 35) rfl))) (by decide) (t := .int) (t' := .long) (by decide) (by decide)))
  have Vb_102_h112 := Vb_102_h110.other W111 (Ne.symm ne_a_b_102)
  have V_b105_h112 := V_b105_h110.other W111 (Ne.symm ne_a_b105)
  have Fw107_h112 := Fw107_h110.other W111 (Or.inr (slot_ne (Or.inr (hw _ (List.mem_of_getElem? (i := 31) rfl))) (Or.inr (hw _ (List.mem_of_getElem? (i := 35) rfl))) (by decide) (t := (.array .long)) (t' := .long) (by decide) (by decide)))
  have Fw109_h112 := Fw109.other W111 (Or.inr (slot_ne (Or.inr (hw _ (List.mem_of_getElem? (i := 33) rfl))) (Or.inr (hw _ (List.mem_of_getElem? (i := 35) rfl))) (by decide) (t := .long) (t' := .long) (by decide) (by decide)))
  have O111 := own_ext_wr O109 W111 Ga
  have K111 := K109.wr W111 (Or.inl (List.mem_of_getElem? (i := 0) rfl))
  have N111 := Fr.snoc X111 N109 Ga
  show Go p e below _ (T111.setTop (mkF m 24 #[.val (.ref a)] []))
  refine Go.st (fun t' k' => XS.aloadN X111.here hx rfl (hb hby d1_24) rfl rfl k') ?_
  show Go p e below _ (T111.setTop (mkF m 25 #[.val (.ref a)] [(.ref a)]))
  refine Go.st (fun t' k' => XS.iconst X111.here hx rfl (hb hby d1_25) k') ?_
  show Go p e below _ (T111.setTop (mkF m 26 #[.val (.ref a)] [(.int (-1 : Int32)), (.ref a)]))
  obtain ⟨T113, h113, X113, e113, W113, st113⟩ := putF X111 hx hZ hown (host := "") (Or.inl (hw _ (List.mem_of_getElem? (i := 36) rfl))) Via.refl e111 Ff_h112 Ea_h112 (Or.inr ⟨(hw _ (List.mem_of_getElem? (i := 37) rfl)), rfl, hnm⟩) (hw _ (List.mem_of_getElem? (i := 1) rfl)) (ty := .int) (by decide) rfl rfl (g := (mkF m 26 #[.val (.ref a)] [(.int (-1 : Int32)), (.ref a)])) rfl rfl (hb hby d1_26)
  refine Go.st st113 ?_
  have Fw113 : Fld Z h113 a "com/example/kertyma/kertyma/LoadCounts" "finishedPartitions" "I" (.int (-1 : Int32)) := Ff_h112.same W113
  have Ea_h114 := Ea_h112.wr W113
  have Frj_h114 := Frj_h112.other W113 (Or.inr (slot_ne (Or.inl (hw _ (List.mem_of_getElem? (i := 154) rfl))) (Or.inr (hw _ (List.mem_of_getElem? (i := 37) rfl))) (by decide) (t := .long) (t' := .int) (by decide) (by decide)))
  have Vb_102_h114 := Vb_102_h112.other W113 (Ne.symm ne_a_b_102)
  have V_b105_h114 := V_b105_h112.other W113 (Ne.symm ne_a_b105)
  have Fw107_h114 := Fw107_h112.other W113 (Or.inr (slot_ne (Or.inr (hw _ (List.mem_of_getElem? (i := 31) rfl))) (Or.inr (hw _ (List.mem_of_getElem? (i := 37) rfl))) (by decide) (t := (.array .long)) (t' := .int) (by decide) (by decide)))
  have Fw109_h114 := Fw109_h112.other W113 (Or.inr (slot_ne (Or.inr (hw _ (List.mem_of_getElem? (i := 33) rfl))) (Or.inr (hw _ (List.mem_of_getElem? (i := 37) rfl))) (by decide) (t := .long) (t' := .int) (by decide) (by decide)))
  have Fw111_h114 := Fw111.other W113 (Or.inr (slot_ne (Or.inr (hw _ (List.mem_of_getElem? (i := 35) rfl))) (Or.inr (hw _ (List.mem_of_getElem? (i := 37) rfl))) (by decide) (t := .long) (t' := .int) (by decide) (by decide)))
  have O113 := own_ext_wr O111 W113 Ga
  have K113 := K111.wr W113 (Or.inl (List.mem_of_getElem? (i := 0) rfl))
  have N113 := Fr.snoc X113 N111 Ga
  show Go p e below _ (T113.setTop (mkF m 29 #[.val (.ref a)] []))
  exact Go.outU X113 hx hlk hret (hb hby d1_29) (Q := Q_rmInit Z a w_VALUES k_VALUES w_NEW w_CHANGED w_UNCHANGED w_CANCELLED h0) (by rw [e113]; exact ⟨b105, k105, rfl, N113, O113, K113, Fw107_h114, V_b105_h114, g_b105, sz_b105, ne_a_b105, Frj_h114, Fw113, Fw109_h114⟩) (by decide) (by decide)
theorem ef_rmMax (m : MethodId) (x0 : Int32) (x1 : Int32) : entryFrame m #[(.int x0), (.int x1)] 2 = mkF m 0 #[.val (.int x0), .val (.int x1)] [] := by first | (simp [entryFrame, mkF, argsToLocals, Value.category]; done) | rfl
def Q_rmMax (Z : State) (a : Int32) (b : Int32) (h0 : Heap) (v : Option Value) (h : Heap) (L : List Loc) : Prop := v = some (.int (own_max a b)) ∧ L = [] ∧ h = h0
theorem d12_0 : decode jdk_29_method_65_code 0 = .ok (.iload_n 0, 1) := by decide +kernel
theorem d12_1 : decode jdk_29_method_65_code 1 = .ok (.iload_n 1, 1) := by decide +kernel
theorem d12_2 : decode jdk_29_method_65_code 2 = .ok (.if_icmp .lt 7, 3) := by decide +kernel
theorem d12_9 : decode jdk_29_method_65_code 9 = .ok (.iload_n 1, 1) := by decide +kernel
theorem d12_10 : decode jdk_29_method_65_code 10 = .ok (.ireturn, 1) := by decide +kernel
theorem d12_5 : decode jdk_29_method_65_code 5 = .ok (.iload_n 0, 1) := by decide +kernel
theorem d12_6 : decode jdk_29_method_65_code 6 = .ok (.goto 4, 3) := by decide +kernel
set_option maxRecDepth 65536 in
set_option maxHeartbeats 40000000 in
theorem rmMax (l : Launch) (Z : State) (a0 : Array Value) (hw : ∀ d ∈ tables_1, d.before a0 Z = true) (ws : List Jvm.Cond) (a : Int32) (b : Int32) (h0 : Heap) (O0 : Ext Z.heap h0) :
    MetFree l (⟨"java/lang/Math", "max", "(II)I"⟩ : MethodName) (head1 (Jvm.Cond.code (⟨"java/lang/Math", "max", "(II)I"⟩ : MethodName) jdk_29_method_65_code 2 (some .int) :: ws) ({ frames := 0, cells := 0, slots := 0, locals := 0 } : Room)) (fun av' U => av' = #[(.int a), (.int b)] ∧ Z.Warmed39 U.vm ∧ U.heap = h0) (fun _ _ _ _ _ => True) (fun _ U o U' => ∃ v L, o = .returned v ∧ Q_rmMax Z a b h0 v U'.heap L ∧ FrameEnd U o U' L ({ frames := 0, cells := 0, slots := 0, locals := 0 } : Room).cells ({ frames := 0, cells := 0, slots := 0, locals := 0 } : Room).slots) := by
  refine MetFree.of_bodySF (Jvm.Free.JP.mathPlain rfl (by decide +kernel)) hisR ?_
  intro p e s m args below meth c s₁ Bd hml0 hP hK
  obtain ⟨rfl, hZ, hh⟩ := hP
  have hx := Bd.exec
  have hby := Bd.bytes
  have hret := Bd.returns
  have hlk : meth.locks = false := Bd.notSynchronized
  have hml : c.maxLocals = 2 := hml0
  have hown : s.vm.findClass "java/lang/Math" = some m.cls := findClass_of_methodNamed Bd.named
  have hnm := (name_of_methodNamed Bd.named Bd.method).1
  have X0 : Stand p l e ({ frames := 0, cells := 0, slots := 0, locals := 0 } : Room) s m #[(.int a), (.int b)] below meth c s₁ [] 0 0 := Stand.of_body Bd
  -- the walk
  have e0 : s₁.heap = h0 := by rw [← hh, Bd.state]; rfl
  have N0 := Fr.nil Z.heap.size
  show Go p e below (GO s (Q_rmMax Z a b h0) ({ frames := 0, cells := 0, slots := 0, locals := 0 } : Room).cells ({ frames := 0, cells := 0, slots := 0, locals := 0 } : Room).slots) (s₁.setTop (entryFrame m #[(.int a), (.int b)] 2))
  refine Go.st (fun t' k' => castTop (ef_rmMax m a b) k') ?_
  show Go p e below _ (s₁.setTop (mkF m 0 #[.val (.int a), .val (.int b)] []))
  refine Go.st (fun t' k' => XS.iloadN X0.here hx rfl (hb hby d12_0) rfl k') ?_
  show Go p e below _ (s₁.setTop (mkF m 1 #[.val (.int a), .val (.int b)] [(.int a)]))
  refine Go.st (fun t' k' => XS.iloadN X0.here hx rfl (hb hby d12_1) rfl k') ?_
  show Go p e below _ (s₁.setTop (mkF m 2 #[.val (.int a), .val (.int b)] [(.int b), (.int a)]))
  by_cases hc2_101 : a < b
  · refine Go.st (fun t' k' => XS.icmpYes X0.here hx rfl (pc0 := 2) (pc' := 9) rfl (hb hby d12_2) rfl (tlt hc2_101).1 (by decide) (by decide) k') ?_
    show Go p e below _ (s₁.setTop (mkF m 9 #[.val (.int a), .val (.int b)] []))
    refine Go.st (fun t' k' => XS.iloadN X0.here hx rfl (hb hby d12_9) rfl k') ?_
    show Go p e below _ (s₁.setTop (mkF m 10 #[.val (.int a), .val (.int b)] [(.int b)]))
    exact Go.outI X0 hx hlk hret (hb hby d12_10) (Q := Q_rmMax Z a b h0) (by rw [e0]; exact ⟨(by simp [own_max, hc2_101]), rfl, rfl⟩) (by decide) (by decide)
  · refine Go.st (fun t' k' => XS.icmpNo X0.here hx rfl (hb hby d12_2) rfl (flt hc2_101).1 k') ?_
    show Go p e below _ (s₁.setTop (mkF m 5 #[.val (.int a), .val (.int b)] []))
    refine Go.st (fun t' k' => XS.iloadN X0.here hx rfl (hb hby d12_5) rfl k') ?_
    show Go p e below _ (s₁.setTop (mkF m 6 #[.val (.int a), .val (.int b)] [(.int a)]))
    refine Go.st (fun t' k' => XS.goto X0.here hx rfl (pc0 := 6) (pc' := 10) rfl (hb hby d12_6) (by decide) (by decide) k') ?_
    show Go p e below _ (s₁.setTop (mkF m 10 #[.val (.int a), .val (.int b)] [(.int a)]))
    exact Go.outI X0 hx hlk hret (hb hby d12_10) (Q := Q_rmMax Z a b h0) (by rw [e0]; exact ⟨(by simp [own_max, hc2_101]), rfl, rfl⟩) (by decide) (by decide)
theorem ef_rmRes (m : MethodId) (x0 : Addr) : entryFrame m #[(.ref x0)] 1 = mkF m 0 #[.val (.ref x0)] [] := by first | (simp [entryFrame, mkF, argsToLocals, Value.category]; done) | rfl
def Q_rmRes (Z : State) (a : Addr) (f : Int32) (h0 : Heap) (v : Option Value) (h : Heap) (L : List Loc) : Prop := v = some (.int (if f < 0 then (0 : Int32) else 1)) ∧ L = [] ∧ h = h0
theorem d4_0 : decode prog_4_method_12_code 0 = .ok (.aload_n 0, 1) := by decide +kernel
theorem d4_1 : decode prog_4_method_12_code 1 = .ok (.getfield 26, 3) := by decide +kernel
theorem d4_4 : decode prog_4_method_12_code 4 = .ok (.ifCond .lt 7, 3) := by decide +kernel
theorem d4_11 : decode prog_4_method_12_code 11 = .ok (.iconst 0, 1) := by decide +kernel
theorem d4_12 : decode prog_4_method_12_code 12 = .ok (.ireturn, 1) := by decide +kernel
theorem d4_7 : decode prog_4_method_12_code 7 = .ok (.iconst 1, 1) := by decide +kernel
theorem d4_8 : decode prog_4_method_12_code 8 = .ok (.goto 4, 3) := by decide +kernel
set_option maxRecDepth 65536 in
set_option maxHeartbeats 40000000 in
theorem rmRes (l : Launch) (Z : State) (a0 : Array Value) (hw : ∀ d ∈ tables_1, d.before a0 Z = true) (ws : List Jvm.Cond) (a : Addr) (f : Int32) (h0 : Heap) (O0 : Ext Z.heap h0) (Ff : Fld Z h0 a "com/example/kertyma/kertyma/LoadCounts" "finishedPartitions" "I" (.int f)) :
    MetFree l (⟨"com/example/kertyma/kertyma/LoadCounts", "resumed", "()Z"⟩ : MethodName) (head1 (Jvm.Cond.code (⟨"com/example/kertyma/kertyma/LoadCounts", "resumed", "()Z"⟩ : MethodName) prog_4_method_12_code 1 (some .boolean) :: ws) ({ frames := 0, cells := 0, slots := 0, locals := 0 } : Room)) (fun av' U => av' = #[(.ref a)] ∧ Z.Warmed39 U.vm ∧ U.heap = h0) (fun _ _ _ _ _ => True) (fun _ U o U' => ∃ v L, o = .returned v ∧ Q_rmRes Z a f h0 v U'.heap L ∧ FrameEnd U o U' L ({ frames := 0, cells := 0, slots := 0, locals := 0 } : Room).cells ({ frames := 0, cells := 0, slots := 0, locals := 0 } : Room).slots) := by
  refine MetFree.of_bodySF (plainFor_of_name pn_com_example_kertyma_kertyma_LoadCounts) hisR ?_
  intro p e s m args below meth c s₁ Bd hml0 hP hK
  obtain ⟨rfl, hZ, hh⟩ := hP
  have hx := Bd.exec
  have hby := Bd.bytes
  have hret := Bd.returns
  have hlk : meth.locks = false := Bd.notSynchronized
  have hml : c.maxLocals = 1 := hml0
  have hown : s.vm.findClass "com/example/kertyma/kertyma/LoadCounts" = some m.cls := findClass_of_methodNamed Bd.named
  have hnm := (name_of_methodNamed Bd.named Bd.method).1
  have X0 : Stand p l e ({ frames := 0, cells := 0, slots := 0, locals := 0 } : Room) s m #[(.ref a)] below meth c s₁ [] 0 0 := Stand.of_body Bd
  -- the walk
  have e0 : s₁.heap = h0 := by rw [← hh, Bd.state]; rfl
  have N0 := Fr.nil Z.heap.size
  show Go p e below (GO s (Q_rmRes Z a f h0) ({ frames := 0, cells := 0, slots := 0, locals := 0 } : Room).cells ({ frames := 0, cells := 0, slots := 0, locals := 0 } : Room).slots) (s₁.setTop (entryFrame m #[(.ref a)] 1))
  refine Go.st (fun t' k' => castTop (ef_rmRes m a) k') ?_
  show Go p e below _ (s₁.setTop (mkF m 0 #[.val (.ref a)] []))
  refine Go.st (fun t' k' => XS.aloadN X0.here hx rfl (hb hby d4_0) rfl rfl k') ?_
  show Go p e below _ (s₁.setTop (mkF m 1 #[.val (.ref a)] [(.ref a)]))
  obtain ⟨T101, X101, e101, st101⟩ := getF X0 hx hZ hown (host := "") (Or.inl (hw _ (List.mem_of_getElem? (i := 36) rfl))) Via.refl e0 Ff (g := (mkF m 1 #[.val (.ref a)] [(.ref a)])) rfl rfl (hb hby d4_1)
  refine Go.st st101 ?_
  show Go p e below _ (T101.setTop (mkF m 4 #[.val (.ref a)] [(.int f)]))
  by_cases hc4_102 : f < (0 : Int32)
  · refine Go.st (fun t' k' => XS.ifYes X101.here hx rfl (pc0 := 4) (pc' := 11) rfl (hb hby d4_4) rfl ((if0 _ _).trans (tlt hc4_102).1) (by decide) (by decide) k') ?_
    show Go p e below _ (T101.setTop (mkF m 11 #[.val (.ref a)] []))
    refine Go.st (fun t' k' => XS.iconst X101.here hx rfl (hb hby d4_11) k') ?_
    show Go p e below _ (T101.setTop (mkF m 12 #[.val (.ref a)] [(.int (0 : Int32))]))
    exact Go.outN X101 hx hlk (t := .boolean) hret (by simp) (hb hby d4_12) (Q := Q_rmRes Z a f h0) (by rw [e101]; exact ⟨(by rw [if_pos hc4_102]; rfl), rfl, rfl⟩) (by decide) (by decide)
  · refine Go.st (fun t' k' => XS.ifNo X101.here hx rfl (hb hby d4_4) rfl ((if0 _ _).trans (flt hc4_102).1) k') ?_
    show Go p e below _ (T101.setTop (mkF m 7 #[.val (.ref a)] []))
    refine Go.st (fun t' k' => XS.iconst X101.here hx rfl (hb hby d4_7) k') ?_
    show Go p e below _ (T101.setTop (mkF m 8 #[.val (.ref a)] [(.int (1 : Int32))]))
    refine Go.st (fun t' k' => XS.goto X101.here hx rfl (pc0 := 8) (pc' := 12) rfl (hb hby d4_8) (by decide) (by decide) k') ?_
    show Go p e below _ (T101.setTop (mkF m 12 #[.val (.ref a)] [(.int (1 : Int32))]))
    exact Go.outN X101 hx hlk (t := .boolean) hret (by simp) (hb hby d4_12) (Q := Q_rmRes Z a f h0) (by rw [e101]; exact ⟨(by rw [if_neg hc4_102]; rfl), rfl, rfl⟩) (by decide) (by decide)
theorem ef_rmAC (m : MethodId) (x0 : Addr) : entryFrame m #[(.ref x0)] 1 = mkF m 0 #[.val (.ref x0)] [] := by first | (simp [entryFrame, mkF, argsToLocals, Value.category]; done) | rfl
def Q_rmAC (Z : State) (a : Addr) (h0 : Heap) (v : Option Value) (h : Heap) (L : List Loc) : Prop := v = none ∧ L = [] ∧ h = h0
theorem pn_java_util_AbstractCollection : plainName "java/util/AbstractCollection" = true := by first | (simp [plainName, overriddenIn]; done) | decide +kernel
theorem d7_0 : decode jdk_22_method_1_code 0 = .ok (.aload_n 0, 1) := by decide +kernel
theorem d7_1 : decode jdk_22_method_1_code 1 = .ok (.invokespecial 1, 3) := by decide +kernel
theorem d7_4 : decode jdk_22_method_1_code 4 = .ok (.return_, 1) := by decide +kernel
set_option maxRecDepth 65536 in
set_option maxHeartbeats 40000000 in
theorem rmAC (l : Launch) (Z : State) (a0 : Array Value) (hw : ∀ d ∈ tables_1, d.before a0 Z = true) (ws : List Jvm.Cond) (a : Addr) (h0 : Heap) (O0 : Ext Z.heap h0) :
    MetFree l (⟨"java/util/AbstractCollection", "<init>", "()V"⟩ : MethodName) (head1 (Jvm.Cond.code (⟨"java/util/AbstractCollection", "<init>", "()V"⟩ : MethodName) jdk_22_method_1_code 1 none :: ws) ({ frames := 1, cells := 0, slots := 0, locals := 12 } : Room)) (fun av' U => av' = #[(.ref a)] ∧ Z.Warmed39 U.vm ∧ U.heap = h0) (fun _ _ _ _ _ => True) (fun _ U o U' => ∃ v L, o = .returned v ∧ Q_rmAC Z a h0 v U'.heap L ∧ FrameEnd U o U' L ({ frames := 1, cells := 0, slots := 0, locals := 12 } : Room).cells ({ frames := 1, cells := 0, slots := 0, locals := 12 } : Room).slots) := by
  refine MetFree.of_bodySF (plainFor_of_name pn_java_util_AbstractCollection) hisR ?_
  intro p e s m args below meth c s₁ Bd hml0 hP hK
  obtain ⟨rfl, hZ, hh⟩ := hP
  have hx := Bd.exec
  have hby := Bd.bytes
  have hret := Bd.returns
  have hlk : meth.locks = false := Bd.notSynchronized
  have hml : c.maxLocals = 1 := hml0
  have hown : s.vm.findClass "java/util/AbstractCollection" = some m.cls := findClass_of_methodNamed Bd.named
  have hnm := (name_of_methodNamed Bd.named Bd.method).1
  have X0 : Stand p l e ({ frames := 1, cells := 0, slots := 0, locals := 12 } : Room) s m #[(.ref a)] below meth c s₁ [] 0 0 := Stand.of_body Bd
  -- the walk
  have e0 : s₁.heap = h0 := by rw [← hh, Bd.state]; rfl
  have N0 := Fr.nil Z.heap.size
  show Go p e below (GO s (Q_rmAC Z a h0) ({ frames := 1, cells := 0, slots := 0, locals := 12 } : Room).cells ({ frames := 1, cells := 0, slots := 0, locals := 12 } : Room).slots) (s₁.setTop (entryFrame m #[(.ref a)] 1))
  refine Go.st (fun t' k' => castTop (ef_rmAC m a) k') ?_
  show Go p e below _ (s₁.setTop (mkF m 0 #[.val (.ref a)] []))
  refine Go.st (fun t' k' => XS.aloadN X0.here hx rfl (hb hby d7_0) rfl rfl k') ?_
  show Go p e below _ (s₁.setTop (mkF m 1 #[.val (.ref a)] [(.ref a)]))
  obtain ⟨T101, X101, e101, st101⟩ := initO X0 hx hZ hown (hw _ (List.mem_of_getElem? (i := 61) rfl)) (hw _ (List.mem_of_getElem? (i := 7) rfl)) (hw _ (List.mem_of_getElem? (i := 8) rfl)) e0 (g := (mkF m 1 #[.val (.ref a)] [(.ref a)])) rfl (by rw [hml]; rfl) rfl (hb hby d7_1) (by decide) (W := 0) (by show 2 * 0 + _ ≤ _; exact Nat.le_of_eq rfl) (by decide)
  refine Go.st st101 ?_
  show Go p e below _ (T101.setTop (mkF m 4 #[.val (.ref a)] []))
  exact Go.outU X101 hx hlk hret (hb hby d7_4) (Q := Q_rmAC Z a h0) (by rw [e101]; exact ⟨rfl, rfl, rfl⟩) (by decide) (by decide)
theorem ef_rmAB (m : MethodId) (x0 : Addr) : entryFrame m #[(.ref x0)] 1 = mkF m 0 #[.val (.ref x0)] [] := by first | (simp [entryFrame, mkF, argsToLocals, Value.category]; done) | rfl
def Q_rmAB (Z : State) (a : Addr) (h0 : Heap) (v : Option Value) (h : Heap) (L : List Loc) : Prop := v = none ∧ Fr Z.heap.size L ∧ Ext Z.heap h ∧ Keep h0 h [a] ∧ Fld Z h a "java/util/ArrayList" "elementData" "[Ljava/lang/Object;" .null ∧ Fld Z h a "java/util/ArrayList" "size" "I" (.int (0 : Int32)) ∧ Fld Z h a "java/util/AbstractList" "modCount" "I" (.int (0 : Int32))
theorem pn_java_util_AbstractList : plainName "java/util/AbstractList" = true := by first | (simp [plainName, overriddenIn]; done) | decide +kernel
theorem d6_0 : decode jdk_39_method_1_code 0 = .ok (.aload_n 0, 1) := by decide +kernel
theorem d6_1 : decode jdk_39_method_1_code 1 = .ok (.invokespecial 1, 3) := by decide +kernel
theorem pd___V : parseMethodDescriptor "()V" = some ⟨[], none⟩ := by decide +kernel
theorem d6_4 : decode jdk_39_method_1_code 4 = .ok (.aload_n 0, 1) := by decide +kernel
theorem d6_5 : decode jdk_39_method_1_code 5 = .ok (.iconst 0, 1) := by decide +kernel
theorem d6_6 : decode jdk_39_method_1_code 6 = .ok (.putfield 7, 3) := by decide +kernel
theorem d6_9 : decode jdk_39_method_1_code 9 = .ok (.return_, 1) := by decide +kernel
set_option maxRecDepth 65536 in
set_option maxHeartbeats 40000000 in
theorem rmAB (l : Launch) (Z : State) (a0 : Array Value) (hw : ∀ d ∈ tables_1, d.before a0 Z = true) (ws : List Jvm.Cond) (a : Addr) (h0 : Heap) (O0 : Ext Z.heap h0) (Ea : Exa Z h0 a "java/util/ArrayList") (Ga : Z.heap.size ≤ a) (Fe : Fld Z h0 a "java/util/ArrayList" "elementData" "[Ljava/lang/Object;" .null) (Fs : Fld Z h0 a "java/util/ArrayList" "size" "I" (.int (0 : Int32))) (Fm : Fld Z h0 a "java/util/AbstractList" "modCount" "I" (.int (0 : Int32))) :
    MetFree l (⟨"java/util/AbstractList", "<init>", "()V"⟩ : MethodName) (head1 (Jvm.Cond.code (⟨"java/util/AbstractList", "<init>", "()V"⟩ : MethodName) jdk_39_method_1_code 1 none :: ws) ({ frames := 2, cells := 0, slots := 0, locals := 32 } : Room)) (fun av' U => av' = #[(.ref a)] ∧ Z.Warmed39 U.vm ∧ U.heap = h0) (fun _ _ _ _ _ => True) (fun _ U o U' => ∃ v L, o = .returned v ∧ Q_rmAB Z a h0 v U'.heap L ∧ FrameEnd U o U' L ({ frames := 2, cells := 0, slots := 0, locals := 32 } : Room).cells ({ frames := 2, cells := 0, slots := 0, locals := 32 } : Room).slots) := by
  refine MetFree.of_bodySF (plainFor_of_name pn_java_util_AbstractList) hisR ?_
  intro p e s m args below meth c s₁ Bd hml0 hP hK
  obtain ⟨rfl, hZ, hh⟩ := hP
  have hx := Bd.exec
  have hby := Bd.bytes
  have hret := Bd.returns
  have hlk : meth.locks = false := Bd.notSynchronized
  have hml : c.maxLocals = 1 := hml0
  have hown : s.vm.findClass "java/util/AbstractList" = some m.cls := findClass_of_methodNamed Bd.named
  have hnm := (name_of_methodNamed Bd.named Bd.method).1
  have X0 : Stand p l e ({ frames := 2, cells := 0, slots := 0, locals := 32 } : Room) s m #[(.ref a)] below meth c s₁ [] 0 0 := Stand.of_body Bd
  -- the walk
  have e0 : s₁.heap = h0 := by rw [← hh, Bd.state]; rfl
  have N0 := Fr.nil Z.heap.size
  have K0 := Keep.refl h0 [a]
  show Go p e below (GO s (Q_rmAB Z a h0) ({ frames := 2, cells := 0, slots := 0, locals := 32 } : Room).cells ({ frames := 2, cells := 0, slots := 0, locals := 32 } : Room).slots) (s₁.setTop (entryFrame m #[(.ref a)] 1))
  refine Go.st (fun t' k' => castTop (ef_rmAB m a) k') ?_
  show Go p e below _ (s₁.setTop (mkF m 0 #[.val (.ref a)] []))
  refine Go.st (fun t' k' => XS.aloadN X0.here hx rfl (hb hby d6_0) rfl rfl k') ?_
  show Go p e below _ (s₁.setTop (mkF m 1 #[.val (.ref a)] [(.ref a)]))
  obtain ⟨_, _, ⟨T101, L101, k101, n101⟩, -, X101, ⟨Lc101, hQ101, l101, y101, z101⟩, st101⟩ := X0.specialBack hx (y := (⟨"java/util/AbstractCollection", "<init>", "()V"⟩ : MethodName)) rfl hown (mvT hZ (hw _ (List.mem_of_getElem? (i := 55) rfl))) (mvT hZ (hw _ (List.mem_of_getElem? (i := 56) rfl))) (mvT hZ (hw _ (List.mem_of_getElem? (i := 60) rfl))) (by decide) (backOf (W := 0) (rmAC l Z a0 hw [] a h0 O0 ) hZ (hw _ (List.mem_of_getElem? (i := 60) rfl)) (hw _ (List.mem_of_getElem? (i := 59) rfl)) (by decide) (by decide)) (g := (mkF m 1 #[.val (.ref a)] [(.ref a)])) rfl (by rw [hml]; rfl) (Steps.refl _) (a := a) (argsL := []) (rest := []) (lenOf pd___V rfl) rfl (by show 2 * 0 + _ ≤ _; exact Nat.le_of_eq rfl) (hb hby d6_1) (fun _ _ => ⟨rfl, e0, (by decide : 0 + 0 ≤ _), (by decide : 0 + 0 ≤ _)⟩)
  dsimp only [Pt.U, Pt.locs, Pt.cells, Pt.slots] at X101 l101 y101 z101 st101 hQ101
  subst l101 y101 z101
  obtain ⟨rfl, rfl, e101⟩ := hQ101
  have N101 := Fr.app N0 (Fr.nil _)
  refine Go.tr st101 ?_
  show Go p e below _ (T101.setTop (mkF m 4 #[.val (.ref a)] []))
  refine Go.st (fun t' k' => XS.aloadN X101.here hx rfl (hb hby d6_4) rfl rfl k') ?_
  show Go p e below _ (T101.setTop (mkF m 5 #[.val (.ref a)] [(.ref a)]))
  refine Go.st (fun t' k' => XS.iconst X101.here hx rfl (hb hby d6_5) k') ?_
  show Go p e below _ (T101.setTop (mkF m 6 #[.val (.ref a)] [(.int (0 : Int32)), (.ref a)]))
  obtain ⟨T102, h102, X102, e102, W102, st102⟩ := putF X101 hx hZ hown (host := "") (Or.inl (hw _ (List.mem_of_getElem? (i := 62) rfl))) Via.refl e101 Fm Ea (Or.inl (hw _ (List.mem_of_getElem? (i := 63) rfl))) (hw _ (List.mem_of_getElem? (i := 44) rfl)) (ty := .int) (by decide) rfl rfl (g := (mkF m 6 #[.val (.ref a)] [(.int (0 : Int32)), (.ref a)])) rfl rfl (hb hby d6_6)
  refine Go.st st102 ?_
  have Fw102 : Fld Z h102 a "java/util/AbstractList" "modCount" "I" (.int (0 : Int32)) := Fm.same W102
  have Ea_h103 := Ea.wr W102
  have Fe_h103 := Fe.other W102 (Or.inr (slot_ne (Or.inl (hw _ (List.mem_of_getElem? (i := 66) rfl))) (Or.inl (hw _ (List.mem_of_getElem? (i := 63) rfl))) (by decide) (t := (.array (.object "java/lang/Object"))) (t' := .int) (by decide) (by decide)))
  have Fs_h103 := Fs.other W102 (Or.inr (slot_ne (Or.inl (hw _ (List.mem_of_getElem? (i := 75) rfl))) (Or.inl (hw _ (List.mem_of_getElem? (i := 63) rfl))) (by decide) (t := .int) (t' := .int) (by decide) (by decide)))
  have O102 := own_ext_wr O0 W102 Ga
  have K102 := K0.wr W102 (Or.inl (List.mem_of_getElem? (i := 0) rfl))
  have N102 := Fr.snoc X102 N101 Ga
  show Go p e below _ (T102.setTop (mkF m 9 #[.val (.ref a)] []))
  exact Go.outU X102 hx hlk hret (hb hby d6_9) (Q := Q_rmAB Z a h0) (by rw [e102]; exact ⟨rfl, N102, O102, K102, Fe_h103, Fs_h103, Fw102⟩) (by decide) (by decide)
theorem ef_rmALI (m : MethodId) (x0 : Addr) : entryFrame m #[(.ref x0)] 1 = mkF m 0 #[.val (.ref x0)] [] := by first | (simp [entryFrame, mkF, argsToLocals, Value.category]; done) | rfl
def Q_rmALI (Z : State) (a : Addr) (w_DEF : Addr) (h0 : Heap) (v : Option Value) (h : Heap) (L : List Loc) : Prop := v = none ∧ Fr Z.heap.size L ∧ Ext Z.heap h ∧ Keep h0 h [a] ∧ Fld Z h a "java/util/ArrayList" "elementData" "[Ljava/lang/Object;" (.ref w_DEF) ∧ Fld Z h a "java/util/ArrayList" "size" "I" (.int (0 : Int32)) ∧ Fld Z h a "java/util/AbstractList" "modCount" "I" (.int (0 : Int32))
theorem pn_java_util_ArrayList : plainName "java/util/ArrayList" = true := by first | (simp [plainName, overriddenIn]; done) | decide +kernel
theorem d5_0 : decode jdk_38_method_2_code 0 = .ok (.aload_n 0, 1) := by decide +kernel
theorem d5_1 : decode jdk_38_method_2_code 1 = .ok (.invokespecial 1, 3) := by decide +kernel
theorem d5_4 : decode jdk_38_method_2_code 4 = .ok (.aload_n 0, 1) := by decide +kernel
theorem d5_5 : decode jdk_38_method_2_code 5 = .ok (.getstatic 39, 3) := by decide +kernel
theorem d5_8 : decode jdk_38_method_2_code 8 = .ok (.putfield 9, 3) := by decide +kernel
theorem d5_11 : decode jdk_38_method_2_code 11 = .ok (.return_, 1) := by decide +kernel
set_option maxRecDepth 65536 in
set_option maxHeartbeats 40000000 in
theorem rmALI (l : Launch) (Z : State) (a0 : Array Value) (hw : ∀ d ∈ tables_1, d.before a0 Z = true) (ws : List Jvm.Cond) (a : Addr) (w_DEF : Addr) (h0 : Heap) (O0 : Ext Z.heap h0) (S_DEF : Sta Z Z.heap "java/util/ArrayList" "DEFAULTCAPACITY_EMPTY_ELEMENTDATA" "[Ljava/lang/Object;" (.ref w_DEF)) (Ea : Exa Z h0 a "java/util/ArrayList") (Ga : Z.heap.size ≤ a) (Fe : Fld Z h0 a "java/util/ArrayList" "elementData" "[Ljava/lang/Object;" .null) (Fs : Fld Z h0 a "java/util/ArrayList" "size" "I" (.int (0 : Int32))) (Fm : Fld Z h0 a "java/util/AbstractList" "modCount" "I" (.int (0 : Int32))) :
    MetFree l (⟨"java/util/ArrayList", "<init>", "()V"⟩ : MethodName) (head1 (Jvm.Cond.code (⟨"java/util/ArrayList", "<init>", "()V"⟩ : MethodName) jdk_38_method_2_code 1 none :: ws) ({ frames := 3, cells := 0, slots := 0, locals := 48 } : Room)) (fun av' U => av' = #[(.ref a)] ∧ Z.Warmed39 U.vm ∧ U.heap = h0) (fun _ _ _ _ _ => True) (fun _ U o U' => ∃ v L, o = .returned v ∧ Q_rmALI Z a w_DEF h0 v U'.heap L ∧ FrameEnd U o U' L ({ frames := 3, cells := 0, slots := 0, locals := 48 } : Room).cells ({ frames := 3, cells := 0, slots := 0, locals := 48 } : Room).slots) := by
  refine MetFree.of_bodySF (plainFor_of_name pn_java_util_ArrayList) hisR ?_
  intro p e s m args below meth c s₁ Bd hml0 hP hK
  obtain ⟨rfl, hZ, hh⟩ := hP
  have hx := Bd.exec
  have hby := Bd.bytes
  have hret := Bd.returns
  have hlk : meth.locks = false := Bd.notSynchronized
  have hml : c.maxLocals = 1 := hml0
  have hown : s.vm.findClass "java/util/ArrayList" = some m.cls := findClass_of_methodNamed Bd.named
  have hnm := (name_of_methodNamed Bd.named Bd.method).1
  have X0 : Stand p l e ({ frames := 3, cells := 0, slots := 0, locals := 48 } : Room) s m #[(.ref a)] below meth c s₁ [] 0 0 := Stand.of_body Bd
  -- the walk
  have e0 : s₁.heap = h0 := by rw [← hh, Bd.state]; rfl
  have N0 := Fr.nil Z.heap.size
  have K0 := Keep.refl h0 [a]
  show Go p e below (GO s (Q_rmALI Z a w_DEF h0) ({ frames := 3, cells := 0, slots := 0, locals := 48 } : Room).cells ({ frames := 3, cells := 0, slots := 0, locals := 48 } : Room).slots) (s₁.setTop (entryFrame m #[(.ref a)] 1))
  refine Go.st (fun t' k' => castTop (ef_rmALI m a) k') ?_
  show Go p e below _ (s₁.setTop (mkF m 0 #[.val (.ref a)] []))
  refine Go.st (fun t' k' => XS.aloadN X0.here hx rfl (hb hby d5_0) rfl rfl k') ?_
  show Go p e below _ (s₁.setTop (mkF m 1 #[.val (.ref a)] [(.ref a)]))
  obtain ⟨_, _, ⟨T101, L101, k101, n101⟩, -, X101, ⟨Lc101, hQ101, l101, y101, z101⟩, st101⟩ := X0.specialBack hx (y := (⟨"java/util/AbstractList", "<init>", "()V"⟩ : MethodName)) rfl hown (mvT hZ (hw _ (List.mem_of_getElem? (i := 49) rfl))) (mvT hZ (hw _ (List.mem_of_getElem? (i := 50) rfl))) (mvT hZ (hw _ (List.mem_of_getElem? (i := 54) rfl))) (by decide) (backOf (W := 0) (rmAB l Z a0 hw [] a h0 O0 Ea Ga Fe Fs Fm) hZ (hw _ (List.mem_of_getElem? (i := 54) rfl)) (hw _ (List.mem_of_getElem? (i := 53) rfl)) (by decide) (by decide)) (g := (mkF m 1 #[.val (.ref a)] [(.ref a)])) rfl (by rw [hml]; rfl) (Steps.refl _) (a := a) (argsL := []) (rest := []) (lenOf pd___V rfl) rfl (by show 2 * 0 + _ ≤ _; exact Nat.le_of_eq rfl) (hb hby d5_1) (fun _ _ => ⟨rfl, e0, (by decide : 0 + 0 ≤ _), (by decide : 0 + 0 ≤ _)⟩)
  dsimp only [Pt.U, Pt.locs, Pt.cells, Pt.slots] at X101 l101 y101 z101 st101 hQ101
  subst l101 y101 z101
  obtain ⟨rfl, N101q, O101, Kc101, Pe_101, Ps_101, Pm_101⟩ := hQ101
  have N101 := Fr.app N0 N101q
  refine Go.tr st101 ?_
  have Ea_h102 := Ea.keep Kc101
  have K101 := K0.trans Kc101 (allS (Or.inl (List.mem_of_getElem? (i := 0) rfl)) all0)
  show Go p e below _ (T101.setTop (mkF m 4 #[.val (.ref a)] []))
  refine Go.st (fun t' k' => XS.aloadN X101.here hx rfl (hb hby d5_4) rfl rfl k') ?_
  show Go p e below _ (T101.setTop (mkF m 5 #[.val (.ref a)] [(.ref a)]))
  obtain ⟨T103, X103, e103, st103⟩ := getS2 X101 hx hZ hown (host := "") (Or.inl (hw _ (List.mem_of_getElem? (i := 64) rfl))) Via.refl rfl (S_DEF.ext O101) (g := (mkF m 5 #[.val (.ref a)] [(.ref a)])) rfl (hb hby d5_5)
  refine Go.st st103 ?_
  show Go p e below _ (T103.setTop (mkF m 8 #[.val (.ref a)] [(.ref w_DEF), (.ref a)]))
  obtain ⟨T104, h104, X104, e104, W104, st104⟩ := putF X103 hx hZ hown (host := "") (Or.inl (hw _ (List.mem_of_getElem? (i := 65) rfl))) Via.refl e103 Pe_101 Ea_h102 (Or.inl (hw _ (List.mem_of_getElem? (i := 66) rfl))) (hw _ (List.mem_of_getElem? (i := 44) rfl)) (ty := (.array (.object "java/lang/Object"))) (by decide) rfl rfl (g := (mkF m 8 #[.val (.ref a)] [(.ref w_DEF), (.ref a)])) rfl rfl (hb hby d5_8)
  refine Go.st st104 ?_
  have Fw104 : Fld Z h104 a "java/util/ArrayList" "elementData" "[Ljava/lang/Object;" (.ref w_DEF) := Pe_101.same W104
  have Ea_h105 := Ea_h102.wr W104
  have Ps_101_h105 := Ps_101.other W104 (Or.inr (slot_ne (Or.inl (hw _ (List.mem_of_getElem? (i := 75) rfl))) (Or.inl (hw _ (List.mem_of_getElem? (i := 66) rfl))) (by decide) (t := .int) (t' := (.array (.object "java/lang/Object"))) (by decide) (by decide)))
  have Pm_101_h105 := Pm_101.other W104 (Or.inr (slot_ne (Or.inl (hw _ (List.mem_of_getElem? (i := 63) rfl))) (Or.inl (hw _ (List.mem_of_getElem? (i := 66) rfl))) (by decide) (t := .int) (t' := (.array (.object "java/lang/Object"))) (by decide) (by decide)))
  have O104 := own_ext_wr O101 W104 Ga
  have K104 := K101.wr W104 (Or.inl (List.mem_of_getElem? (i := 0) rfl))
  have N104 := Fr.snoc X104 N101 Ga
  show Go p e below _ (T104.setTop (mkF m 11 #[.val (.ref a)] []))
  exact Go.outU X104 hx hlk hret (hb hby d5_11) (Q := Q_rmALI Z a w_DEF h0) (by rw [e104]; exact ⟨rfl, N104, O104, K104, Fw104, Ps_101_h105, Pm_101_h105⟩) (by decide) (by decide)
theorem ef_rmGrowI (m : MethodId) (x0 : Addr) (x1 : Int32) : entryFrame m #[(.ref x0), (.int x1)] 4 = mkF m 0 #[.val (.ref x0), .val (.int x1), .unset, .unset] [] := by first | (simp [entryFrame, mkF, argsToLocals, Value.category]; done) | rfl
def Q_rmGrowI (Z : State) (a : Addr) (w_DEF : Addr) (k_DEF : ClassId) (mm : Int32) (h0 : Heap) (v : Option Value) (h : Heap) (L : List Loc) : Prop := ∃ b : Addr, ∃ kb : ClassId, v = some (.ref b) ∧ Fr Z.heap.size L ∧ Ext Z.heap h ∧ Keep h0 h [a] ∧ Fld Z h a "java/util/ArrayList" "elementData" "[Ljava/lang/Object;" (.ref b) ∧ Fld Z h a "java/util/ArrayList" "size" "I" (.int (0 : Int32)) ∧ Fld Z h a "java/util/AbstractList" "modCount" "I" (.int mm) ∧ Arv Z h b kb (.object "java/lang/Object") (10 : Int32) [.null, .null, .null, .null, .null, .null, .null, .null, .null, .null] .null ∧ Ovr Z kb "java/lang/Object" ∧ Z.heap.size ≤ b ∧ h0.size ≤ b ∧ a ≠ b
theorem d11_0 : decode jdk_38_method_6_code 0 = .ok (.aload_n 0, 1) := by decide +kernel
theorem d11_1 : decode jdk_38_method_6_code 1 = .ok (.getfield 9, 3) := by decide +kernel
theorem d11_4 : decode jdk_38_method_6_code 4 = .ok (.arraylength, 1) := by decide +kernel
theorem d11_5 : decode jdk_38_method_6_code 5 = .ok (.istore_n 2, 1) := by decide +kernel
theorem d11_6 : decode jdk_38_method_6_code 6 = .ok (.iload_n 2, 1) := by decide +kernel
theorem d11_7 : decode jdk_38_method_6_code 7 = .ok (.ifCond .gt 13, 3) := by decide +kernel
theorem d11_10 : decode jdk_38_method_6_code 10 = .ok (.aload_n 0, 1) := by decide +kernel
theorem d11_11 : decode jdk_38_method_6_code 11 = .ok (.getfield 9, 3) := by decide +kernel
theorem d11_14 : decode jdk_38_method_6_code 14 = .ok (.getstatic 39, 3) := by decide +kernel
theorem d11_17 : decode jdk_38_method_6_code 17 = .ok (.if_acmp .eq 28, 3) := by decide +kernel
theorem d11_45 : decode jdk_38_method_6_code 45 = .ok (.aload_n 0, 1) := by decide +kernel
theorem d11_46 : decode jdk_38_method_6_code 46 = .ok (.bipush 10, 2) := by decide +kernel
theorem d11_48 : decode jdk_38_method_6_code 48 = .ok (.iload_n 1, 1) := by decide +kernel
theorem d11_49 : decode jdk_38_method_6_code 49 = .ok (.invokestatic 79, 3) := by decide +kernel
theorem pd__II_I : parseMethodDescriptor "(II)I" = some ⟨[.int, .int], some .int⟩ := by decide +kernel
theorem d11_52 : decode jdk_38_method_6_code 52 = .ok (.anewarray 7, 3) := by decide +kernel
theorem d11_55 : decode jdk_38_method_6_code 55 = .ok (.dup_x1, 1) := by decide +kernel
theorem d11_56 : decode jdk_38_method_6_code 56 = .ok (.putfield 9, 3) := by decide +kernel
theorem d11_59 : decode jdk_38_method_6_code 59 = .ok (.areturn, 1) := by decide +kernel
set_option maxRecDepth 65536 in
set_option maxHeartbeats 40000000 in
theorem rmGrowI (l : Launch) (Z : State) (a0 : Array Value) (hw : ∀ d ∈ tables_1, d.before a0 Z = true) (ws : List Jvm.Cond) (a : Addr) (w_DEF : Addr) (k_DEF : ClassId) (mm : Int32) (h0 : Heap) (O0 : Ext Z.heap h0) (S_DEF : Sta Z Z.heap "java/util/ArrayList" "DEFAULTCAPACITY_EMPTY_ELEMENTDATA" "[Ljava/lang/Object;" (.ref w_DEF)) (A_DEF : Arv Z Z.heap w_DEF k_DEF (.object "java/lang/Object") (0 : Int32) [] .null) (Ea : Exa Z h0 a "java/util/ArrayList") (Ga : Z.heap.size ≤ a) (Fe : Fld Z h0 a "java/util/ArrayList" "elementData" "[Ljava/lang/Object;" (.ref w_DEF)) (Fs : Fld Z h0 a "java/util/ArrayList" "size" "I" (.int (0 : Int32))) (Fm : Fld Z h0 a "java/util/AbstractList" "modCount" "I" (.int mm)) :
    MetFree l (⟨"java/util/ArrayList", "grow", "(I)[Ljava/lang/Object;"⟩ : MethodName) (head1 (Jvm.Cond.code (⟨"java/util/ArrayList", "grow", "(I)[Ljava/lang/Object;"⟩ : MethodName) jdk_38_method_6_code 4 (some (.array (.object "java/lang/Object"))) :: ws) ({ frames := 1, cells := 1, slots := 10, locals := 40 } : Room)) (fun av' U => av' = #[(.ref a), (.int (1 : Int32))] ∧ Z.Warmed39 U.vm ∧ U.heap = h0) (fun _ _ _ _ _ => True) (fun _ U o U' => ∃ v L, o = .returned v ∧ Q_rmGrowI Z a w_DEF k_DEF mm h0 v U'.heap L ∧ FrameEnd U o U' L ({ frames := 1, cells := 1, slots := 10, locals := 40 } : Room).cells ({ frames := 1, cells := 1, slots := 10, locals := 40 } : Room).slots) := by
  refine MetFree.of_bodySF (plainFor_of_name pn_java_util_ArrayList) hisR ?_
  intro p e s m args below meth c s₁ Bd hml0 hP hK
  obtain ⟨rfl, hZ, hh⟩ := hP
  have hx := Bd.exec
  have hby := Bd.bytes
  have hret := Bd.returns
  have hlk : meth.locks = false := Bd.notSynchronized
  have hml : c.maxLocals = 4 := hml0
  have hown : s.vm.findClass "java/util/ArrayList" = some m.cls := findClass_of_methodNamed Bd.named
  have hnm := (name_of_methodNamed Bd.named Bd.method).1
  have X0 : Stand p l e ({ frames := 1, cells := 1, slots := 10, locals := 40 } : Room) s m #[(.ref a), (.int (1 : Int32))] below meth c s₁ [] 0 0 := Stand.of_body Bd
  -- the walk
  have e0 : s₁.heap = h0 := by rw [← hh, Bd.state]; rfl
  have N0 := Fr.nil Z.heap.size
  have K0 := Keep.refl h0 [a]
  show Go p e below (GO s (Q_rmGrowI Z a w_DEF k_DEF mm h0) ({ frames := 1, cells := 1, slots := 10, locals := 40 } : Room).cells ({ frames := 1, cells := 1, slots := 10, locals := 40 } : Room).slots) (s₁.setTop (entryFrame m #[(.ref a), (.int (1 : Int32))] 4))
  refine Go.st (fun t' k' => castTop (ef_rmGrowI m a (1 : Int32)) k') ?_
  show Go p e below _ (s₁.setTop (mkF m 0 #[.val (.ref a), .val (.int (1 : Int32)), .unset, .unset] []))
  refine Go.st (fun t' k' => XS.aloadN X0.here hx rfl (hb hby d11_0) rfl rfl k') ?_
  show Go p e below _ (s₁.setTop (mkF m 1 #[.val (.ref a), .val (.int (1 : Int32)), .unset, .unset] [(.ref a)]))
  obtain ⟨T101, X101, e101, st101⟩ := getF X0 hx hZ hown (host := "") (Or.inl (hw _ (List.mem_of_getElem? (i := 65) rfl))) Via.refl e0 Fe (g := (mkF m 1 #[.val (.ref a), .val (.int (1 : Int32)), .unset, .unset] [(.ref a)])) rfl rfl (hb hby d11_1)
  refine Go.st st101 ?_
  show Go p e below _ (T101.setTop (mkF m 4 #[.val (.ref a), .val (.int (1 : Int32)), .unset, .unset] [(.ref w_DEF)]))
  obtain ⟨cll102, Arl102, ql102, Szl102, Nzl102, Hsl102, Gsl102⟩ := (id (A_DEF.ext O0))
  refine Go.st (X101.arraylength hx (by rw [e101]; exact Arl102.1) (State.isArrayOf_alike hZ.alike Arl102.2.1) (g := (mkF m 4 #[.val (.ref a), .val (.int (1 : Int32)), .unset, .unset] [(.ref w_DEF)])) rfl rfl (hb hby d11_4)) ?_
  rw [len_of Szl102 Nzl102]
  show Go p e below _ (T101.setTop (mkF m 5 #[.val (.ref a), .val (.int (1 : Int32)), .unset, .unset] [(.int (0 : Int32))]))
  refine Go.st (fun t' k' => XS.istoreN X101.here hx rfl (hb hby d11_5) rfl (l' := #[.val (.ref a), .val (.int (1 : Int32)), .val (.int (0 : Int32)), .unset]) rfl k') ?_
  show Go p e below _ (T101.setTop (mkF m 6 #[.val (.ref a), .val (.int (1 : Int32)), .val (.int (0 : Int32)), .unset] []))
  refine Go.st (fun t' k' => XS.iloadN X101.here hx rfl (hb hby d11_6) rfl k') ?_
  show Go p e below _ (T101.setTop (mkF m 7 #[.val (.ref a), .val (.int (1 : Int32)), .val (.int (0 : Int32)), .unset] [(.int (0 : Int32))]))
  refine Go.st (fun t' k' => XS.ifNo X101.here hx rfl (hb hby d11_7) rfl ((if0 _ _).trans (flt (by decide : ¬ ((0 : Int32) < (0 : Int32)))).2.2.1) k') ?_
  show Go p e below _ (T101.setTop (mkF m 10 #[.val (.ref a), .val (.int (1 : Int32)), .val (.int (0 : Int32)), .unset] []))
  refine Go.st (fun t' k' => XS.aloadN X101.here hx rfl (hb hby d11_10) rfl rfl k') ?_
  show Go p e below _ (T101.setTop (mkF m 11 #[.val (.ref a), .val (.int (1 : Int32)), .val (.int (0 : Int32)), .unset] [(.ref a)]))
  obtain ⟨T103, X103, e103, st103⟩ := getF X101 hx hZ hown (host := "") (Or.inl (hw _ (List.mem_of_getElem? (i := 65) rfl))) Via.refl e101 Fe (g := (mkF m 11 #[.val (.ref a), .val (.int (1 : Int32)), .val (.int (0 : Int32)), .unset] [(.ref a)])) rfl rfl (hb hby d11_11)
  refine Go.st st103 ?_
  show Go p e below _ (T103.setTop (mkF m 14 #[.val (.ref a), .val (.int (1 : Int32)), .val (.int (0 : Int32)), .unset] [(.ref w_DEF)]))
  obtain ⟨T104, X104, e104, st104⟩ := getS2 X103 hx hZ hown (host := "") (Or.inl (hw _ (List.mem_of_getElem? (i := 64) rfl))) Via.refl e103 (S_DEF.ext O0) (g := (mkF m 14 #[.val (.ref a), .val (.int (1 : Int32)), .val (.int (0 : Int32)), .unset] [(.ref w_DEF)])) rfl (hb hby d11_14)
  refine Go.st st104 ?_
  show Go p e below _ (T104.setTop (mkF m 17 #[.val (.ref a), .val (.int (1 : Int32)), .val (.int (0 : Int32)), .unset] [(.ref w_DEF), (.ref w_DEF)]))
  refine Go.st (fun t' k' => Jvm.RoadKit.acmp (g := (mkF m 17 #[.val (.ref a), .val (.int (1 : Int32)), .val (.int (0 : Int32)), .unset] [(.ref w_DEF), (.ref w_DEF)])) X104 hx rfl rfl rfl (pc0 := 17) (pc' := 45) (same := true) rfl (hb hby d11_17) rfl (decide_eq_true rfl) (by decide) (by decide) k') ?_
  show Go p e below _ (T104.setTop (mkF m 45 #[.val (.ref a), .val (.int (1 : Int32)), .val (.int (0 : Int32)), .unset] []))
  refine Go.st (fun t' k' => XS.aloadN X104.here hx rfl (hb hby d11_45) rfl rfl k') ?_
  show Go p e below _ (T104.setTop (mkF m 46 #[.val (.ref a), .val (.int (1 : Int32)), .val (.int (0 : Int32)), .unset] [(.ref a)]))
  refine Go.st (fun t' k' => XS.bipush X104.here hx rfl (hb hby d11_46) k') ?_
  show Go p e below _ (T104.setTop (mkF m 48 #[.val (.ref a), .val (.int (1 : Int32)), .val (.int (0 : Int32)), .unset] [(.int (10 : Int32)), (.ref a)]))
  refine Go.st (fun t' k' => XS.iloadN X104.here hx rfl (hb hby d11_48) rfl k') ?_
  show Go p e below _ (T104.setTop (mkF m 49 #[.val (.ref a), .val (.int (1 : Int32)), .val (.int (0 : Int32)), .unset] [(.int (1 : Int32)), (.int (10 : Int32)), (.ref a)]))
  obtain ⟨_, _, ⟨T105, L105, k105, n105⟩, -, X105, ⟨Lc105, hQ105, l105, y105, z105⟩, st105⟩ := Jvm.LawKit.callS X104 hx (y := (⟨"java/lang/Math", "max", "(II)I"⟩ : MethodName)) hown (mvT hZ (hw _ (List.mem_of_getElem? (i := 91) rfl))) (mvT hZ (hw _ (List.mem_of_getElem? (i := 92) rfl))) (mvT hZ (hw _ (List.mem_of_getElem? (i := 93) rfl))) (mvT hZ (hw _ (List.mem_of_getElem? (i := 94) rfl))) (by decide) (backOf (W := 1) (rmMax l Z a0 hw [] ((10 : Int32)) ((1 : Int32)) h0 O0 ) hZ (hw _ (List.mem_of_getElem? (i := 94) rfl)) (hw _ (List.mem_of_getElem? (i := 93) rfl)) (by decide) (by decide)) (g := (mkF m 49 #[.val (.ref a), .val (.int (1 : Int32)), .val (.int (0 : Int32)), .unset] [(.int (1 : Int32)), (.int (10 : Int32)), (.ref a)])) rfl (by rw [hml]; rfl) (argsL := [(.int (10 : Int32)), (.int (1 : Int32))]) (rest := [(.ref a)]) (lenOf pd__II_I rfl) rfl (by show 2 * 0 + _ ≤ _; exact Nat.le_of_eq rfl) (hb hby d11_49) (fun _ _ => ⟨rfl, e104, (by decide : 0 + 0 ≤ _), (by decide : 0 + 0 ≤ _)⟩)
  dsimp only [Pt.U, Pt.locs, Pt.cells, Pt.slots] at X105 l105 y105 z105 st105 hQ105
  subst l105 y105 z105
  obtain ⟨rfl, rfl, e105⟩ := hQ105
  have N105 := Fr.app N0 (Fr.nil _)
  refine Go.st st105 ?_
  show Go p e below _ (T105.setTop (mkF m 52 #[.val (.ref a), .val (.int (1 : Int32)), .val (.int (0 : Int32)), .unset] [(.int (10 : Int32)), (.ref a)]))
  obtain ⟨T106, h106, k106, X106, e106, E106, A106, O106v, st106⟩ := newR X105 hx hZ hown (hw _ (List.mem_of_getElem? (i := 95) rfl)) (hw _ (List.mem_of_getElem? (i := 96) rfl)) e105 (g := (mkF m 52 #[.val (.ref a), .val (.int (1 : Int32)), .val (.int (0 : Int32)), .unset] [(.int (10 : Int32)), (.ref a)])) rfl (hb hby d11_52) rfl (by decide) (cap := 10) (by decide) (by decide) (by decide) (by decide)
  obtain ⟨b106, g106⟩ : ∃ z, z = h0.size := ⟨_, rfl⟩
  rw [← g106] at A106 st106
  refine Go.st st106 ?_
  have ne_w_DEF_b106 : w_DEF ≠ b106 := Nat.ne_of_lt (Nat.lt_of_lt_of_le (A_DEF.ext O0).lt (Nat.le_of_eq g106.symm))
  have ne_a_b106 : a ≠ b106 := Nat.ne_of_lt (Nat.lt_of_lt_of_le Ea.lt (Nat.le_of_eq g106.symm))
  have g_b106 : Z.heap.size ≤ b106 := Nat.le_trans O0.1 (Nat.le_of_eq g106.symm)
  have sz_b106 : h0.size ≤ b106 := Nat.le_trans K0.1 (Nat.le_of_eq g106.symm)
  have Ea_h107 := Ea.ext E106
  have Fe_h107 := Fe.ext E106
  have Fs_h107 := Fs.ext E106
  have Fm_h107 := Fm.ext E106
  have O106 := own_ext_trans O0 E106
  have K106 := K0.ext E106
  have V_b106 : Arv Z h106 b106 k106 (.object "java/lang/Object") (10 : Int32) [.null, .null, .null, .null, .null, .null, .null, .null, .null, .null] .null := (Arv.new A106 (by decide)).pad (pad_rep [] .null 10)
  show Go p e below _ (T106.setTop (mkF m 55 #[.val (.ref a), .val (.int (1 : Int32)), .val (.int (0 : Int32)), .unset] [(.ref b106), (.ref a)]))
  refine Go.st (fun t' k' => XS.dupX1 X106.here hx rfl (hb hby d11_55) rfl rfl rfl k') ?_
  show Go p e below _ (T106.setTop (mkF m 56 #[.val (.ref a), .val (.int (1 : Int32)), .val (.int (0 : Int32)), .unset] [(.ref b106), (.ref a), (.ref b106)]))
  obtain ⟨T108, h108, X108, e108, W108, st108⟩ := putF X106 hx hZ hown (host := "") (Or.inl (hw _ (List.mem_of_getElem? (i := 65) rfl))) Via.refl e106 Fe_h107 Ea_h107 (Or.inl (hw _ (List.mem_of_getElem? (i := 66) rfl))) (hw _ (List.mem_of_getElem? (i := 44) rfl)) (ty := (.array (.object "java/lang/Object"))) (by decide) rfl rfl (g := (mkF m 56 #[.val (.ref a), .val (.int (1 : Int32)), .val (.int (0 : Int32)), .unset] [(.ref b106), (.ref a), (.ref b106)])) rfl rfl (hb hby d11_56)
  refine Go.st st108 ?_
  have Fw108 : Fld Z h108 a "java/util/ArrayList" "elementData" "[Ljava/lang/Object;" (.ref b106) := Fe_h107.same W108
  have Ea_h109 := Ea_h107.wr W108
  have Fs_h109 := Fs_h107.other W108 (Or.inr (slot_ne (Or.inl (hw _ (List.mem_of_getElem? (i := 75) rfl))) (Or.inl (hw _ (List.mem_of_getElem? (i := 66) rfl))) (by decide) (t := .int) (t' := (.array (.object "java/lang/Object"))) (by decide) (by decide)))
  have Fm_h109 := Fm_h107.other W108 (Or.inr (slot_ne (Or.inl (hw _ (List.mem_of_getElem? (i := 63) rfl))) (Or.inl (hw _ (List.mem_of_getElem? (i := 66) rfl))) (by decide) (t := .int) (t' := (.array (.object "java/lang/Object"))) (by decide) (by decide)))
  have V_b106_h109 := V_b106.other W108 (Ne.symm ne_a_b106)
  have O108 := own_ext_wr O106 W108 Ga
  have K108 := K106.wr W108 (Or.inl (List.mem_of_getElem? (i := 0) rfl))
  have N108 := Fr.snoc X108 N105 Ga
  show Go p e below _ (T108.setTop (mkF m 59 #[.val (.ref a), .val (.int (1 : Int32)), .val (.int (0 : Int32)), .unset] [(.ref b106)]))
  exact Go.outR X108 hx hlk hret rfl rfl (hb hby d11_59) (Q := Q_rmGrowI Z a w_DEF k_DEF mm h0) (by rw [e108]; exact ⟨b106, k106, rfl, N108, O108, K108, Fw108, Fs_h109, Fm_h109, V_b106_h109, O106v, g_b106, sz_b106, ne_a_b106⟩) (by decide) (by decide)
theorem ef_rmGrow (m : MethodId) (x0 : Addr) : entryFrame m #[(.ref x0)] 1 = mkF m 0 #[.val (.ref x0)] [] := by first | (simp [entryFrame, mkF, argsToLocals, Value.category]; done) | rfl
def Q_rmGrow (Z : State) (a : Addr) (w_DEF : Addr) (k_DEF : ClassId) (mm : Int32) (h0 : Heap) (v : Option Value) (h : Heap) (L : List Loc) : Prop := ∃ b : Addr, ∃ kb : ClassId, v = some (.ref b) ∧ Fr Z.heap.size L ∧ Ext Z.heap h ∧ Keep h0 h [a] ∧ Fld Z h a "java/util/ArrayList" "elementData" "[Ljava/lang/Object;" (.ref b) ∧ Fld Z h a "java/util/ArrayList" "size" "I" (.int (0 : Int32)) ∧ Fld Z h a "java/util/AbstractList" "modCount" "I" (.int mm) ∧ Arv Z h b kb (.object "java/lang/Object") (10 : Int32) [.null, .null, .null, .null, .null, .null, .null, .null, .null, .null] .null ∧ Ovr Z kb "java/lang/Object" ∧ Z.heap.size ≤ b ∧ h0.size ≤ b ∧ a ≠ b
theorem d10_0 : decode jdk_38_method_7_code 0 = .ok (.aload_n 0, 1) := by decide +kernel
theorem d10_1 : decode jdk_38_method_7_code 1 = .ok (.aload_n 0, 1) := by decide +kernel
theorem d10_2 : decode jdk_38_method_7_code 2 = .ok (.getfield 48, 3) := by decide +kernel
theorem d10_5 : decode jdk_38_method_7_code 5 = .ok (.iconst 1, 1) := by decide +kernel
theorem d10_6 : decode jdk_38_method_7_code 6 = .ok (.iadd, 1) := by decide +kernel
theorem d10_7 : decode jdk_38_method_7_code 7 = .ok (.invokevirtual 69, 3) := by decide +kernel
theorem pd__I__Ljava_lang_Object_ : parseMethodDescriptor "(I)[Ljava/lang/Object;" = some ⟨[.int], some (.array (.object "java/lang/Object"))⟩ := by decide +kernel
theorem d10_10 : decode jdk_38_method_7_code 10 = .ok (.areturn, 1) := by decide +kernel
set_option maxRecDepth 65536 in
set_option maxHeartbeats 40000000 in
theorem rmGrow (l : Launch) (Z : State) (a0 : Array Value) (hw : ∀ d ∈ tables_1, d.before a0 Z = true) (ws : List Jvm.Cond) (a : Addr) (w_DEF : Addr) (k_DEF : ClassId) (mm : Int32) (h0 : Heap) (O0 : Ext Z.heap h0) (S_DEF : Sta Z Z.heap "java/util/ArrayList" "DEFAULTCAPACITY_EMPTY_ELEMENTDATA" "[Ljava/lang/Object;" (.ref w_DEF)) (A_DEF : Arv Z Z.heap w_DEF k_DEF (.object "java/lang/Object") (0 : Int32) [] .null) (Ea : Exa Z h0 a "java/util/ArrayList") (Ga : Z.heap.size ≤ a) (Fe : Fld Z h0 a "java/util/ArrayList" "elementData" "[Ljava/lang/Object;" (.ref w_DEF)) (Fs : Fld Z h0 a "java/util/ArrayList" "size" "I" (.int (0 : Int32))) (Fm : Fld Z h0 a "java/util/AbstractList" "modCount" "I" (.int mm)) :
    MetFree l (⟨"java/util/ArrayList", "grow", "()[Ljava/lang/Object;"⟩ : MethodName) (head1 (Jvm.Cond.code (⟨"java/util/ArrayList", "grow", "()[Ljava/lang/Object;"⟩ : MethodName) jdk_38_method_7_code 1 (some (.array (.object "java/lang/Object"))) :: ws) ({ frames := 2, cells := 1, slots := 10, locals := 60 } : Room)) (fun av' U => av' = #[(.ref a)] ∧ Z.Warmed39 U.vm ∧ U.heap = h0) (fun _ _ _ _ _ => True) (fun _ U o U' => ∃ v L, o = .returned v ∧ Q_rmGrow Z a w_DEF k_DEF mm h0 v U'.heap L ∧ FrameEnd U o U' L ({ frames := 2, cells := 1, slots := 10, locals := 60 } : Room).cells ({ frames := 2, cells := 1, slots := 10, locals := 60 } : Room).slots) := by
  refine MetFree.of_bodySF (plainFor_of_name pn_java_util_ArrayList) hisR ?_
  intro p e s m args below meth c s₁ Bd hml0 hP hK
  obtain ⟨rfl, hZ, hh⟩ := hP
  have hx := Bd.exec
  have hby := Bd.bytes
  have hret := Bd.returns
  have hlk : meth.locks = false := Bd.notSynchronized
  have hml : c.maxLocals = 1 := hml0
  have hown : s.vm.findClass "java/util/ArrayList" = some m.cls := findClass_of_methodNamed Bd.named
  have hnm := (name_of_methodNamed Bd.named Bd.method).1
  have X0 : Stand p l e ({ frames := 2, cells := 1, slots := 10, locals := 60 } : Room) s m #[(.ref a)] below meth c s₁ [] 0 0 := Stand.of_body Bd
  -- the walk
  have e0 : s₁.heap = h0 := by rw [← hh, Bd.state]; rfl
  have N0 := Fr.nil Z.heap.size
  have K0 := Keep.refl h0 [a]
  show Go p e below (GO s (Q_rmGrow Z a w_DEF k_DEF mm h0) ({ frames := 2, cells := 1, slots := 10, locals := 60 } : Room).cells ({ frames := 2, cells := 1, slots := 10, locals := 60 } : Room).slots) (s₁.setTop (entryFrame m #[(.ref a)] 1))
  refine Go.st (fun t' k' => castTop (ef_rmGrow m a) k') ?_
  show Go p e below _ (s₁.setTop (mkF m 0 #[.val (.ref a)] []))
  refine Go.st (fun t' k' => XS.aloadN X0.here hx rfl (hb hby d10_0) rfl rfl k') ?_
  show Go p e below _ (s₁.setTop (mkF m 1 #[.val (.ref a)] [(.ref a)]))
  refine Go.st (fun t' k' => XS.aloadN X0.here hx rfl (hb hby d10_1) rfl rfl k') ?_
  show Go p e below _ (s₁.setTop (mkF m 2 #[.val (.ref a)] [(.ref a), (.ref a)]))
  obtain ⟨T101, X101, e101, st101⟩ := getF X0 hx hZ hown (host := "") (Or.inl (hw _ (List.mem_of_getElem? (i := 74) rfl))) Via.refl e0 Fs (g := (mkF m 2 #[.val (.ref a)] [(.ref a), (.ref a)])) rfl rfl (hb hby d10_2)
  refine Go.st st101 ?_
  show Go p e below _ (T101.setTop (mkF m 5 #[.val (.ref a)] [(.int (0 : Int32)), (.ref a)]))
  refine Go.st (fun t' k' => XS.iconst X101.here hx rfl (hb hby d10_5) k') ?_
  show Go p e below _ (T101.setTop (mkF m 6 #[.val (.ref a)] [(.int (1 : Int32)), (.int (0 : Int32)), (.ref a)]))
  refine Go.st (fun t' k' => XS.iadd X101.here hx rfl (hb hby d10_6) rfl k') ?_
  show Go p e below _ (T101.setTop (mkF m 7 #[.val (.ref a)] [(.int (1 : Int32)), (.ref a)]))
  obtain ⟨cq102, q102, q102'⟩ := Ea.cell
  obtain ⟨_, _, ⟨T102, L102, k102, n102⟩, -, X102, ⟨Lc102, hQ102, l102, y102, z102⟩, st102⟩ := X101.privateBack hx (y := (⟨"java/util/ArrayList", "grow", "(I)[Ljava/lang/Object;"⟩ : MethodName)) hown (mvT hZ (hw _ (List.mem_of_getElem? (i := 86) rfl))) (mvT hZ (hw _ (List.mem_of_getElem? (i := 87) rfl))) (mvT hZ (hw _ (List.mem_of_getElem? (i := 89) rfl))) (Cond.privateMethod_at (mvP hZ (hw _ (List.mem_of_getElem? (i := 88) rfl)) (args := #[]))) (mvT hZ (hw _ (List.mem_of_getElem? (i := 90) rfl))) (by decide) (backOf (W := 0) (rmGrowI l Z a0 hw [] a w_DEF k_DEF mm h0 O0 S_DEF A_DEF Ea Ga Fe Fs Fm) hZ (hw _ (List.mem_of_getElem? (i := 90) rfl)) (hw _ (List.mem_of_getElem? (i := 45) rfl)) (by decide) (by decide)) (g := (mkF m 7 #[.val (.ref a)] [(.int (1 : Int32)), (.ref a)])) rfl (by rw [hml]; rfl) (Steps.refl _) (a := a) (by rw [e101]; exact q102) q102' (argsL := [(.int (1 : Int32))]) (rest := []) (lenOf pd__I__Ljava_lang_Object_ rfl) rfl (by show 2 * 0 + _ ≤ _; exact Nat.le_of_eq rfl) (hb hby d10_7) (fun _ _ => ⟨rfl, e101, (by decide : 0 + 1 ≤ _), (by decide : 0 + 10 ≤ _)⟩)
  dsimp only [Pt.U, Pt.locs, Pt.cells, Pt.slots] at X102 l102 y102 z102 st102 hQ102
  subst l102 y102 z102
  obtain ⟨b_102, kb_102, rfl, N102q, O102, Kc102, Pe_102, Ps_102, Pm_102, Vb_102, Ov_102, Gb_102, Sb_102, Nab_102⟩ := hQ102
  have N102 := Fr.app N0 N102q
  refine Go.tr st102 ?_
  have Ea_h103 := Ea.keep Kc102
  have K102 := K0.trans Kc102 (allS (Or.inl (List.mem_of_getElem? (i := 0) rfl)) all0)
  have ne_w_DEF_b_102 : w_DEF ≠ b_102 := Nat.ne_of_lt (Nat.lt_of_lt_of_le (A_DEF.ext O0).lt Sb_102)
  have sz_b_102 : h0.size ≤ b_102 := Nat.le_trans K0.1 Sb_102
  show Go p e below _ (T102.setTop (mkF m 10 #[.val (.ref a)] [(.ref b_102)]))
  exact Go.outR X102 hx hlk hret rfl rfl (hb hby d10_10) (Q := Q_rmGrow Z a w_DEF k_DEF mm h0) (⟨b_102, kb_102, rfl, N102, O102, K102, Pe_102, Ps_102, Pm_102, Vb_102, Ov_102, Gb_102, sz_b_102, Nab_102⟩) (by decide) (by decide)
theorem ef_rmAdd3 (m : MethodId) (x0 : Addr) (x1 : Addr) (x2 : Addr) (x3 : Int32) : entryFrame m #[(.ref x0), (.ref x1), (.ref x2), (.int x3)] 4 = mkF m 0 #[.val (.ref x0), .val (.ref x1), .val (.ref x2), .val (.int x3)] [] := by first | (simp [entryFrame, mkF, argsToLocals, Value.category]; done) | rfl
def Q_rmAdd3 (Z : State) (a : Addr) (t : Addr) (w_DEF : Addr) (k_DEF : ClassId) (mm : Int32) (h0 : Heap) (v : Option Value) (h : Heap) (L : List Loc) : Prop := ∃ b : Addr, ∃ kb : ClassId, v = none ∧ Fr Z.heap.size L ∧ Ext Z.heap h ∧ Keep h0 h [a] ∧ Fld Z h a "java/util/ArrayList" "elementData" "[Ljava/lang/Object;" (.ref b) ∧ Fld Z h a "java/util/ArrayList" "size" "I" (.int (1 : Int32)) ∧ Fld Z h a "java/util/AbstractList" "modCount" "I" (.int mm) ∧ Arv Z h b kb (.object "java/lang/Object") (10 : Int32) [(.ref t), .null, .null, .null, .null, .null, .null, .null, .null, .null] .null ∧ Z.heap.size ≤ b ∧ h0.size ≤ b ∧ a ≠ b
theorem d9_0 : decode jdk_38_method_24_code 0 = .ok (.iload_n 3, 1) := by decide +kernel
theorem d9_1 : decode jdk_38_method_24_code 1 = .ok (.aload_n 2, 1) := by decide +kernel
theorem d9_2 : decode jdk_38_method_24_code 2 = .ok (.arraylength, 1) := by decide +kernel
theorem d9_3 : decode jdk_38_method_24_code 3 = .ok (.if_icmp .ne 8, 3) := by decide +kernel
theorem d9_6 : decode jdk_38_method_24_code 6 = .ok (.aload_n 0, 1) := by decide +kernel
theorem d9_7 : decode jdk_38_method_24_code 7 = .ok (.invokevirtual 129, 3) := by decide +kernel
theorem pd____Ljava_lang_Object_ : parseMethodDescriptor "()[Ljava/lang/Object;" = some ⟨[], some (.array (.object "java/lang/Object"))⟩ := by decide +kernel
theorem d9_10 : decode jdk_38_method_24_code 10 = .ok (.astore_n 2, 1) := by decide +kernel
theorem d9_11 : decode jdk_38_method_24_code 11 = .ok (.aload_n 2, 1) := by decide +kernel
theorem d9_12 : decode jdk_38_method_24_code 12 = .ok (.iload_n 3, 1) := by decide +kernel
theorem d9_13 : decode jdk_38_method_24_code 13 = .ok (.aload_n 1, 1) := by decide +kernel
theorem d9_14 : decode jdk_38_method_24_code 14 = .ok (.aastore, 1) := by decide +kernel
theorem d9_15 : decode jdk_38_method_24_code 15 = .ok (.aload_n 0, 1) := by decide +kernel
theorem d9_16 : decode jdk_38_method_24_code 16 = .ok (.iload_n 3, 1) := by decide +kernel
theorem d9_17 : decode jdk_38_method_24_code 17 = .ok (.iconst 1, 1) := by decide +kernel
theorem d9_18 : decode jdk_38_method_24_code 18 = .ok (.iadd, 1) := by decide +kernel
theorem d9_19 : decode jdk_38_method_24_code 19 = .ok (.putfield 48, 3) := by decide +kernel
theorem d9_22 : decode jdk_38_method_24_code 22 = .ok (.return_, 1) := by decide +kernel
set_option maxRecDepth 65536 in
set_option maxHeartbeats 40000000 in
theorem rmAdd3 (l : Launch) (Z : State) (a0 : Array Value) (hw : ∀ d ∈ tables_1, d.before a0 Z = true) (ws : List Jvm.Cond) (a : Addr) (t : Addr) (w_DEF : Addr) (k_DEF : ClassId) (mm : Int32) (h0 : Heap) (O0 : Ext Z.heap h0) (S_DEF : Sta Z Z.heap "java/util/ArrayList" "DEFAULTCAPACITY_EMPTY_ELEMENTDATA" "[Ljava/lang/Object;" (.ref w_DEF)) (A_DEF : Arv Z Z.heap w_DEF k_DEF (.object "java/lang/Object") (0 : Int32) [] .null) (Ea : Exa Z h0 a "java/util/ArrayList") (Ga : Z.heap.size ≤ a) (Et : Exa Z h0 t "com/example/kertyma/kertyma/LoadCounts") (Nta : t ≠ a) (Fe : Fld Z h0 a "java/util/ArrayList" "elementData" "[Ljava/lang/Object;" (.ref w_DEF)) (Fs : Fld Z h0 a "java/util/ArrayList" "size" "I" (.int (0 : Int32))) (Fm : Fld Z h0 a "java/util/AbstractList" "modCount" "I" (.int mm)) :
    MetFree l (⟨"java/util/ArrayList", "add", "(Ljava/lang/Object;[Ljava/lang/Object;I)V"⟩ : MethodName) (head1 (Jvm.Cond.code (⟨"java/util/ArrayList", "add", "(Ljava/lang/Object;[Ljava/lang/Object;I)V"⟩ : MethodName) jdk_38_method_24_code 4 none :: ws) ({ frames := 3, cells := 1, slots := 10, locals := 80 } : Room)) (fun av' U => av' = #[(.ref a), (.ref t), (.ref w_DEF), (.int (0 : Int32))] ∧ Z.Warmed39 U.vm ∧ U.heap = h0) (fun _ _ _ _ _ => True) (fun _ U o U' => ∃ v L, o = .returned v ∧ Q_rmAdd3 Z a t w_DEF k_DEF mm h0 v U'.heap L ∧ FrameEnd U o U' L ({ frames := 3, cells := 1, slots := 10, locals := 80 } : Room).cells ({ frames := 3, cells := 1, slots := 10, locals := 80 } : Room).slots) := by
  refine MetFree.of_bodySF (plainFor_of_name pn_java_util_ArrayList) hisR ?_
  intro p e s m args below meth c s₁ Bd hml0 hP hK
  obtain ⟨rfl, hZ, hh⟩ := hP
  have hx := Bd.exec
  have hby := Bd.bytes
  have hret := Bd.returns
  have hlk : meth.locks = false := Bd.notSynchronized
  have hml : c.maxLocals = 4 := hml0
  have hown : s.vm.findClass "java/util/ArrayList" = some m.cls := findClass_of_methodNamed Bd.named
  have hnm := (name_of_methodNamed Bd.named Bd.method).1
  have X0 : Stand p l e ({ frames := 3, cells := 1, slots := 10, locals := 80 } : Room) s m #[(.ref a), (.ref t), (.ref w_DEF), (.int (0 : Int32))] below meth c s₁ [] 0 0 := Stand.of_body Bd
  -- the walk
  have e0 : s₁.heap = h0 := by rw [← hh, Bd.state]; rfl
  have N0 := Fr.nil Z.heap.size
  have K0 := Keep.refl h0 [a]
  show Go p e below (GO s (Q_rmAdd3 Z a t w_DEF k_DEF mm h0) ({ frames := 3, cells := 1, slots := 10, locals := 80 } : Room).cells ({ frames := 3, cells := 1, slots := 10, locals := 80 } : Room).slots) (s₁.setTop (entryFrame m #[(.ref a), (.ref t), (.ref w_DEF), (.int (0 : Int32))] 4))
  refine Go.st (fun t' k' => castTop (ef_rmAdd3 m a t w_DEF (0 : Int32)) k') ?_
  show Go p e below _ (s₁.setTop (mkF m 0 #[.val (.ref a), .val (.ref t), .val (.ref w_DEF), .val (.int (0 : Int32))] []))
  refine Go.st (fun t' k' => XS.iloadN X0.here hx rfl (hb hby d9_0) rfl k') ?_
  show Go p e below _ (s₁.setTop (mkF m 1 #[.val (.ref a), .val (.ref t), .val (.ref w_DEF), .val (.int (0 : Int32))] [(.int (0 : Int32))]))
  refine Go.st (fun t' k' => XS.aloadN X0.here hx rfl (hb hby d9_1) rfl rfl k') ?_
  show Go p e below _ (s₁.setTop (mkF m 2 #[.val (.ref a), .val (.ref t), .val (.ref w_DEF), .val (.int (0 : Int32))] [(.ref w_DEF), (.int (0 : Int32))]))
  obtain ⟨cll101, Arl101, ql101, Szl101, Nzl101, Hsl101, Gsl101⟩ := (id (A_DEF.ext O0))
  refine Go.st (X0.arraylength hx (by rw [e0]; exact Arl101.1) (State.isArrayOf_alike hZ.alike Arl101.2.1) (g := (mkF m 2 #[.val (.ref a), .val (.ref t), .val (.ref w_DEF), .val (.int (0 : Int32))] [(.ref w_DEF), (.int (0 : Int32))])) rfl rfl (hb hby d9_2)) ?_
  rw [len_of Szl101 Nzl101]
  show Go p e below _ (s₁.setTop (mkF m 3 #[.val (.ref a), .val (.ref t), .val (.ref w_DEF), .val (.int (0 : Int32))] [(.int (0 : Int32)), (.int (0 : Int32))]))
  refine Go.st (fun t' k' => XS.icmpNo X0.here hx rfl (hb hby d9_3) rfl (teq (by decide : (0 : Int32) = (0 : Int32))).2 k') ?_
  show Go p e below _ (s₁.setTop (mkF m 6 #[.val (.ref a), .val (.ref t), .val (.ref w_DEF), .val (.int (0 : Int32))] []))
  refine Go.st (fun t' k' => XS.aloadN X0.here hx rfl (hb hby d9_6) rfl rfl k') ?_
  show Go p e below _ (s₁.setTop (mkF m 7 #[.val (.ref a), .val (.ref t), .val (.ref w_DEF), .val (.int (0 : Int32))] [(.ref a)]))
  obtain ⟨cq102, q102, q102'⟩ := Ea.cell
  obtain ⟨_, _, ⟨T102, L102, k102, n102⟩, -, X102, ⟨Lc102, hQ102, l102, y102, z102⟩, st102⟩ := X0.privateBack hx (y := (⟨"java/util/ArrayList", "grow", "()[Ljava/lang/Object;"⟩ : MethodName)) hown (mvT hZ (hw _ (List.mem_of_getElem? (i := 81) rfl))) (mvT hZ (hw _ (List.mem_of_getElem? (i := 82) rfl))) (mvT hZ (hw _ (List.mem_of_getElem? (i := 84) rfl))) (Cond.privateMethod_at (mvP hZ (hw _ (List.mem_of_getElem? (i := 83) rfl)) (args := #[]))) (mvT hZ (hw _ (List.mem_of_getElem? (i := 85) rfl))) (by decide) (backOf (W := 0) (rmGrow l Z a0 hw [] a w_DEF k_DEF mm h0 O0 S_DEF A_DEF Ea Ga Fe Fs Fm) hZ (hw _ (List.mem_of_getElem? (i := 85) rfl)) (hw _ (List.mem_of_getElem? (i := 45) rfl)) (by decide) (by decide)) (g := (mkF m 7 #[.val (.ref a), .val (.ref t), .val (.ref w_DEF), .val (.int (0 : Int32))] [(.ref a)])) rfl (by rw [hml]; rfl) (Steps.refl _) (a := a) (by rw [e0]; exact q102) q102' (argsL := []) (rest := []) (lenOf pd____Ljava_lang_Object_ rfl) rfl (by show 2 * 0 + _ ≤ _; exact Nat.le_of_eq rfl) (hb hby d9_7) (fun _ _ => ⟨rfl, e0, (by decide : 0 + 1 ≤ _), (by decide : 0 + 10 ≤ _)⟩)
  dsimp only [Pt.U, Pt.locs, Pt.cells, Pt.slots] at X102 l102 y102 z102 st102 hQ102
  subst l102 y102 z102
  obtain ⟨b_102, kb_102, rfl, N102q, O102, Kc102, Pe_102, Ps_102, Pm_102, Vb_102, Ov_102, Gb_102, Sb_102, Nab_102⟩ := hQ102
  have N102 := Fr.app N0 N102q
  refine Go.tr st102 ?_
  have Ea_h103 := Ea.keep Kc102
  have Et_h103 := Et.keep Kc102
  have K102 := K0.trans Kc102 (allS (Or.inl (List.mem_of_getElem? (i := 0) rfl)) all0)
  have ne_w_DEF_b_102 : w_DEF ≠ b_102 := Nat.ne_of_lt (Nat.lt_of_lt_of_le (A_DEF.ext O0).lt Sb_102)
  have ne_t_b_102 : t ≠ b_102 := Nat.ne_of_lt (Nat.lt_of_lt_of_le Et.lt Sb_102)
  have sz_b_102 : h0.size ≤ b_102 := Nat.le_trans K0.1 Sb_102
  show Go p e below _ (T102.setTop (mkF m 10 #[.val (.ref a), .val (.ref t), .val (.ref w_DEF), .val (.int (0 : Int32))] [(.ref b_102)]))
  refine Go.st (fun t' k' => XS.astoreN X102.here hx rfl (hb hby d9_10) rfl rfl (l' := #[.val (.ref a), .val (.ref t), .val (.ref b_102), .val (.int (0 : Int32))]) rfl k') ?_
  show Go p e below _ (T102.setTop (mkF m 11 #[.val (.ref a), .val (.ref t), .val (.ref b_102), .val (.int (0 : Int32))] []))
  refine Go.st (fun t' k' => XS.aloadN X102.here hx rfl (hb hby d9_11) rfl rfl k') ?_
  show Go p e below _ (T102.setTop (mkF m 12 #[.val (.ref a), .val (.ref t), .val (.ref b_102), .val (.int (0 : Int32))] [(.ref b_102)]))
  refine Go.st (fun t' k' => XS.iloadN X102.here hx rfl (hb hby d9_12) rfl k') ?_
  show Go p e below _ (T102.setTop (mkF m 13 #[.val (.ref a), .val (.ref t), .val (.ref b_102), .val (.int (0 : Int32))] [(.int (0 : Int32)), (.ref b_102)]))
  refine Go.st (fun t' k' => XS.aloadN X102.here hx rfl (hb hby d9_13) rfl rfl k') ?_
  show Go p e below _ (T102.setTop (mkF m 14 #[.val (.ref a), .val (.ref t), .val (.ref b_102), .val (.int (0 : Int32))] [(.ref t), (.int (0 : Int32)), (.ref b_102)]))
  obtain ⟨cls104, Ars104, qs104, Szs104, Nzs104, Hss104, Gss104⟩ := (id Vb_102)
  have hins104 : ¬ ((0 : Int32) < 0 ∨ cls104.slots.size ≤ ((0 : Int32)).toNatClampNeg) := inb_of Szs104 ⟨by decide, by decide⟩
  obtain ⟨T105, h105, X105, e105, W105, st105⟩ := stR X102 hx hZ rfl Ars104 (j := (0 : Int32)) hins104 rfl (Sto.ofV Ars104 qs104 Ov_102 (Ins.of_exa Et_h103 (hw _ (List.mem_of_getElem? (i := 97) rfl)))) (g := (mkF m 14 #[.val (.ref a), .val (.ref t), .val (.ref b_102), .val (.int (0 : Int32))] [(.ref t), (.int (0 : Int32)), (.ref b_102)])) rfl rfl (hb hby d9_14)
  refine Go.st st105 ?_
  have V_b_102_105 : Arv Z h105 b_102 kb_102 (.object "java/lang/Object") (10 : Int32) [(.ref t), .null, .null, .null, .null, .null, .null, .null, .null, .null] .null := (Arv.set Ars104 qs104 Szs104 Nzs104 Hss104 Gss104 rfl W105 0 rfl (Nat.le_of_ble_eq_true rfl))
  have Ea_h106 := Ea_h103.wr W105
  have Et_h106 := Et_h103.wr W105
  have Pe_102_h106 := Pe_102.other W105 (Or.inl Nab_102)
  have Ps_102_h106 := Ps_102.other W105 (Or.inl Nab_102)
  have Pm_102_h106 := Pm_102.other W105 (Or.inl Nab_102)
  have O105 := own_ext_wr O102 W105 Gb_102
  have K105 := K102.wr W105 (Or.inr sz_b_102)
  have N105 := Fr.snoc X105 N102 Gb_102
  show Go p e below _ (T105.setTop (mkF m 15 #[.val (.ref a), .val (.ref t), .val (.ref b_102), .val (.int (0 : Int32))] []))
  refine Go.st (fun t' k' => XS.aloadN X105.here hx rfl (hb hby d9_15) rfl rfl k') ?_
  show Go p e below _ (T105.setTop (mkF m 16 #[.val (.ref a), .val (.ref t), .val (.ref b_102), .val (.int (0 : Int32))] [(.ref a)]))
  refine Go.st (fun t' k' => XS.iloadN X105.here hx rfl (hb hby d9_16) rfl k') ?_
  show Go p e below _ (T105.setTop (mkF m 17 #[.val (.ref a), .val (.ref t), .val (.ref b_102), .val (.int (0 : Int32))] [(.int (0 : Int32)), (.ref a)]))
  refine Go.st (fun t' k' => XS.iconst X105.here hx rfl (hb hby d9_17) k') ?_
  show Go p e below _ (T105.setTop (mkF m 18 #[.val (.ref a), .val (.ref t), .val (.ref b_102), .val (.int (0 : Int32))] [(.int (1 : Int32)), (.int (0 : Int32)), (.ref a)]))
  refine Go.st (fun t' k' => XS.iadd X105.here hx rfl (hb hby d9_18) rfl k') ?_
  show Go p e below _ (T105.setTop (mkF m 19 #[.val (.ref a), .val (.ref t), .val (.ref b_102), .val (.int (0 : Int32))] [(.int (1 : Int32)), (.ref a)]))
  obtain ⟨T107, h107, X107, e107, W107, st107⟩ := putF X105 hx hZ hown (host := "") (Or.inl (hw _ (List.mem_of_getElem? (i := 74) rfl))) Via.refl e105 Ps_102_h106 Ea_h106 (Or.inl (hw _ (List.mem_of_getElem? (i := 75) rfl))) (hw _ (List.mem_of_getElem? (i := 44) rfl)) (ty := .int) (by decide) rfl rfl (g := (mkF m 19 #[.val (.ref a), .val (.ref t), .val (.ref b_102), .val (.int (0 : Int32))] [(.int (1 : Int32)), (.ref a)])) rfl rfl (hb hby d9_19)
  refine Go.st st107 ?_
  have Fw107 : Fld Z h107 a "java/util/ArrayList" "size" "I" (.int (1 : Int32)) := Ps_102_h106.same W107
  have Ea_h108 := Ea_h106.wr W107
  have Et_h108 := Et_h106.wr W107
  have Pe_102_h108 := Pe_102_h106.other W107 (Or.inr (slot_ne (Or.inl (hw _ (List.mem_of_getElem? (i := 66) rfl))) (Or.inl (hw _ (List.mem_of_getElem? (i := 75) rfl))) (by decide) (t := (.array (.object "java/lang/Object"))) (t' := .int) (by decide) (by decide)))
  have Pm_102_h108 := Pm_102_h106.other W107 (Or.inr (slot_ne (Or.inl (hw _ (List.mem_of_getElem? (i := 63) rfl))) (Or.inl (hw _ (List.mem_of_getElem? (i := 75) rfl))) (by decide) (t := .int) (t' := .int) (by decide) (by decide)))
  have V_b_102_105_h108 := V_b_102_105.other W107 (Ne.symm Nab_102)
  have O107 := own_ext_wr O105 W107 Ga
  have K107 := K105.wr W107 (Or.inl (List.mem_of_getElem? (i := 0) rfl))
  have N107 := Fr.snoc X107 N105 Ga
  show Go p e below _ (T107.setTop (mkF m 22 #[.val (.ref a), .val (.ref t), .val (.ref b_102), .val (.int (0 : Int32))] []))
  exact Go.outU X107 hx hlk hret (hb hby d9_22) (Q := Q_rmAdd3 Z a t w_DEF k_DEF mm h0) (by rw [e107]; exact ⟨b_102, kb_102, rfl, N107, O107, K107, Pe_102_h108, Fw107, Pm_102_h108, V_b_102_105_h108, Gb_102, sz_b_102, Nab_102⟩) (by decide) (by decide)
theorem ef_rmAdd1 (m : MethodId) (x0 : Addr) (x1 : Addr) : entryFrame m #[(.ref x0), (.ref x1)] 2 = mkF m 0 #[.val (.ref x0), .val (.ref x1)] [] := by first | (simp [entryFrame, mkF, argsToLocals, Value.category]; done) | rfl
def Q_rmAdd1 (Z : State) (a : Addr) (t : Addr) (w_DEF : Addr) (k_DEF : ClassId) (h0 : Heap) (v : Option Value) (h : Heap) (L : List Loc) : Prop := ∃ b : Addr, ∃ kb : ClassId, v = some (.int (1 : Int32)) ∧ Fr Z.heap.size L ∧ Ext Z.heap h ∧ Keep h0 h [a] ∧ Fld Z h a "java/util/ArrayList" "elementData" "[Ljava/lang/Object;" (.ref b) ∧ Fld Z h a "java/util/ArrayList" "size" "I" (.int (1 : Int32)) ∧ Fld Z h a "java/util/AbstractList" "modCount" "I" (.int (1 : Int32)) ∧ Arv Z h b kb (.object "java/lang/Object") (10 : Int32) [(.ref t), .null, .null, .null, .null, .null, .null, .null, .null, .null] .null ∧ Z.heap.size ≤ b ∧ h0.size ≤ b ∧ a ≠ b
theorem d8_0 : decode jdk_38_method_25_code 0 = .ok (.aload_n 0, 1) := by decide +kernel
theorem d8_1 : decode jdk_38_method_25_code 1 = .ok (.dup, 1) := by decide +kernel
theorem d8_2 : decode jdk_38_method_25_code 2 = .ok (.getfield 63, 3) := by decide +kernel
theorem d8_5 : decode jdk_38_method_25_code 5 = .ok (.iconst 1, 1) := by decide +kernel
theorem d8_6 : decode jdk_38_method_25_code 6 = .ok (.iadd, 1) := by decide +kernel
theorem d8_7 : decode jdk_38_method_25_code 7 = .ok (.putfield 63, 3) := by decide +kernel
theorem d8_10 : decode jdk_38_method_25_code 10 = .ok (.aload_n 0, 1) := by decide +kernel
theorem d8_11 : decode jdk_38_method_25_code 11 = .ok (.aload_n 1, 1) := by decide +kernel
theorem d8_12 : decode jdk_38_method_25_code 12 = .ok (.aload_n 0, 1) := by decide +kernel
theorem d8_13 : decode jdk_38_method_25_code 13 = .ok (.getfield 9, 3) := by decide +kernel
theorem d8_16 : decode jdk_38_method_25_code 16 = .ok (.aload_n 0, 1) := by decide +kernel
theorem d8_17 : decode jdk_38_method_25_code 17 = .ok (.getfield 48, 3) := by decide +kernel
theorem d8_20 : decode jdk_38_method_25_code 20 = .ok (.invokevirtual 131, 3) := by decide +kernel
theorem pd__Ljava_lang_Object__Ljava_lang_Object_I_V : parseMethodDescriptor "(Ljava/lang/Object;[Ljava/lang/Object;I)V" = some ⟨[(.object "java/lang/Object"), (.array (.object "java/lang/Object")), .int], none⟩ := by decide +kernel
theorem d8_23 : decode jdk_38_method_25_code 23 = .ok (.iconst 1, 1) := by decide +kernel
theorem d8_24 : decode jdk_38_method_25_code 24 = .ok (.ireturn, 1) := by decide +kernel
set_option maxRecDepth 65536 in
set_option maxHeartbeats 40000000 in
theorem rmAdd1 (l : Launch) (Z : State) (a0 : Array Value) (hw : ∀ d ∈ tables_1, d.before a0 Z = true) (ws : List Jvm.Cond) (a : Addr) (t : Addr) (w_DEF : Addr) (k_DEF : ClassId) (h0 : Heap) (O0 : Ext Z.heap h0) (S_DEF : Sta Z Z.heap "java/util/ArrayList" "DEFAULTCAPACITY_EMPTY_ELEMENTDATA" "[Ljava/lang/Object;" (.ref w_DEF)) (A_DEF : Arv Z Z.heap w_DEF k_DEF (.object "java/lang/Object") (0 : Int32) [] .null) (Ea : Exa Z h0 a "java/util/ArrayList") (Ga : Z.heap.size ≤ a) (Et : Exa Z h0 t "com/example/kertyma/kertyma/LoadCounts") (Nta : t ≠ a) (Fe : Fld Z h0 a "java/util/ArrayList" "elementData" "[Ljava/lang/Object;" (.ref w_DEF)) (Fs : Fld Z h0 a "java/util/ArrayList" "size" "I" (.int (0 : Int32))) (Fm : Fld Z h0 a "java/util/AbstractList" "modCount" "I" (.int (0 : Int32))) :
    MetFree l (⟨"java/util/ArrayList", "add", "(Ljava/lang/Object;)Z"⟩ : MethodName) (head1 (Jvm.Cond.code (⟨"java/util/ArrayList", "add", "(Ljava/lang/Object;)Z"⟩ : MethodName) jdk_38_method_25_code 2 (some .boolean) :: ws) ({ frames := 4, cells := 1, slots := 10, locals := 100 } : Room)) (fun av' U => av' = #[(.ref a), (.ref t)] ∧ Z.Warmed39 U.vm ∧ U.heap = h0) (fun _ _ _ _ _ => True) (fun _ U o U' => ∃ v L, o = .returned v ∧ Q_rmAdd1 Z a t w_DEF k_DEF h0 v U'.heap L ∧ FrameEnd U o U' L ({ frames := 4, cells := 1, slots := 10, locals := 100 } : Room).cells ({ frames := 4, cells := 1, slots := 10, locals := 100 } : Room).slots) := by
  refine MetFree.of_bodySF (plainFor_of_name pn_java_util_ArrayList) hisR ?_
  intro p e s m args below meth c s₁ Bd hml0 hP hK
  obtain ⟨rfl, hZ, hh⟩ := hP
  have hx := Bd.exec
  have hby := Bd.bytes
  have hret := Bd.returns
  have hlk : meth.locks = false := Bd.notSynchronized
  have hml : c.maxLocals = 2 := hml0
  have hown : s.vm.findClass "java/util/ArrayList" = some m.cls := findClass_of_methodNamed Bd.named
  have hnm := (name_of_methodNamed Bd.named Bd.method).1
  have X0 : Stand p l e ({ frames := 4, cells := 1, slots := 10, locals := 100 } : Room) s m #[(.ref a), (.ref t)] below meth c s₁ [] 0 0 := Stand.of_body Bd
  -- the walk
  have e0 : s₁.heap = h0 := by rw [← hh, Bd.state]; rfl
  have N0 := Fr.nil Z.heap.size
  have K0 := Keep.refl h0 [a]
  show Go p e below (GO s (Q_rmAdd1 Z a t w_DEF k_DEF h0) ({ frames := 4, cells := 1, slots := 10, locals := 100 } : Room).cells ({ frames := 4, cells := 1, slots := 10, locals := 100 } : Room).slots) (s₁.setTop (entryFrame m #[(.ref a), (.ref t)] 2))
  refine Go.st (fun t' k' => castTop (ef_rmAdd1 m a t) k') ?_
  show Go p e below _ (s₁.setTop (mkF m 0 #[.val (.ref a), .val (.ref t)] []))
  refine Go.st (fun t' k' => XS.aloadN X0.here hx rfl (hb hby d8_0) rfl rfl k') ?_
  show Go p e below _ (s₁.setTop (mkF m 1 #[.val (.ref a), .val (.ref t)] [(.ref a)]))
  refine Go.st (fun t' k' => XS.dup X0.here hx rfl (hb hby d8_1) rfl rfl k') ?_
  show Go p e below _ (s₁.setTop (mkF m 2 #[.val (.ref a), .val (.ref t)] [(.ref a), (.ref a)]))
  obtain ⟨T101, X101, e101, st101⟩ := getF X0 hx hZ hown (host := "") (Or.inl (hw _ (List.mem_of_getElem? (i := 72) rfl))) (Via.of (hw _ (List.mem_of_getElem? (i := 73) rfl))) e0 Fm (g := (mkF m 2 #[.val (.ref a), .val (.ref t)] [(.ref a), (.ref a)])) rfl rfl (hb hby d8_2)
  refine Go.st st101 ?_
  show Go p e below _ (T101.setTop (mkF m 5 #[.val (.ref a), .val (.ref t)] [(.int (0 : Int32)), (.ref a)]))
  refine Go.st (fun t' k' => XS.iconst X101.here hx rfl (hb hby d8_5) k') ?_
  show Go p e below _ (T101.setTop (mkF m 6 #[.val (.ref a), .val (.ref t)] [(.int (1 : Int32)), (.int (0 : Int32)), (.ref a)]))
  refine Go.st (fun t' k' => XS.iadd X101.here hx rfl (hb hby d8_6) rfl k') ?_
  show Go p e below _ (T101.setTop (mkF m 7 #[.val (.ref a), .val (.ref t)] [(.int (1 : Int32)), (.ref a)]))
  obtain ⟨T102, h102, X102, e102, W102, st102⟩ := putF X101 hx hZ hown (host := "") (Or.inl (hw _ (List.mem_of_getElem? (i := 72) rfl))) (Via.of (hw _ (List.mem_of_getElem? (i := 73) rfl))) e101 Fm Ea (Or.inl (hw _ (List.mem_of_getElem? (i := 63) rfl))) (hw _ (List.mem_of_getElem? (i := 44) rfl)) (ty := .int) (by decide) rfl rfl (g := (mkF m 7 #[.val (.ref a), .val (.ref t)] [(.int (1 : Int32)), (.ref a)])) rfl rfl (hb hby d8_7)
  refine Go.st st102 ?_
  have Fw102 : Fld Z h102 a "java/util/AbstractList" "modCount" "I" (.int (1 : Int32)) := Fm.same W102
  have Ea_h103 := Ea.wr W102
  have Et_h103 := Et.wr W102
  have Fe_h103 := Fe.other W102 (Or.inr (slot_ne (Or.inl (hw _ (List.mem_of_getElem? (i := 66) rfl))) (Or.inl (hw _ (List.mem_of_getElem? (i := 63) rfl))) (by decide) (t := (.array (.object "java/lang/Object"))) (t' := .int) (by decide) (by decide)))
  have Fs_h103 := Fs.other W102 (Or.inr (slot_ne (Or.inl (hw _ (List.mem_of_getElem? (i := 75) rfl))) (Or.inl (hw _ (List.mem_of_getElem? (i := 63) rfl))) (by decide) (t := .int) (t' := .int) (by decide) (by decide)))
  have O102 := own_ext_wr O0 W102 Ga
  have K102 := K0.wr W102 (Or.inl (List.mem_of_getElem? (i := 0) rfl))
  have N102 := Fr.snoc X102 N0 Ga
  show Go p e below _ (T102.setTop (mkF m 10 #[.val (.ref a), .val (.ref t)] []))
  refine Go.st (fun t' k' => XS.aloadN X102.here hx rfl (hb hby d8_10) rfl rfl k') ?_
  show Go p e below _ (T102.setTop (mkF m 11 #[.val (.ref a), .val (.ref t)] [(.ref a)]))
  refine Go.st (fun t' k' => XS.aloadN X102.here hx rfl (hb hby d8_11) rfl rfl k') ?_
  show Go p e below _ (T102.setTop (mkF m 12 #[.val (.ref a), .val (.ref t)] [(.ref t), (.ref a)]))
  refine Go.st (fun t' k' => XS.aloadN X102.here hx rfl (hb hby d8_12) rfl rfl k') ?_
  show Go p e below _ (T102.setTop (mkF m 13 #[.val (.ref a), .val (.ref t)] [(.ref a), (.ref t), (.ref a)]))
  obtain ⟨T104, X104, e104, st104⟩ := getF X102 hx hZ hown (host := "") (Or.inl (hw _ (List.mem_of_getElem? (i := 65) rfl))) Via.refl e102 Fe_h103 (g := (mkF m 13 #[.val (.ref a), .val (.ref t)] [(.ref a), (.ref t), (.ref a)])) rfl rfl (hb hby d8_13)
  refine Go.st st104 ?_
  show Go p e below _ (T104.setTop (mkF m 16 #[.val (.ref a), .val (.ref t)] [(.ref w_DEF), (.ref t), (.ref a)]))
  refine Go.st (fun t' k' => XS.aloadN X104.here hx rfl (hb hby d8_16) rfl rfl k') ?_
  show Go p e below _ (T104.setTop (mkF m 17 #[.val (.ref a), .val (.ref t)] [(.ref a), (.ref w_DEF), (.ref t), (.ref a)]))
  obtain ⟨T105, X105, e105, st105⟩ := getF X104 hx hZ hown (host := "") (Or.inl (hw _ (List.mem_of_getElem? (i := 74) rfl))) Via.refl e104 Fs_h103 (g := (mkF m 17 #[.val (.ref a), .val (.ref t)] [(.ref a), (.ref w_DEF), (.ref t), (.ref a)])) rfl rfl (hb hby d8_17)
  refine Go.st st105 ?_
  show Go p e below _ (T105.setTop (mkF m 20 #[.val (.ref a), .val (.ref t)] [(.int (0 : Int32)), (.ref w_DEF), (.ref t), (.ref a)]))
  obtain ⟨cq106, q106, q106'⟩ := Ea_h103.cell
  obtain ⟨_, _, ⟨T106, L106, k106, n106⟩, -, X106, ⟨Lc106, hQ106, l106, y106, z106⟩, st106⟩ := X105.privateBack hx (y := (⟨"java/util/ArrayList", "add", "(Ljava/lang/Object;[Ljava/lang/Object;I)V"⟩ : MethodName)) hown (mvT hZ (hw _ (List.mem_of_getElem? (i := 76) rfl))) (mvT hZ (hw _ (List.mem_of_getElem? (i := 77) rfl))) (mvT hZ (hw _ (List.mem_of_getElem? (i := 79) rfl))) (Cond.privateMethod_at (mvP hZ (hw _ (List.mem_of_getElem? (i := 78) rfl)) (args := #[]))) (mvT hZ (hw _ (List.mem_of_getElem? (i := 80) rfl))) (by decide) (backOf (W := 0) (rmAdd3 l Z a0 hw [] a t w_DEF k_DEF ((1 : Int32)) h102 O102 S_DEF A_DEF Ea_h103 Ga Et_h103 Nta Fe_h103 Fs_h103 Fw102) hZ (hw _ (List.mem_of_getElem? (i := 80) rfl)) (hw _ (List.mem_of_getElem? (i := 45) rfl)) (by decide) (by decide)) (g := (mkF m 20 #[.val (.ref a), .val (.ref t)] [(.int (0 : Int32)), (.ref w_DEF), (.ref t), (.ref a)])) rfl (by rw [hml]; rfl) (Steps.refl _) (a := a) (by rw [e105]; exact q106) q106' (argsL := [(.ref t), (.ref w_DEF), (.int (0 : Int32))]) (rest := []) (lenOf pd__Ljava_lang_Object__Ljava_lang_Object_I_V rfl) rfl (by show 2 * 0 + _ ≤ _; exact Nat.le_of_eq rfl) (hb hby d8_20) (fun _ _ => ⟨rfl, e105, (by decide : 0 + 1 ≤ _), (by decide : 0 + 10 ≤ _)⟩)
  dsimp only [Pt.U, Pt.locs, Pt.cells, Pt.slots] at X106 l106 y106 z106 st106 hQ106
  subst l106 y106 z106
  obtain ⟨b_106, kb_106, rfl, N106q, O106, Kc106, Pe_106, Ps_106, Pm_106, Vb_106, Gb_106, Sb_106, Nab_106⟩ := hQ106
  have N106 := Fr.app N102 N106q
  refine Go.tr st106 ?_
  have Ea_h107 := Ea_h103.keep Kc106
  have Et_h107 := Et_h103.keep Kc106
  have K106 := K102.trans Kc106 (allS (Or.inl (List.mem_of_getElem? (i := 0) rfl)) all0)
  have ne_w_DEF_b_106 : w_DEF ≠ b_106 := Nat.ne_of_lt (Nat.lt_of_lt_of_le (A_DEF.ext O102).lt Sb_106)
  have ne_t_b_106 : t ≠ b_106 := Nat.ne_of_lt (Nat.lt_of_lt_of_le Et_h103.lt Sb_106)
  have sz_b_106 : h0.size ≤ b_106 := Nat.le_trans K102.1 Sb_106
  show Go p e below _ (T106.setTop (mkF m 23 #[.val (.ref a), .val (.ref t)] []))
  refine Go.st (fun t' k' => XS.iconst X106.here hx rfl (hb hby d8_23) k') ?_
  show Go p e below _ (T106.setTop (mkF m 24 #[.val (.ref a), .val (.ref t)] [(.int (1 : Int32))]))
  exact Go.outN X106 hx hlk (t := .boolean) hret (by simp) (hb hby d8_24) (Q := Q_rmAdd1 Z a t w_DEF k_DEF h0) (⟨b_106, kb_106, rfl, N106, O106, K106, Pe_106, Ps_106, Pm_106, Vb_106, Gb_106, sz_b_106, Nab_106⟩) (by decide) (by decide)
theorem ef_rmItI (m : MethodId) (x0 : Addr) (x1 : Addr) : entryFrame m #[(.ref x0), (.ref x1)] 2 = mkF m 0 #[.val (.ref x0), .val (.ref x1)] [] := by first | (simp [entryFrame, mkF, argsToLocals, Value.category]; done) | rfl
def Q_rmItI (Z : State) (a : Addr) (li : Addr) (mm : Int32) (h0 : Heap) (v : Option Value) (h : Heap) (L : List Loc) : Prop := v = none ∧ Fr Z.heap.size L ∧ Ext Z.heap h ∧ Keep h0 h [a] ∧ Fld Z h a "java/util/ArrayList$Itr" "this$0" "Ljava/util/ArrayList;" (.ref li) ∧ Fld Z h a "java/util/ArrayList$Itr" "cursor" "I" (.int (0 : Int32)) ∧ Fld Z h a "java/util/ArrayList$Itr" "lastRet" "I" (.int (-1 : Int32)) ∧ Fld Z h a "java/util/ArrayList$Itr" "expectedModCount" "I" (.int mm)
theorem pn_java_util_ArrayList_Itr : plainName "java/util/ArrayList$Itr" = true := by first | (simp [plainName, overriddenIn]; done) | decide +kernel
theorem d15_0 : decode jdk_49_method_1_code 0 = .ok (.aload_n 0, 1) := by decide +kernel
theorem d15_1 : decode jdk_49_method_1_code 1 = .ok (.aload_n 1, 1) := by decide +kernel
theorem d15_2 : decode jdk_49_method_1_code 2 = .ok (.putfield 1, 3) := by decide +kernel
theorem d15_5 : decode jdk_49_method_1_code 5 = .ok (.aload_n 0, 1) := by decide +kernel
theorem d15_6 : decode jdk_49_method_1_code 6 = .ok (.invokespecial 7, 3) := by decide +kernel
theorem d15_9 : decode jdk_49_method_1_code 9 = .ok (.aload_n 0, 1) := by decide +kernel
theorem d15_10 : decode jdk_49_method_1_code 10 = .ok (.iconst (-1), 1) := by decide +kernel
theorem d15_11 : decode jdk_49_method_1_code 11 = .ok (.putfield 13, 3) := by decide +kernel
theorem d15_14 : decode jdk_49_method_1_code 14 = .ok (.aload_n 0, 1) := by decide +kernel
theorem d15_15 : decode jdk_49_method_1_code 15 = .ok (.aload_n 0, 1) := by decide +kernel
theorem d15_16 : decode jdk_49_method_1_code 16 = .ok (.getfield 1, 3) := by decide +kernel
theorem d15_19 : decode jdk_49_method_1_code 19 = .ok (.getfield 17, 3) := by decide +kernel
theorem d15_22 : decode jdk_49_method_1_code 22 = .ok (.putfield 22, 3) := by decide +kernel
theorem d15_25 : decode jdk_49_method_1_code 25 = .ok (.return_, 1) := by decide +kernel
set_option maxRecDepth 65536 in
set_option maxHeartbeats 40000000 in
theorem rmItI (l : Launch) (Z : State) (a0 : Array Value) (hw : ∀ d ∈ tables_1, d.before a0 Z = true) (ws : List Jvm.Cond) (a : Addr) (li : Addr) (mm : Int32) (h0 : Heap) (O0 : Ext Z.heap h0) (Ea : Exa Z h0 a "java/util/ArrayList$Itr") (Ga : Z.heap.size ≤ a) (Ft : Fld Z h0 a "java/util/ArrayList$Itr" "this$0" "Ljava/util/ArrayList;" .null) (Fc : Fld Z h0 a "java/util/ArrayList$Itr" "cursor" "I" (.int (0 : Int32))) (Flr : Fld Z h0 a "java/util/ArrayList$Itr" "lastRet" "I" (.int (0 : Int32))) (Fx : Fld Z h0 a "java/util/ArrayList$Itr" "expectedModCount" "I" (.int (0 : Int32))) (Fm : Fld Z h0 li "java/util/AbstractList" "modCount" "I" (.int mm)) (Nla : li ≠ a) :
    MetFree l (⟨"java/util/ArrayList$Itr", "<init>", "(Ljava/util/ArrayList;)V"⟩ : MethodName) (head1 (Jvm.Cond.code (⟨"java/util/ArrayList$Itr", "<init>", "(Ljava/util/ArrayList;)V"⟩ : MethodName) jdk_49_method_1_code 2 none :: ws) ({ frames := 1, cells := 0, slots := 0, locals := 16 } : Room)) (fun av' U => av' = #[(.ref a), (.ref li)] ∧ Z.Warmed39 U.vm ∧ U.heap = h0) (fun _ _ _ _ _ => True) (fun _ U o U' => ∃ v L, o = .returned v ∧ Q_rmItI Z a li mm h0 v U'.heap L ∧ FrameEnd U o U' L ({ frames := 1, cells := 0, slots := 0, locals := 16 } : Room).cells ({ frames := 1, cells := 0, slots := 0, locals := 16 } : Room).slots) := by
  refine MetFree.of_bodySF (plainFor_of_name pn_java_util_ArrayList_Itr) hisR ?_
  intro p e s m args below meth c s₁ Bd hml0 hP hK
  obtain ⟨rfl, hZ, hh⟩ := hP
  have hx := Bd.exec
  have hby := Bd.bytes
  have hret := Bd.returns
  have hlk : meth.locks = false := Bd.notSynchronized
  have hml : c.maxLocals = 2 := hml0
  have hown : s.vm.findClass "java/util/ArrayList$Itr" = some m.cls := findClass_of_methodNamed Bd.named
  have hnm := (name_of_methodNamed Bd.named Bd.method).1
  have X0 : Stand p l e ({ frames := 1, cells := 0, slots := 0, locals := 16 } : Room) s m #[(.ref a), (.ref li)] below meth c s₁ [] 0 0 := Stand.of_body Bd
  -- the walk
  have e0 : s₁.heap = h0 := by rw [← hh, Bd.state]; rfl
  have N0 := Fr.nil Z.heap.size
  have K0 := Keep.refl h0 [a]
  show Go p e below (GO s (Q_rmItI Z a li mm h0) ({ frames := 1, cells := 0, slots := 0, locals := 16 } : Room).cells ({ frames := 1, cells := 0, slots := 0, locals := 16 } : Room).slots) (s₁.setTop (entryFrame m #[(.ref a), (.ref li)] 2))
  refine Go.st (fun t' k' => castTop (ef_rmItI m a li) k') ?_
  show Go p e below _ (s₁.setTop (mkF m 0 #[.val (.ref a), .val (.ref li)] []))
  refine Go.st (fun t' k' => XS.aloadN X0.here hx rfl (hb hby d15_0) rfl rfl k') ?_
  show Go p e below _ (s₁.setTop (mkF m 1 #[.val (.ref a), .val (.ref li)] [(.ref a)]))
  refine Go.st (fun t' k' => XS.aloadN X0.here hx rfl (hb hby d15_1) rfl rfl k') ?_
  show Go p e below _ (s₁.setTop (mkF m 2 #[.val (.ref a), .val (.ref li)] [(.ref li), (.ref a)]))
  obtain ⟨T101, h101, X101, e101, W101, st101⟩ := putF X0 hx hZ hown (host := "") (Or.inl (hw _ (List.mem_of_getElem? (i := 117) rfl))) Via.refl e0 Ft Ea (Or.inr ⟨(hw _ (List.mem_of_getElem? (i := 118) rfl)), rfl, hnm⟩) (hw _ (List.mem_of_getElem? (i := 111) rfl)) (ty := (.object "java/util/ArrayList")) (by decide) rfl rfl (g := (mkF m 2 #[.val (.ref a), .val (.ref li)] [(.ref li), (.ref a)])) rfl rfl (hb hby d15_2)
  refine Go.st st101 ?_
  have Fw101 : Fld Z h101 a "java/util/ArrayList$Itr" "this$0" "Ljava/util/ArrayList;" (.ref li) := Ft.same W101
  have Ea_h102 := Ea.wr W101
  have Fc_h102 := Fc.other W101 (Or.inr (slot_ne (Or.inl (hw _ (List.mem_of_getElem? (i := 135) rfl))) (Or.inr (hw _ (List.mem_of_getElem? (i := 118) rfl))) (by decide) (t := .int) (t' := (.object "java/util/ArrayList")) (by decide) (by decide)))
  have Flr_h102 := Flr.other W101 (Or.inr (slot_ne (Or.inl (hw _ (List.mem_of_getElem? (i := 121) rfl))) (Or.inr (hw _ (List.mem_of_getElem? (i := 118) rfl))) (by decide) (t := .int) (t' := (.object "java/util/ArrayList")) (by decide) (by decide)))
  have Fx_h102 := Fx.other W101 (Or.inr (slot_ne (Or.inl (hw _ (List.mem_of_getElem? (i := 124) rfl))) (Or.inr (hw _ (List.mem_of_getElem? (i := 118) rfl))) (by decide) (t := .int) (t' := (.object "java/util/ArrayList")) (by decide) (by decide)))
  have Fm_h102 := Fm.other W101 (Or.inl Nla)
  have O101 := own_ext_wr O0 W101 Ga
  have K101 := K0.wr W101 (Or.inl (List.mem_of_getElem? (i := 0) rfl))
  have N101 := Fr.snoc X101 N0 Ga
  show Go p e below _ (T101.setTop (mkF m 5 #[.val (.ref a), .val (.ref li)] []))
  refine Go.st (fun t' k' => XS.aloadN X101.here hx rfl (hb hby d15_5) rfl rfl k') ?_
  show Go p e below _ (T101.setTop (mkF m 6 #[.val (.ref a), .val (.ref li)] [(.ref a)]))
  obtain ⟨T103, X103, e103, st103⟩ := initO X101 hx hZ hown (hw _ (List.mem_of_getElem? (i := 119) rfl)) (hw _ (List.mem_of_getElem? (i := 7) rfl)) (hw _ (List.mem_of_getElem? (i := 8) rfl)) e101 (g := (mkF m 6 #[.val (.ref a), .val (.ref li)] [(.ref a)])) rfl (by rw [hml]; rfl) rfl (hb hby d15_6) (by decide) (W := 0) (by show 2 * 0 + _ ≤ _; exact Nat.le_of_eq rfl) (by decide)
  refine Go.st st103 ?_
  show Go p e below _ (T103.setTop (mkF m 9 #[.val (.ref a), .val (.ref li)] []))
  refine Go.st (fun t' k' => XS.aloadN X103.here hx rfl (hb hby d15_9) rfl rfl k') ?_
  show Go p e below _ (T103.setTop (mkF m 10 #[.val (.ref a), .val (.ref li)] [(.ref a)]))
  refine Go.st (fun t' k' => XS.iconst X103.here hx rfl (hb hby d15_10) k') ?_
  show Go p e below _ (T103.setTop (mkF m 11 #[.val (.ref a), .val (.ref li)] [(.int (-1 : Int32)), (.ref a)]))
  obtain ⟨T104, h104, X104, e104, W104, st104⟩ := putF X103 hx hZ hown (host := "") (Or.inl (hw _ (List.mem_of_getElem? (i := 120) rfl))) Via.refl e103 Flr_h102 Ea_h102 (Or.inl (hw _ (List.mem_of_getElem? (i := 121) rfl))) (hw _ (List.mem_of_getElem? (i := 111) rfl)) (ty := .int) (by decide) rfl rfl (g := (mkF m 11 #[.val (.ref a), .val (.ref li)] [(.int (-1 : Int32)), (.ref a)])) rfl rfl (hb hby d15_11)
  refine Go.st st104 ?_
  have Fw104 : Fld Z h104 a "java/util/ArrayList$Itr" "lastRet" "I" (.int (-1 : Int32)) := Flr_h102.same W104
  have Ea_h105 := Ea_h102.wr W104
  have Fc_h105 := Fc_h102.other W104 (Or.inr (slot_ne (Or.inl (hw _ (List.mem_of_getElem? (i := 135) rfl))) (Or.inl (hw _ (List.mem_of_getElem? (i := 121) rfl))) (by decide) (t := .int) (t' := .int) (by decide) (by decide)))
  have Fx_h105 := Fx_h102.other W104 (Or.inr (slot_ne (Or.inl (hw _ (List.mem_of_getElem? (i := 124) rfl))) (Or.inl (hw _ (List.mem_of_getElem? (i := 121) rfl))) (by decide) (t := .int) (t' := .int) (by decide) (by decide)))
  have Fm_h105 := Fm_h102.other W104 (Or.inl Nla)
  have Fw101_h105 := Fw101.other W104 (Or.inr (slot_ne (Or.inr (hw _ (List.mem_of_getElem? (i := 118) rfl))) (Or.inl (hw _ (List.mem_of_getElem? (i := 121) rfl))) (by decide) (t := (.object "java/util/ArrayList")) (t' := .int) (by decide) (by decide)))
  have O104 := own_ext_wr O101 W104 Ga
  have K104 := K101.wr W104 (Or.inl (List.mem_of_getElem? (i := 0) rfl))
  have N104 := Fr.snoc X104 N101 Ga
  show Go p e below _ (T104.setTop (mkF m 14 #[.val (.ref a), .val (.ref li)] []))
  refine Go.st (fun t' k' => XS.aloadN X104.here hx rfl (hb hby d15_14) rfl rfl k') ?_
  show Go p e below _ (T104.setTop (mkF m 15 #[.val (.ref a), .val (.ref li)] [(.ref a)]))
  refine Go.st (fun t' k' => XS.aloadN X104.here hx rfl (hb hby d15_15) rfl rfl k') ?_
  show Go p e below _ (T104.setTop (mkF m 16 #[.val (.ref a), .val (.ref li)] [(.ref a), (.ref a)]))
  obtain ⟨T106, X106, e106, st106⟩ := getF X104 hx hZ hown (host := "") (Or.inl (hw _ (List.mem_of_getElem? (i := 117) rfl))) Via.refl e104 Fw101_h105 (g := (mkF m 16 #[.val (.ref a), .val (.ref li)] [(.ref a), (.ref a)])) rfl rfl (hb hby d15_16)
  refine Go.st st106 ?_
  show Go p e below _ (T106.setTop (mkF m 19 #[.val (.ref a), .val (.ref li)] [(.ref li), (.ref a)]))
  obtain ⟨T107, X107, e107, st107⟩ := getF X106 hx hZ hown (host := "") (Or.inl (hw _ (List.mem_of_getElem? (i := 122) rfl))) (Via.of (hw _ (List.mem_of_getElem? (i := 73) rfl))) e106 Fm_h105 (g := (mkF m 19 #[.val (.ref a), .val (.ref li)] [(.ref li), (.ref a)])) rfl rfl (hb hby d15_19)
  refine Go.st st107 ?_
  show Go p e below _ (T107.setTop (mkF m 22 #[.val (.ref a), .val (.ref li)] [(.int mm), (.ref a)]))
  obtain ⟨T108, h108, X108, e108, W108, st108⟩ := putF X107 hx hZ hown (host := "") (Or.inl (hw _ (List.mem_of_getElem? (i := 123) rfl))) Via.refl e107 Fx_h105 Ea_h105 (Or.inl (hw _ (List.mem_of_getElem? (i := 124) rfl))) (hw _ (List.mem_of_getElem? (i := 111) rfl)) (ty := .int) (by decide) rfl rfl (g := (mkF m 22 #[.val (.ref a), .val (.ref li)] [(.int mm), (.ref a)])) rfl rfl (hb hby d15_22)
  refine Go.st st108 ?_
  have Fw108 : Fld Z h108 a "java/util/ArrayList$Itr" "expectedModCount" "I" (.int mm) := Fx_h105.same W108
  have Ea_h109 := Ea_h105.wr W108
  have Fc_h109 := Fc_h105.other W108 (Or.inr (slot_ne (Or.inl (hw _ (List.mem_of_getElem? (i := 135) rfl))) (Or.inl (hw _ (List.mem_of_getElem? (i := 124) rfl))) (by decide) (t := .int) (t' := .int) (by decide) (by decide)))
  have Fm_h109 := Fm_h105.other W108 (Or.inl Nla)
  have Fw101_h109 := Fw101_h105.other W108 (Or.inr (slot_ne (Or.inr (hw _ (List.mem_of_getElem? (i := 118) rfl))) (Or.inl (hw _ (List.mem_of_getElem? (i := 124) rfl))) (by decide) (t := (.object "java/util/ArrayList")) (t' := .int) (by decide) (by decide)))
  have Fw104_h109 := Fw104.other W108 (Or.inr (slot_ne (Or.inl (hw _ (List.mem_of_getElem? (i := 121) rfl))) (Or.inl (hw _ (List.mem_of_getElem? (i := 124) rfl))) (by decide) (t := .int) (t' := .int) (by decide) (by decide)))
  have O108 := own_ext_wr O104 W108 Ga
  have K108 := K104.wr W108 (Or.inl (List.mem_of_getElem? (i := 0) rfl))
  have N108 := Fr.snoc X108 N104 Ga
  show Go p e below _ (T108.setTop (mkF m 25 #[.val (.ref a), .val (.ref li)] []))
  exact Go.outU X108 hx hlk hret (hb hby d15_25) (Q := Q_rmItI Z a li mm h0) (by rw [e108]; exact ⟨rfl, N108, O108, K108, Fw101_h109, Fc_h109, Fw104_h109, Fw108⟩) (by decide) (by decide)
theorem ef_rmIter (m : MethodId) (x0 : Addr) : entryFrame m #[(.ref x0)] 1 = mkF m 0 #[.val (.ref x0)] [] := by first | (simp [entryFrame, mkF, argsToLocals, Value.category]; done) | rfl
def Q_rmIter (Z : State) (li : Addr) (mm : Int32) (h0 : Heap) (v : Option Value) (h : Heap) (L : List Loc) : Prop := ∃ b : Addr, v = some (.ref b) ∧ Fr Z.heap.size L ∧ Ext Z.heap h ∧ Keep h0 h [] ∧ Exa Z h b "java/util/ArrayList$Itr" ∧ Z.heap.size ≤ b ∧ h0.size ≤ b ∧ Fld Z h b "java/util/ArrayList$Itr" "this$0" "Ljava/util/ArrayList;" (.ref li) ∧ Fld Z h b "java/util/ArrayList$Itr" "cursor" "I" (.int (0 : Int32)) ∧ Fld Z h b "java/util/ArrayList$Itr" "lastRet" "I" (.int (-1 : Int32)) ∧ Fld Z h b "java/util/ArrayList$Itr" "expectedModCount" "I" (.int mm)
theorem d14_0 : decode jdk_38_method_55_code 0 = .ok (.new 267, 3) := by decide +kernel
theorem d14_3 : decode jdk_38_method_55_code 3 = .ok (.dup, 1) := by decide +kernel
theorem d14_4 : decode jdk_38_method_55_code 4 = .ok (.aload_n 0, 1) := by decide +kernel
theorem d14_5 : decode jdk_38_method_55_code 5 = .ok (.invokespecial 269, 3) := by decide +kernel
theorem pd__Ljava_util_ArrayList__V : parseMethodDescriptor "(Ljava/util/ArrayList;)V" = some ⟨[(.object "java/util/ArrayList")], none⟩ := by decide +kernel
theorem d14_8 : decode jdk_38_method_55_code 8 = .ok (.areturn, 1) := by decide +kernel
set_option maxRecDepth 65536 in
set_option maxHeartbeats 40000000 in
theorem rmIter (l : Launch) (Z : State) (a0 : Array Value) (hw : ∀ d ∈ tables_1, d.before a0 Z = true) (ws : List Jvm.Cond) (li : Addr) (mm : Int32) (h0 : Heap) (O0 : Ext Z.heap h0) (Fm : Fld Z h0 li "java/util/AbstractList" "modCount" "I" (.int mm)) :
    MetFree l (⟨"java/util/ArrayList", "iterator", "()Ljava/util/Iterator;"⟩ : MethodName) (head1 (Jvm.Cond.code (⟨"java/util/ArrayList", "iterator", "()Ljava/util/Iterator;"⟩ : MethodName) jdk_38_method_55_code 1 (some (.object "java/util/Iterator")) :: ws) ({ frames := 2, cells := 1, slots := 4, locals := 40 } : Room)) (fun av' U => av' = #[(.ref li)] ∧ Z.Warmed39 U.vm ∧ U.heap = h0) (fun _ _ _ _ _ => True) (fun _ U o U' => ∃ v L, o = .returned v ∧ Q_rmIter Z li mm h0 v U'.heap L ∧ FrameEnd U o U' L ({ frames := 2, cells := 1, slots := 4, locals := 40 } : Room).cells ({ frames := 2, cells := 1, slots := 4, locals := 40 } : Room).slots) := by
  refine MetFree.of_bodySF (plainFor_of_name pn_java_util_ArrayList) hisR ?_
  intro p e s m args below meth c s₁ Bd hml0 hP hK
  obtain ⟨rfl, hZ, hh⟩ := hP
  have hx := Bd.exec
  have hby := Bd.bytes
  have hret := Bd.returns
  have hlk : meth.locks = false := Bd.notSynchronized
  have hml : c.maxLocals = 1 := hml0
  have hown : s.vm.findClass "java/util/ArrayList" = some m.cls := findClass_of_methodNamed Bd.named
  have hnm := (name_of_methodNamed Bd.named Bd.method).1
  have X0 : Stand p l e ({ frames := 2, cells := 1, slots := 4, locals := 40 } : Room) s m #[(.ref li)] below meth c s₁ [] 0 0 := Stand.of_body Bd
  -- the walk
  have e0 : s₁.heap = h0 := by rw [← hh, Bd.state]; rfl
  have N0 := Fr.nil Z.heap.size
  have K0 := Keep.refl h0 []
  show Go p e below (GO s (Q_rmIter Z li mm h0) ({ frames := 2, cells := 1, slots := 4, locals := 40 } : Room).cells ({ frames := 2, cells := 1, slots := 4, locals := 40 } : Room).slots) (s₁.setTop (entryFrame m #[(.ref li)] 1))
  refine Go.st (fun t' k' => castTop (ef_rmIter m li) k') ?_
  show Go p e below _ (s₁.setTop (mkF m 0 #[.val (.ref li)] []))
  obtain ⟨T101, h101, X101, e101, E101, A101, D101, -, st101⟩ := newO X0 hx hZ hown (hw _ (List.mem_of_getElem? (i := 110) rfl)) (hw _ (List.mem_of_getElem? (i := 111) rfl)) (hw _ (List.mem_of_getElem? (i := 112) rfl)) e0 (g := (mkF m 0 #[.val (.ref li)] [])) rfl (hb hby d14_0) (by decide) (by decide)
  obtain ⟨b101, g101⟩ : ∃ z, z = h0.size := ⟨_, rfl⟩
  rw [← g101] at A101 D101 st101
  refine Go.st st101 ?_
  have ne_li_b101 : li ≠ b101 := Nat.ne_of_lt (Nat.lt_of_lt_of_le Fm.lt (Nat.le_of_eq g101.symm))
  have g_b101 : Z.heap.size ≤ b101 := Nat.le_trans O0.1 (Nat.le_of_eq g101.symm)
  have sz_b101 : h0.size ≤ b101 := Nat.le_trans K0.1 (Nat.le_of_eq g101.symm)
  have Fm_h102 := Fm.ext E101
  have O101 := own_ext_trans O0 E101
  have K101 := K0.ext E101
  have F_this_0_b101 : Fld Z h101 b101 "java/util/ArrayList$Itr" "this$0" "Ljava/util/ArrayList;" .null := D101 (Or.inr (hw _ (List.mem_of_getElem? (i := 118) rfl))) (ty := (.object "java/util/ArrayList")) (by decide)
  have F_lastRet_b101 : Fld Z h101 b101 "java/util/ArrayList$Itr" "lastRet" "I" (.int (0 : Int32)) := D101 (Or.inl (hw _ (List.mem_of_getElem? (i := 121) rfl))) (ty := .int) (by decide)
  have F_expectedModCount_b101 : Fld Z h101 b101 "java/util/ArrayList$Itr" "expectedModCount" "I" (.int (0 : Int32)) := D101 (Or.inl (hw _ (List.mem_of_getElem? (i := 124) rfl))) (ty := .int) (by decide)
  have F_cursor_b101 : Fld Z h101 b101 "java/util/ArrayList$Itr" "cursor" "I" (.int (0 : Int32)) := D101 (Or.inl (hw _ (List.mem_of_getElem? (i := 135) rfl))) (ty := .int) (by decide)
  show Go p e below _ (T101.setTop (mkF m 3 #[.val (.ref li)] [(.ref b101)]))
  refine Go.st (fun t' k' => XS.dup X101.here hx rfl (hb hby d14_3) rfl rfl k') ?_
  show Go p e below _ (T101.setTop (mkF m 4 #[.val (.ref li)] [(.ref b101), (.ref b101)]))
  refine Go.st (fun t' k' => XS.aloadN X101.here hx rfl (hb hby d14_4) rfl rfl k') ?_
  show Go p e below _ (T101.setTop (mkF m 5 #[.val (.ref li)] [(.ref li), (.ref b101), (.ref b101)]))
  obtain ⟨_, _, ⟨T103, L103, k103, n103⟩, -, X103, ⟨Lc103, hQ103, l103, y103, z103⟩, st103⟩ := X101.specialBack hx (y := (⟨"java/util/ArrayList$Itr", "<init>", "(Ljava/util/ArrayList;)V"⟩ : MethodName)) rfl hown (mvT hZ (hw _ (List.mem_of_getElem? (i := 113) rfl))) (mvT hZ (hw _ (List.mem_of_getElem? (i := 114) rfl))) (mvT hZ (hw _ (List.mem_of_getElem? (i := 116) rfl))) (by decide) (backOf (W := 1) (rmItI l Z a0 hw [] b101 li mm h101 O101 A101 g_b101 F_this_0_b101 F_cursor_b101 F_lastRet_b101 F_expectedModCount_b101 Fm_h102 ne_li_b101) hZ (hw _ (List.mem_of_getElem? (i := 116) rfl)) (hw _ (List.mem_of_getElem? (i := 112) rfl)) (by decide) (by decide)) (g := (mkF m 5 #[.val (.ref li)] [(.ref li), (.ref b101), (.ref b101)])) rfl (by rw [hml]; rfl) (Steps.refl _) (a := b101) (argsL := [(.ref li)]) (rest := [(.ref b101)]) (lenOf pd__Ljava_util_ArrayList__V rfl) rfl (by show 2 * 0 + _ ≤ _; exact Nat.le_of_eq rfl) (hb hby d14_5) (fun _ _ => ⟨rfl, e101, (by decide : 1 + 0 ≤ _), (by decide : 4 + 0 ≤ _)⟩)
  dsimp only [Pt.U, Pt.locs, Pt.cells, Pt.slots] at X103 l103 y103 z103 st103 hQ103
  subst l103 y103 z103
  obtain ⟨rfl, N103q, O103, Kc103, Pt_103, Pc_103, Plr_103, Px_103⟩ := hQ103
  have N103 := Fr.app N0 N103q
  refine Go.tr st103 ?_
  have Fm_h104 := Fm_h102.keep Kc103 (ninS ne_li_b101 nin0)
  have A101_h104 := A101.keep Kc103
  have K103 := K101.trans Kc103 (allS (Or.inr sz_b101) all0)
  show Go p e below _ (T103.setTop (mkF m 8 #[.val (.ref li)] [(.ref b101)]))
  exact Go.outR X103 hx hlk hret rfl rfl (hb hby d14_8) (Q := Q_rmIter Z li mm h0) (⟨b101, rfl, N103, O103, K103, A101_h104, g_b101, sz_b101, Pt_103, Pc_103, Plr_103, Px_103⟩) (by decide) (by decide)
theorem ef_rmHas (m : MethodId) (x0 : Addr) : entryFrame m #[(.ref x0)] 1 = mkF m 0 #[.val (.ref x0)] [] := by first | (simp [entryFrame, mkF, argsToLocals, Value.category]; done) | rfl
def Q_rmHas (Z : State) (a : Addr) (li : Addr) (cu : Int32) (sz : Int32) (h0 : Heap) (v : Option Value) (h : Heap) (L : List Loc) : Prop := v = some (.int (if cu = sz then (0 : Int32) else 1)) ∧ L = [] ∧ h = h0
theorem d16_0 : decode jdk_49_method_2_code 0 = .ok (.aload_n 0, 1) := by decide +kernel
theorem d16_1 : decode jdk_49_method_2_code 1 = .ok (.getfield 25, 3) := by decide +kernel
theorem d16_4 : decode jdk_49_method_2_code 4 = .ok (.aload_n 0, 1) := by decide +kernel
theorem d16_5 : decode jdk_49_method_2_code 5 = .ok (.getfield 1, 3) := by decide +kernel
theorem d16_8 : decode jdk_49_method_2_code 8 = .ok (.getfield 28, 3) := by decide +kernel
theorem d16_11 : decode jdk_49_method_2_code 11 = .ok (.if_icmp .eq 7, 3) := by decide +kernel
theorem d16_18 : decode jdk_49_method_2_code 18 = .ok (.iconst 0, 1) := by decide +kernel
theorem d16_19 : decode jdk_49_method_2_code 19 = .ok (.ireturn, 1) := by decide +kernel
theorem d16_14 : decode jdk_49_method_2_code 14 = .ok (.iconst 1, 1) := by decide +kernel
theorem d16_15 : decode jdk_49_method_2_code 15 = .ok (.goto 4, 3) := by decide +kernel
set_option maxRecDepth 65536 in
set_option maxHeartbeats 40000000 in
theorem rmHas (l : Launch) (Z : State) (a0 : Array Value) (hw : ∀ d ∈ tables_1, d.before a0 Z = true) (ws : List Jvm.Cond) (a : Addr) (li : Addr) (cu : Int32) (sz : Int32) (h0 : Heap) (O0 : Ext Z.heap h0) (Ft : Fld Z h0 a "java/util/ArrayList$Itr" "this$0" "Ljava/util/ArrayList;" (.ref li)) (Fc : Fld Z h0 a "java/util/ArrayList$Itr" "cursor" "I" (.int cu)) (Fs : Fld Z h0 li "java/util/ArrayList" "size" "I" (.int sz)) :
    MetFree l (⟨"java/util/ArrayList$Itr", "hasNext", "()Z"⟩ : MethodName) (head1 (Jvm.Cond.code (⟨"java/util/ArrayList$Itr", "hasNext", "()Z"⟩ : MethodName) jdk_49_method_2_code 1 (some .boolean) :: ws) ({ frames := 0, cells := 0, slots := 0, locals := 0 } : Room)) (fun av' U => av' = #[(.ref a)] ∧ Z.Warmed39 U.vm ∧ U.heap = h0) (fun _ _ _ _ _ => True) (fun _ U o U' => ∃ v L, o = .returned v ∧ Q_rmHas Z a li cu sz h0 v U'.heap L ∧ FrameEnd U o U' L ({ frames := 0, cells := 0, slots := 0, locals := 0 } : Room).cells ({ frames := 0, cells := 0, slots := 0, locals := 0 } : Room).slots) := by
  refine MetFree.of_bodySF (plainFor_of_name pn_java_util_ArrayList_Itr) hisR ?_
  intro p e s m args below meth c s₁ Bd hml0 hP hK
  obtain ⟨rfl, hZ, hh⟩ := hP
  have hx := Bd.exec
  have hby := Bd.bytes
  have hret := Bd.returns
  have hlk : meth.locks = false := Bd.notSynchronized
  have hml : c.maxLocals = 1 := hml0
  have hown : s.vm.findClass "java/util/ArrayList$Itr" = some m.cls := findClass_of_methodNamed Bd.named
  have hnm := (name_of_methodNamed Bd.named Bd.method).1
  have X0 : Stand p l e ({ frames := 0, cells := 0, slots := 0, locals := 0 } : Room) s m #[(.ref a)] below meth c s₁ [] 0 0 := Stand.of_body Bd
  -- the walk
  have e0 : s₁.heap = h0 := by rw [← hh, Bd.state]; rfl
  have N0 := Fr.nil Z.heap.size
  show Go p e below (GO s (Q_rmHas Z a li cu sz h0) ({ frames := 0, cells := 0, slots := 0, locals := 0 } : Room).cells ({ frames := 0, cells := 0, slots := 0, locals := 0 } : Room).slots) (s₁.setTop (entryFrame m #[(.ref a)] 1))
  refine Go.st (fun t' k' => castTop (ef_rmHas m a) k') ?_
  show Go p e below _ (s₁.setTop (mkF m 0 #[.val (.ref a)] []))
  refine Go.st (fun t' k' => XS.aloadN X0.here hx rfl (hb hby d16_0) rfl rfl k') ?_
  show Go p e below _ (s₁.setTop (mkF m 1 #[.val (.ref a)] [(.ref a)]))
  obtain ⟨T101, X101, e101, st101⟩ := getF X0 hx hZ hown (host := "") (Or.inl (hw _ (List.mem_of_getElem? (i := 134) rfl))) Via.refl e0 Fc (g := (mkF m 1 #[.val (.ref a)] [(.ref a)])) rfl rfl (hb hby d16_1)
  refine Go.st st101 ?_
  show Go p e below _ (T101.setTop (mkF m 4 #[.val (.ref a)] [(.int cu)]))
  refine Go.st (fun t' k' => XS.aloadN X101.here hx rfl (hb hby d16_4) rfl rfl k') ?_
  show Go p e below _ (T101.setTop (mkF m 5 #[.val (.ref a)] [(.ref a), (.int cu)]))
  obtain ⟨T102, X102, e102, st102⟩ := getF X101 hx hZ hown (host := "") (Or.inl (hw _ (List.mem_of_getElem? (i := 117) rfl))) Via.refl e101 Ft (g := (mkF m 5 #[.val (.ref a)] [(.ref a), (.int cu)])) rfl rfl (hb hby d16_5)
  refine Go.st st102 ?_
  show Go p e below _ (T102.setTop (mkF m 8 #[.val (.ref a)] [(.ref li), (.int cu)]))
  obtain ⟨T103, X103, e103, st103⟩ := getF X102 hx hZ hown (Or.inr (hw _ (List.mem_of_getElem? (i := 136) rfl))) Via.refl e102 Fs (g := (mkF m 8 #[.val (.ref a)] [(.ref li), (.int cu)])) rfl rfl (hb hby d16_8)
  refine Go.st st103 ?_
  show Go p e below _ (T103.setTop (mkF m 11 #[.val (.ref a)] [(.int sz), (.int cu)]))
  by_cases hc11_104 : cu = sz
  · refine Go.st (fun t' k' => XS.icmpYes X103.here hx rfl (pc0 := 11) (pc' := 18) rfl (hb hby d16_11) rfl (teq hc11_104).1 (by decide) (by decide) k') ?_
    show Go p e below _ (T103.setTop (mkF m 18 #[.val (.ref a)] []))
    refine Go.st (fun t' k' => XS.iconst X103.here hx rfl (hb hby d16_18) k') ?_
    show Go p e below _ (T103.setTop (mkF m 19 #[.val (.ref a)] [(.int (0 : Int32))]))
    exact Go.outN X103 hx hlk (t := .boolean) hret (by simp) (hb hby d16_19) (Q := Q_rmHas Z a li cu sz h0) (by rw [e103]; exact ⟨(by rw [if_pos hc11_104]; rfl), rfl, rfl⟩) (by decide) (by decide)
  · refine Go.st (fun t' k' => XS.icmpNo X103.here hx rfl (hb hby d16_11) rfl (feq hc11_104).1 k') ?_
    show Go p e below _ (T103.setTop (mkF m 14 #[.val (.ref a)] []))
    refine Go.st (fun t' k' => XS.iconst X103.here hx rfl (hb hby d16_14) k') ?_
    show Go p e below _ (T103.setTop (mkF m 15 #[.val (.ref a)] [(.int (1 : Int32))]))
    refine Go.st (fun t' k' => XS.goto X103.here hx rfl (pc0 := 15) (pc' := 19) rfl (hb hby d16_15) (by decide) (by decide) k') ?_
    show Go p e below _ (T103.setTop (mkF m 19 #[.val (.ref a)] [(.int (1 : Int32))]))
    exact Go.outN X103 hx hlk (t := .boolean) hret (by simp) (hb hby d16_19) (Q := Q_rmHas Z a li cu sz h0) (by rw [e103]; exact ⟨(by rw [if_neg hc11_104]; rfl), rfl, rfl⟩) (by decide) (by decide)
theorem ef_rmChk (m : MethodId) (x0 : Addr) : entryFrame m #[(.ref x0)] 1 = mkF m 0 #[.val (.ref x0)] [] := by first | (simp [entryFrame, mkF, argsToLocals, Value.category]; done) | rfl
def Q_rmChk (Z : State) (a : Addr) (li : Addr) (mm : Int32) (h0 : Heap) (v : Option Value) (h : Heap) (L : List Loc) : Prop := v = none ∧ L = [] ∧ h = h0
theorem d18_0 : decode jdk_49_method_6_code 0 = .ok (.aload_n 0, 1) := by decide +kernel
theorem d18_1 : decode jdk_49_method_6_code 1 = .ok (.getfield 1, 3) := by decide +kernel
theorem d18_4 : decode jdk_49_method_6_code 4 = .ok (.getfield 17, 3) := by decide +kernel
theorem d18_7 : decode jdk_49_method_6_code 7 = .ok (.aload_n 0, 1) := by decide +kernel
theorem d18_8 : decode jdk_49_method_6_code 8 = .ok (.getfield 22, 3) := by decide +kernel
theorem d18_11 : decode jdk_49_method_6_code 11 = .ok (.if_icmp .eq 11, 3) := by decide +kernel
theorem d18_22 : decode jdk_49_method_6_code 22 = .ok (.return_, 1) := by decide +kernel
set_option maxRecDepth 65536 in
set_option maxHeartbeats 40000000 in
theorem rmChk (l : Launch) (Z : State) (a0 : Array Value) (hw : ∀ d ∈ tables_1, d.before a0 Z = true) (ws : List Jvm.Cond) (a : Addr) (li : Addr) (mm : Int32) (h0 : Heap) (O0 : Ext Z.heap h0) (Ft : Fld Z h0 a "java/util/ArrayList$Itr" "this$0" "Ljava/util/ArrayList;" (.ref li)) (Fx : Fld Z h0 a "java/util/ArrayList$Itr" "expectedModCount" "I" (.int mm)) (Fm : Fld Z h0 li "java/util/AbstractList" "modCount" "I" (.int mm)) :
    MetFree l (⟨"java/util/ArrayList$Itr", "checkForComodification", "()V"⟩ : MethodName) (head1 (Jvm.Cond.code (⟨"java/util/ArrayList$Itr", "checkForComodification", "()V"⟩ : MethodName) jdk_49_method_6_code 1 none :: ws) ({ frames := 0, cells := 0, slots := 0, locals := 0 } : Room)) (fun av' U => av' = #[(.ref a)] ∧ Z.Warmed39 U.vm ∧ U.heap = h0) (fun _ _ _ _ _ => True) (fun _ U o U' => ∃ v L, o = .returned v ∧ Q_rmChk Z a li mm h0 v U'.heap L ∧ FrameEnd U o U' L ({ frames := 0, cells := 0, slots := 0, locals := 0 } : Room).cells ({ frames := 0, cells := 0, slots := 0, locals := 0 } : Room).slots) := by
  refine MetFree.of_bodySF (plainFor_of_name pn_java_util_ArrayList_Itr) hisR ?_
  intro p e s m args below meth c s₁ Bd hml0 hP hK
  obtain ⟨rfl, hZ, hh⟩ := hP
  have hx := Bd.exec
  have hby := Bd.bytes
  have hret := Bd.returns
  have hlk : meth.locks = false := Bd.notSynchronized
  have hml : c.maxLocals = 1 := hml0
  have hown : s.vm.findClass "java/util/ArrayList$Itr" = some m.cls := findClass_of_methodNamed Bd.named
  have hnm := (name_of_methodNamed Bd.named Bd.method).1
  have X0 : Stand p l e ({ frames := 0, cells := 0, slots := 0, locals := 0 } : Room) s m #[(.ref a)] below meth c s₁ [] 0 0 := Stand.of_body Bd
  -- the walk
  have e0 : s₁.heap = h0 := by rw [← hh, Bd.state]; rfl
  have N0 := Fr.nil Z.heap.size
  show Go p e below (GO s (Q_rmChk Z a li mm h0) ({ frames := 0, cells := 0, slots := 0, locals := 0 } : Room).cells ({ frames := 0, cells := 0, slots := 0, locals := 0 } : Room).slots) (s₁.setTop (entryFrame m #[(.ref a)] 1))
  refine Go.st (fun t' k' => castTop (ef_rmChk m a) k') ?_
  show Go p e below _ (s₁.setTop (mkF m 0 #[.val (.ref a)] []))
  refine Go.st (fun t' k' => XS.aloadN X0.here hx rfl (hb hby d18_0) rfl rfl k') ?_
  show Go p e below _ (s₁.setTop (mkF m 1 #[.val (.ref a)] [(.ref a)]))
  obtain ⟨T101, X101, e101, st101⟩ := getF X0 hx hZ hown (host := "") (Or.inl (hw _ (List.mem_of_getElem? (i := 117) rfl))) Via.refl e0 Ft (g := (mkF m 1 #[.val (.ref a)] [(.ref a)])) rfl rfl (hb hby d18_1)
  refine Go.st st101 ?_
  show Go p e below _ (T101.setTop (mkF m 4 #[.val (.ref a)] [(.ref li)]))
  obtain ⟨T102, X102, e102, st102⟩ := getF X101 hx hZ hown (host := "") (Or.inl (hw _ (List.mem_of_getElem? (i := 122) rfl))) (Via.of (hw _ (List.mem_of_getElem? (i := 73) rfl))) e101 Fm (g := (mkF m 4 #[.val (.ref a)] [(.ref li)])) rfl rfl (hb hby d18_4)
  refine Go.st st102 ?_
  show Go p e below _ (T102.setTop (mkF m 7 #[.val (.ref a)] [(.int mm)]))
  refine Go.st (fun t' k' => XS.aloadN X102.here hx rfl (hb hby d18_7) rfl rfl k') ?_
  show Go p e below _ (T102.setTop (mkF m 8 #[.val (.ref a)] [(.ref a), (.int mm)]))
  obtain ⟨T103, X103, e103, st103⟩ := getF X102 hx hZ hown (host := "") (Or.inl (hw _ (List.mem_of_getElem? (i := 123) rfl))) Via.refl e102 Fx (g := (mkF m 8 #[.val (.ref a)] [(.ref a), (.int mm)])) rfl rfl (hb hby d18_8)
  refine Go.st st103 ?_
  show Go p e below _ (T103.setTop (mkF m 11 #[.val (.ref a)] [(.int mm), (.int mm)]))
  refine Go.st (fun t' k' => XS.icmpYes X103.here hx rfl (pc0 := 11) (pc' := 22) rfl (hb hby d18_11) rfl (teq rfl).1 (by decide) (by decide) k') ?_
  show Go p e below _ (T103.setTop (mkF m 22 #[.val (.ref a)] []))
  exact Go.outU X103 hx hlk hret (hb hby d18_22) (Q := Q_rmChk Z a li mm h0) (by rw [e103]; exact ⟨rfl, rfl, rfl⟩) (by decide) (by decide)
theorem ef_rmNext (m : MethodId) (x0 : Addr) : entryFrame m #[(.ref x0)] 3 = mkF m 0 #[.val (.ref x0), .unset, .unset] [] := by first | (simp [entryFrame, mkF, argsToLocals, Value.category]; done) | rfl
def Q_rmNext (Z : State) (a : Addr) (li : Addr) (d : Addr) (kd : ClassId) (t : Addr) (mm : Int32) (r : Int32) (h0 : Heap) (v : Option Value) (h : Heap) (L : List Loc) : Prop := v = some (.ref t) ∧ Fr Z.heap.size L ∧ Ext Z.heap h ∧ Keep h0 h [a] ∧ Fld Z h a "java/util/ArrayList$Itr" "this$0" "Ljava/util/ArrayList;" (.ref li) ∧ Fld Z h a "java/util/ArrayList$Itr" "cursor" "I" (.int (1 : Int32)) ∧ Fld Z h a "java/util/ArrayList$Itr" "lastRet" "I" (.int (0 : Int32)) ∧ Fld Z h a "java/util/ArrayList$Itr" "expectedModCount" "I" (.int mm)
theorem d17_0 : decode jdk_49_method_3_code 0 = .ok (.aload_n 0, 1) := by decide +kernel
theorem d17_1 : decode jdk_49_method_3_code 1 = .ok (.invokevirtual 31, 3) := by decide +kernel
theorem d17_4 : decode jdk_49_method_3_code 4 = .ok (.aload_n 0, 1) := by decide +kernel
theorem d17_5 : decode jdk_49_method_3_code 5 = .ok (.getfield 25, 3) := by decide +kernel
theorem d17_8 : decode jdk_49_method_3_code 8 = .ok (.istore_n 1, 1) := by decide +kernel
theorem d17_9 : decode jdk_49_method_3_code 9 = .ok (.iload_n 1, 1) := by decide +kernel
theorem d17_10 : decode jdk_49_method_3_code 10 = .ok (.aload_n 0, 1) := by decide +kernel
theorem d17_11 : decode jdk_49_method_3_code 11 = .ok (.getfield 1, 3) := by decide +kernel
theorem d17_14 : decode jdk_49_method_3_code 14 = .ok (.getfield 28, 3) := by decide +kernel
theorem d17_17 : decode jdk_49_method_3_code 17 = .ok (.if_icmp .lt 11, 3) := by decide +kernel
theorem d17_28 : decode jdk_49_method_3_code 28 = .ok (.aload_n 0, 1) := by decide +kernel
theorem d17_29 : decode jdk_49_method_3_code 29 = .ok (.getfield 1, 3) := by decide +kernel
theorem d17_32 : decode jdk_49_method_3_code 32 = .ok (.getfield 37, 3) := by decide +kernel
theorem d17_35 : decode jdk_49_method_3_code 35 = .ok (.astore_n 2, 1) := by decide +kernel
theorem d17_36 : decode jdk_49_method_3_code 36 = .ok (.iload_n 1, 1) := by decide +kernel
theorem d17_37 : decode jdk_49_method_3_code 37 = .ok (.aload_n 2, 1) := by decide +kernel
theorem d17_38 : decode jdk_49_method_3_code 38 = .ok (.arraylength, 1) := by decide +kernel
theorem d17_39 : decode jdk_49_method_3_code 39 = .ok (.if_icmp .lt 11, 3) := by decide +kernel
theorem d17_50 : decode jdk_49_method_3_code 50 = .ok (.aload_n 0, 1) := by decide +kernel
theorem d17_51 : decode jdk_49_method_3_code 51 = .ok (.iload_n 1, 1) := by decide +kernel
theorem d17_52 : decode jdk_49_method_3_code 52 = .ok (.iconst 1, 1) := by decide +kernel
theorem d17_53 : decode jdk_49_method_3_code 53 = .ok (.iadd, 1) := by decide +kernel
theorem d17_54 : decode jdk_49_method_3_code 54 = .ok (.putfield 25, 3) := by decide +kernel
theorem d17_57 : decode jdk_49_method_3_code 57 = .ok (.aload_n 2, 1) := by decide +kernel
theorem d17_58 : decode jdk_49_method_3_code 58 = .ok (.aload_n 0, 1) := by decide +kernel
theorem d17_59 : decode jdk_49_method_3_code 59 = .ok (.iload_n 1, 1) := by decide +kernel
theorem d17_60 : decode jdk_49_method_3_code 60 = .ok (.dup_x1, 1) := by decide +kernel
theorem d17_61 : decode jdk_49_method_3_code 61 = .ok (.putfield 13, 3) := by decide +kernel
theorem d17_64 : decode jdk_49_method_3_code 64 = .ok (.aaload, 1) := by decide +kernel
theorem d17_65 : decode jdk_49_method_3_code 65 = .ok (.areturn, 1) := by decide +kernel
set_option maxRecDepth 65536 in
set_option maxHeartbeats 40000000 in
theorem rmNext (l : Launch) (Z : State) (a0 : Array Value) (hw : ∀ d ∈ tables_1, d.before a0 Z = true) (ws : List Jvm.Cond) (a : Addr) (li : Addr) (d : Addr) (kd : ClassId) (t : Addr) (mm : Int32) (r : Int32) (h0 : Heap) (O0 : Ext Z.heap h0) (Ea : Exa Z h0 a "java/util/ArrayList$Itr") (Ga : Z.heap.size ≤ a) (Ft : Fld Z h0 a "java/util/ArrayList$Itr" "this$0" "Ljava/util/ArrayList;" (.ref li)) (Fc : Fld Z h0 a "java/util/ArrayList$Itr" "cursor" "I" (.int (0 : Int32))) (Flr : Fld Z h0 a "java/util/ArrayList$Itr" "lastRet" "I" (.int r)) (Fx : Fld Z h0 a "java/util/ArrayList$Itr" "expectedModCount" "I" (.int mm)) (Fm : Fld Z h0 li "java/util/AbstractList" "modCount" "I" (.int mm)) (Fs : Fld Z h0 li "java/util/ArrayList" "size" "I" (.int (1 : Int32))) (Fe : Fld Z h0 li "java/util/ArrayList" "elementData" "[Ljava/lang/Object;" (.ref d)) (Vd : Arv Z h0 d kd (.object "java/lang/Object") (10 : Int32) [(.ref t), .null, .null, .null, .null, .null, .null, .null, .null, .null] .null) (Nla : li ≠ a) (Nda : d ≠ a) :
    MetFree l (⟨"java/util/ArrayList$Itr", "next", "()Ljava/lang/Object;"⟩ : MethodName) (head1 (Jvm.Cond.code (⟨"java/util/ArrayList$Itr", "next", "()Ljava/lang/Object;"⟩ : MethodName) jdk_49_method_3_code 3 (some (.object "java/lang/Object")) :: ws) ({ frames := 1, cells := 0, slots := 0, locals := 16 } : Room)) (fun av' U => av' = #[(.ref a)] ∧ Z.Warmed39 U.vm ∧ U.heap = h0) (fun _ _ _ _ _ => True) (fun _ U o U' => ∃ v L, o = .returned v ∧ Q_rmNext Z a li d kd t mm r h0 v U'.heap L ∧ FrameEnd U o U' L ({ frames := 1, cells := 0, slots := 0, locals := 16 } : Room).cells ({ frames := 1, cells := 0, slots := 0, locals := 16 } : Room).slots) := by
  refine MetFree.of_bodySF (plainFor_of_name pn_java_util_ArrayList_Itr) hisR ?_
  intro p e s m args below meth c s₁ Bd hml0 hP hK
  obtain ⟨rfl, hZ, hh⟩ := hP
  have hx := Bd.exec
  have hby := Bd.bytes
  have hret := Bd.returns
  have hlk : meth.locks = false := Bd.notSynchronized
  have hml : c.maxLocals = 3 := hml0
  have hown : s.vm.findClass "java/util/ArrayList$Itr" = some m.cls := findClass_of_methodNamed Bd.named
  have hnm := (name_of_methodNamed Bd.named Bd.method).1
  have X0 : Stand p l e ({ frames := 1, cells := 0, slots := 0, locals := 16 } : Room) s m #[(.ref a)] below meth c s₁ [] 0 0 := Stand.of_body Bd
  -- the walk
  have e0 : s₁.heap = h0 := by rw [← hh, Bd.state]; rfl
  have N0 := Fr.nil Z.heap.size
  have K0 := Keep.refl h0 [a]
  show Go p e below (GO s (Q_rmNext Z a li d kd t mm r h0) ({ frames := 1, cells := 0, slots := 0, locals := 16 } : Room).cells ({ frames := 1, cells := 0, slots := 0, locals := 16 } : Room).slots) (s₁.setTop (entryFrame m #[(.ref a)] 3))
  refine Go.st (fun t' k' => castTop (ef_rmNext m a) k') ?_
  show Go p e below _ (s₁.setTop (mkF m 0 #[.val (.ref a), .unset, .unset] []))
  refine Go.st (fun t' k' => XS.aloadN X0.here hx rfl (hb hby d17_0) rfl rfl k') ?_
  show Go p e below _ (s₁.setTop (mkF m 1 #[.val (.ref a), .unset, .unset] [(.ref a)]))
  obtain ⟨cq101, kq101, q101a, q101b, q101c⟩ := isOf hZ e0 Ea
  obtain ⟨_, _, ⟨T101, L101, k101, n101⟩, -, X101, ⟨Lc101, hQ101, l101, y101, z101⟩, st101⟩ := X0.virtualBack hx (y := (⟨"java/util/ArrayList$Itr", "checkForComodification", "()V"⟩ : MethodName)) (z := (⟨"java/util/ArrayList$Itr", "checkForComodification", "()V"⟩ : MethodName)) hown (mvT hZ (hw _ (List.mem_of_getElem? (i := 145) rfl))) (mvT hZ (hw _ (List.mem_of_getElem? (i := 146) rfl))) (notFace_of_selects (args := #[]) (mvT hZ (hw _ (List.mem_of_getElem? (i := 148) rfl)))) (mvT hZ (hw _ (List.mem_of_getElem? (i := 148) rfl))) (mvT hZ (hw _ (List.mem_of_getElem? (i := 147) rfl))) (by decide) (backOf (W := 0) (rmChk l Z a0 hw [] a li mm h0 O0 Ft Fx Fm) hZ (hw _ (List.mem_of_getElem? (i := 149) rfl)) (hw _ (List.mem_of_getElem? (i := 112) rfl)) (by decide) (by decide)) q101a q101c (g := (mkF m 1 #[.val (.ref a), .unset, .unset] [(.ref a)])) rfl (by rw [hml]; rfl) (Steps.refl _) (argsL := []) (rest := []) (lenOf pd___V rfl) rfl (by show 2 * 0 + _ ≤ _; exact Nat.le_of_eq rfl) (hb hby d17_1) (fun _ _ => ⟨rfl, e0, (by decide : 0 + 0 ≤ _), (by decide : 0 + 0 ≤ _)⟩)
  dsimp only [Pt.U, Pt.locs, Pt.cells, Pt.slots] at X101 l101 y101 z101 st101 hQ101
  subst l101 y101 z101
  obtain ⟨rfl, rfl, e101⟩ := hQ101
  have N101 := Fr.app N0 (Fr.nil _)
  refine Go.tr st101 ?_
  show Go p e below _ (T101.setTop (mkF m 4 #[.val (.ref a), .unset, .unset] []))
  refine Go.st (fun t' k' => XS.aloadN X101.here hx rfl (hb hby d17_4) rfl rfl k') ?_
  show Go p e below _ (T101.setTop (mkF m 5 #[.val (.ref a), .unset, .unset] [(.ref a)]))
  obtain ⟨T102, X102, e102, st102⟩ := getF X101 hx hZ hown (host := "") (Or.inl (hw _ (List.mem_of_getElem? (i := 134) rfl))) Via.refl e101 Fc (g := (mkF m 5 #[.val (.ref a), .unset, .unset] [(.ref a)])) rfl rfl (hb hby d17_5)
  refine Go.st st102 ?_
  show Go p e below _ (T102.setTop (mkF m 8 #[.val (.ref a), .unset, .unset] [(.int (0 : Int32))]))
  refine Go.st (fun t' k' => XS.istoreN X102.here hx rfl (hb hby d17_8) rfl (l' := #[.val (.ref a), .val (.int (0 : Int32)), .unset]) rfl k') ?_
  show Go p e below _ (T102.setTop (mkF m 9 #[.val (.ref a), .val (.int (0 : Int32)), .unset] []))
  refine Go.st (fun t' k' => XS.iloadN X102.here hx rfl (hb hby d17_9) rfl k') ?_
  show Go p e below _ (T102.setTop (mkF m 10 #[.val (.ref a), .val (.int (0 : Int32)), .unset] [(.int (0 : Int32))]))
  refine Go.st (fun t' k' => XS.aloadN X102.here hx rfl (hb hby d17_10) rfl rfl k') ?_
  show Go p e below _ (T102.setTop (mkF m 11 #[.val (.ref a), .val (.int (0 : Int32)), .unset] [(.ref a), (.int (0 : Int32))]))
  obtain ⟨T103, X103, e103, st103⟩ := getF X102 hx hZ hown (host := "") (Or.inl (hw _ (List.mem_of_getElem? (i := 117) rfl))) Via.refl e102 Ft (g := (mkF m 11 #[.val (.ref a), .val (.int (0 : Int32)), .unset] [(.ref a), (.int (0 : Int32))])) rfl rfl (hb hby d17_11)
  refine Go.st st103 ?_
  show Go p e below _ (T103.setTop (mkF m 14 #[.val (.ref a), .val (.int (0 : Int32)), .unset] [(.ref li), (.int (0 : Int32))]))
  obtain ⟨T104, X104, e104, st104⟩ := getF X103 hx hZ hown (Or.inr (hw _ (List.mem_of_getElem? (i := 136) rfl))) Via.refl e103 Fs (g := (mkF m 14 #[.val (.ref a), .val (.int (0 : Int32)), .unset] [(.ref li), (.int (0 : Int32))])) rfl rfl (hb hby d17_14)
  refine Go.st st104 ?_
  show Go p e below _ (T104.setTop (mkF m 17 #[.val (.ref a), .val (.int (0 : Int32)), .unset] [(.int (1 : Int32)), (.int (0 : Int32))]))
  refine Go.st (fun t' k' => XS.icmpYes X104.here hx rfl (pc0 := 17) (pc' := 28) rfl (hb hby d17_17) rfl (tlt (by decide : (0 : Int32) < (1 : Int32))).1 (by decide) (by decide) k') ?_
  show Go p e below _ (T104.setTop (mkF m 28 #[.val (.ref a), .val (.int (0 : Int32)), .unset] []))
  refine Go.st (fun t' k' => XS.aloadN X104.here hx rfl (hb hby d17_28) rfl rfl k') ?_
  show Go p e below _ (T104.setTop (mkF m 29 #[.val (.ref a), .val (.int (0 : Int32)), .unset] [(.ref a)]))
  obtain ⟨T105, X105, e105, st105⟩ := getF X104 hx hZ hown (host := "") (Or.inl (hw _ (List.mem_of_getElem? (i := 117) rfl))) Via.refl e104 Ft (g := (mkF m 29 #[.val (.ref a), .val (.int (0 : Int32)), .unset] [(.ref a)])) rfl rfl (hb hby d17_29)
  refine Go.st st105 ?_
  show Go p e below _ (T105.setTop (mkF m 32 #[.val (.ref a), .val (.int (0 : Int32)), .unset] [(.ref li)]))
  obtain ⟨T106, X106, e106, st106⟩ := getF X105 hx hZ hown (host := "") (Or.inl (hw _ (List.mem_of_getElem? (i := 150) rfl))) Via.refl e105 Fe (g := (mkF m 32 #[.val (.ref a), .val (.int (0 : Int32)), .unset] [(.ref li)])) rfl rfl (hb hby d17_32)
  refine Go.st st106 ?_
  show Go p e below _ (T106.setTop (mkF m 35 #[.val (.ref a), .val (.int (0 : Int32)), .unset] [(.ref d)]))
  refine Go.st (fun t' k' => XS.astoreN X106.here hx rfl (hb hby d17_35) rfl rfl (l' := #[.val (.ref a), .val (.int (0 : Int32)), .val (.ref d)]) rfl k') ?_
  show Go p e below _ (T106.setTop (mkF m 36 #[.val (.ref a), .val (.int (0 : Int32)), .val (.ref d)] []))
  refine Go.st (fun t' k' => XS.iloadN X106.here hx rfl (hb hby d17_36) rfl k') ?_
  show Go p e below _ (T106.setTop (mkF m 37 #[.val (.ref a), .val (.int (0 : Int32)), .val (.ref d)] [(.int (0 : Int32))]))
  refine Go.st (fun t' k' => XS.aloadN X106.here hx rfl (hb hby d17_37) rfl rfl k') ?_
  show Go p e below _ (T106.setTop (mkF m 38 #[.val (.ref a), .val (.int (0 : Int32)), .val (.ref d)] [(.ref d), (.int (0 : Int32))]))
  obtain ⟨cll107, Arl107, ql107, Szl107, Nzl107, Hsl107, Gsl107⟩ := (id Vd)
  refine Go.st (X106.arraylength hx (by rw [e106]; exact Arl107.1) (State.isArrayOf_alike hZ.alike Arl107.2.1) (g := (mkF m 38 #[.val (.ref a), .val (.int (0 : Int32)), .val (.ref d)] [(.ref d), (.int (0 : Int32))])) rfl rfl (hb hby d17_38)) ?_
  rw [len_of Szl107 Nzl107]
  show Go p e below _ (T106.setTop (mkF m 39 #[.val (.ref a), .val (.int (0 : Int32)), .val (.ref d)] [(.int (10 : Int32)), (.int (0 : Int32))]))
  refine Go.st (fun t' k' => XS.icmpYes X106.here hx rfl (pc0 := 39) (pc' := 50) rfl (hb hby d17_39) rfl (tlt (by decide : (0 : Int32) < (10 : Int32))).1 (by decide) (by decide) k') ?_
  show Go p e below _ (T106.setTop (mkF m 50 #[.val (.ref a), .val (.int (0 : Int32)), .val (.ref d)] []))
  refine Go.st (fun t' k' => XS.aloadN X106.here hx rfl (hb hby d17_50) rfl rfl k') ?_
  show Go p e below _ (T106.setTop (mkF m 51 #[.val (.ref a), .val (.int (0 : Int32)), .val (.ref d)] [(.ref a)]))
  refine Go.st (fun t' k' => XS.iloadN X106.here hx rfl (hb hby d17_51) rfl k') ?_
  show Go p e below _ (T106.setTop (mkF m 52 #[.val (.ref a), .val (.int (0 : Int32)), .val (.ref d)] [(.int (0 : Int32)), (.ref a)]))
  refine Go.st (fun t' k' => XS.iconst X106.here hx rfl (hb hby d17_52) k') ?_
  show Go p e below _ (T106.setTop (mkF m 53 #[.val (.ref a), .val (.int (0 : Int32)), .val (.ref d)] [(.int (1 : Int32)), (.int (0 : Int32)), (.ref a)]))
  refine Go.st (fun t' k' => XS.iadd X106.here hx rfl (hb hby d17_53) rfl k') ?_
  show Go p e below _ (T106.setTop (mkF m 54 #[.val (.ref a), .val (.int (0 : Int32)), .val (.ref d)] [(.int (1 : Int32)), (.ref a)]))
  obtain ⟨T108, h108, X108, e108, W108, st108⟩ := putF X106 hx hZ hown (host := "") (Or.inl (hw _ (List.mem_of_getElem? (i := 134) rfl))) Via.refl e106 Fc Ea (Or.inl (hw _ (List.mem_of_getElem? (i := 135) rfl))) (hw _ (List.mem_of_getElem? (i := 111) rfl)) (ty := .int) (by decide) rfl rfl (g := (mkF m 54 #[.val (.ref a), .val (.int (0 : Int32)), .val (.ref d)] [(.int (1 : Int32)), (.ref a)])) rfl rfl (hb hby d17_54)
  refine Go.st st108 ?_
  have Fw108 : Fld Z h108 a "java/util/ArrayList$Itr" "cursor" "I" (.int (1 : Int32)) := Fc.same W108
  have Ea_h109 := Ea.wr W108
  have Ft_h109 := Ft.other W108 (Or.inr (slot_ne (Or.inr (hw _ (List.mem_of_getElem? (i := 118) rfl))) (Or.inl (hw _ (List.mem_of_getElem? (i := 135) rfl))) (by decide) (t := (.object "java/util/ArrayList")) (t' := .int) (by decide) (by decide)))
  have Flr_h109 := Flr.other W108 (Or.inr (slot_ne (Or.inl (hw _ (List.mem_of_getElem? (i := 121) rfl))) (Or.inl (hw _ (List.mem_of_getElem? (i := 135) rfl))) (by decide) (t := .int) (t' := .int) (by decide) (by decide)))
  have Fx_h109 := Fx.other W108 (Or.inr (slot_ne (Or.inl (hw _ (List.mem_of_getElem? (i := 124) rfl))) (Or.inl (hw _ (List.mem_of_getElem? (i := 135) rfl))) (by decide) (t := .int) (t' := .int) (by decide) (by decide)))
  have Fm_h109 := Fm.other W108 (Or.inl Nla)
  have Fs_h109 := Fs.other W108 (Or.inl Nla)
  have Fe_h109 := Fe.other W108 (Or.inl Nla)
  have Vd_h109 := Vd.other W108 Nda
  have O108 := own_ext_wr O0 W108 Ga
  have K108 := K0.wr W108 (Or.inl (List.mem_of_getElem? (i := 0) rfl))
  have N108 := Fr.snoc X108 N101 Ga
  show Go p e below _ (T108.setTop (mkF m 57 #[.val (.ref a), .val (.int (0 : Int32)), .val (.ref d)] []))
  refine Go.st (fun t' k' => XS.aloadN X108.here hx rfl (hb hby d17_57) rfl rfl k') ?_
  show Go p e below _ (T108.setTop (mkF m 58 #[.val (.ref a), .val (.int (0 : Int32)), .val (.ref d)] [(.ref d)]))
  refine Go.st (fun t' k' => XS.aloadN X108.here hx rfl (hb hby d17_58) rfl rfl k') ?_
  show Go p e below _ (T108.setTop (mkF m 59 #[.val (.ref a), .val (.int (0 : Int32)), .val (.ref d)] [(.ref a), (.ref d)]))
  refine Go.st (fun t' k' => XS.iloadN X108.here hx rfl (hb hby d17_59) rfl k') ?_
  show Go p e below _ (T108.setTop (mkF m 60 #[.val (.ref a), .val (.int (0 : Int32)), .val (.ref d)] [(.int (0 : Int32)), (.ref a), (.ref d)]))
  refine Go.st (fun t' k' => XS.dupX1 X108.here hx rfl (hb hby d17_60) rfl rfl rfl k') ?_
  show Go p e below _ (T108.setTop (mkF m 61 #[.val (.ref a), .val (.int (0 : Int32)), .val (.ref d)] [(.int (0 : Int32)), (.ref a), (.int (0 : Int32)), (.ref d)]))
  obtain ⟨T110, h110, X110, e110, W110, st110⟩ := putF X108 hx hZ hown (host := "") (Or.inl (hw _ (List.mem_of_getElem? (i := 120) rfl))) Via.refl e108 Flr_h109 Ea_h109 (Or.inl (hw _ (List.mem_of_getElem? (i := 121) rfl))) (hw _ (List.mem_of_getElem? (i := 111) rfl)) (ty := .int) (by decide) rfl rfl (g := (mkF m 61 #[.val (.ref a), .val (.int (0 : Int32)), .val (.ref d)] [(.int (0 : Int32)), (.ref a), (.int (0 : Int32)), (.ref d)])) rfl rfl (hb hby d17_61)
  refine Go.st st110 ?_
  have Fw110 : Fld Z h110 a "java/util/ArrayList$Itr" "lastRet" "I" (.int (0 : Int32)) := Flr_h109.same W110
  have Ea_h111 := Ea_h109.wr W110
  have Ft_h111 := Ft_h109.other W110 (Or.inr (slot_ne (Or.inr (hw _ (List.mem_of_getElem? (i := 118) rfl))) (Or.inl (hw _ (List.mem_of_getElem? (i := 121) rfl))) (by decide) (t := (.object "java/util/ArrayList")) (t' := .int) (by decide) (by decide)))
  have Fx_h111 := Fx_h109.other W110 (Or.inr (slot_ne (Or.inl (hw _ (List.mem_of_getElem? (i := 124) rfl))) (Or.inl (hw _ (List.mem_of_getElem? (i := 121) rfl))) (by decide) (t := .int) (t' := .int) (by decide) (by decide)))
  have Fm_h111 := Fm_h109.other W110 (Or.inl Nla)
  have Fs_h111 := Fs_h109.other W110 (Or.inl Nla)
  have Fe_h111 := Fe_h109.other W110 (Or.inl Nla)
  have Vd_h111 := Vd_h109.other W110 Nda
  have Fw108_h111 := Fw108.other W110 (Or.inr (slot_ne (Or.inl (hw _ (List.mem_of_getElem? (i := 135) rfl))) (Or.inl (hw _ (List.mem_of_getElem? (i := 121) rfl))) (by decide) (t := .int) (t' := .int) (by decide) (by decide)))
  have O110 := own_ext_wr O108 W110 Ga
  have K110 := K108.wr W110 (Or.inl (List.mem_of_getElem? (i := 0) rfl))
  have N110 := Fr.snoc X110 N108 Ga
  show Go p e below _ (T110.setTop (mkF m 64 #[.val (.ref a), .val (.int (0 : Int32)), .val (.ref d)] [(.int (0 : Int32)), (.ref d)]))
  obtain ⟨cla112, Ara112, qa112, Sza112, Nza112, Hsa112, Gsa112⟩ := (id Vd_h111)
  have hina112 : ¬ ((0 : Int32) < 0 ∨ cla112.slots.size ≤ ((0 : Int32)).toNatClampNeg) := inb_of Sza112 ⟨by decide, by decide⟩
  have hata112 : cla112.slots[((0 : Int32)).toNatClampNeg]? = some (.ref t) := Has.at Hsa112 hina112 rfl
  refine Go.st (X110.aaload hx (j := (0 : Int32)) (v := (.ref t)) (by rw [e110]; exact Ara112.1) (State.isArrayOf_alike hZ.alike Ara112.2.1) rfl Ara112.2.2 hina112 hata112 (g := (mkF m 64 #[.val (.ref a), .val (.int (0 : Int32)), .val (.ref d)] [(.int (0 : Int32)), (.ref d)])) rfl rfl (hb hby d17_64)) ?_
  show Go p e below _ (T110.setTop (mkF m 65 #[.val (.ref a), .val (.int (0 : Int32)), .val (.ref d)] [(.ref t)]))
  exact Go.outR X110 hx hlk hret rfl rfl (hb hby d17_65) (Q := Q_rmNext Z a li d kd t mm r h0) (by rw [e110]; exact ⟨rfl, N110, O110, K110, Ft_h111, Fw108_h111, Fw110, Fx_h111⟩) (by decide) (by decide)
theorem ef_rmLCE (m : MethodId) (x0 : Addr) (x1 : Addr) (x2 : Int64) (x3 : Int32) : entryFrame m #[(.ref x0), (.ref x1), (.long x2), (.int x3)] 10 = mkF m 0 #[.val (.ref x0), .val (.ref x1), .val (.long x2), .second, .val (.int x3), .unset, .unset, .unset, .unset, .unset] [] := by first | (simp [entryFrame, mkF, argsToLocals, Value.category]; done) | rfl
def Q_rmLCE (Z : State) (a : Addr) (li : Addr) (q : Int64) (g : Int32) (w_VALUES : Addr) (k_VALUES : ClassId) (w_NEW : Addr) (w_CHANGED : Addr) (w_UNCHANGED : Addr) (w_CANCELLED : Addr) (mm : Int32) (h0 : Heap) (v : Option Value) (h : Heap) (L : List Loc) : Prop := v = none ∧ Fr Z.heap.size L ∧ Ext Z.heap h ∧ Keep h0 h [a] ∧ Fld Z h a "com/example/kertyma/kertyma/LoadCounts" "finishedPartitions" "I" (.int g)
theorem d13_0 : decode prog_4_method_3_code 0 = .ok (.aload_n 0, 1) := by decide +kernel
theorem d13_1 : decode prog_4_method_3_code 1 = .ok (.invokespecial 1, 3) := by decide +kernel
theorem d13_4 : decode prog_4_method_3_code 4 = .ok (.aload_n 0, 1) := by decide +kernel
theorem d13_5 : decode prog_4_method_3_code 5 = .ok (.invokestatic 7, 3) := by decide +kernel
theorem d13_8 : decode prog_4_method_3_code 8 = .ok (.arraylength, 1) := by decide +kernel
theorem d13_9 : decode prog_4_method_3_code 9 = .ok (.newarray .long, 2) := by decide +kernel
theorem d13_11 : decode prog_4_method_3_code 11 = .ok (.putfield 13, 3) := by decide +kernel
theorem d13_14 : decode prog_4_method_3_code 14 = .ok (.lconst 0, 1) := by decide +kernel
theorem d13_15 : decode prog_4_method_3_code 15 = .ok (.lstore 5, 2) := by decide +kernel
theorem d13_17 : decode prog_4_method_3_code 17 = .ok (.aload_n 1, 1) := by decide +kernel
theorem d13_18 : decode prog_4_method_3_code 18 = .ok (.invokeinterface 43 1, 5) := by decide +kernel
theorem pd___Ljava_util_Iterator_ : parseMethodDescriptor "()Ljava/util/Iterator;" = some ⟨[], some (.object "java/util/Iterator")⟩ := by decide +kernel
theorem d13_23 : decode prog_4_method_3_code 23 = .ok (.astore 7, 2) := by decide +kernel
theorem d13_25 : decode prog_4_method_3_code 25 = .ok (.aload 7, 2) := by decide +kernel
theorem d13_27 : decode prog_4_method_3_code 27 = .ok (.invokeinterface 49 1, 5) := by decide +kernel
theorem pd___Z : parseMethodDescriptor "()Z" = some ⟨[], some .boolean⟩ := by decide +kernel
theorem d13_32 : decode prog_4_method_3_code 32 = .ok (.ifCond .eq 79, 3) := by decide +kernel
theorem d13_111 : decode prog_4_method_3_code 111 = .ok (.aload_n 0, 1) := by decide +kernel
theorem d13_112 : decode prog_4_method_3_code 112 = .ok (.lload 5, 2) := by decide +kernel
theorem d13_114 : decode prog_4_method_3_code 114 = .ok (.putfield 19, 3) := by decide +kernel
theorem d13_117 : decode prog_4_method_3_code 117 = .ok (.aload_n 0, 1) := by decide +kernel
theorem d13_118 : decode prog_4_method_3_code 118 = .ok (.lload_n 2, 1) := by decide +kernel
theorem d13_119 : decode prog_4_method_3_code 119 = .ok (.putfield 23, 3) := by decide +kernel
theorem d13_122 : decode prog_4_method_3_code 122 = .ok (.aload_n 0, 1) := by decide +kernel
theorem d13_123 : decode prog_4_method_3_code 123 = .ok (.iload 4, 2) := by decide +kernel
theorem d13_125 : decode prog_4_method_3_code 125 = .ok (.putfield 26, 3) := by decide +kernel
theorem d13_128 : decode prog_4_method_3_code 128 = .ok (.return_, 1) := by decide +kernel
set_option maxRecDepth 65536 in
set_option maxHeartbeats 40000000 in
theorem rmLCE (l : Launch) (Z : State) (a0 : Array Value) (hw : ∀ d ∈ tables_1, d.before a0 Z = true) (ws : List Jvm.Cond) (a : Addr) (li : Addr) (q : Int64) (g : Int32) (w_VALUES : Addr) (k_VALUES : ClassId) (w_NEW : Addr) (w_CHANGED : Addr) (w_UNCHANGED : Addr) (w_CANCELLED : Addr) (mm : Int32) (h0 : Heap) (O0 : Ext Z.heap h0) (S_VALUES : Sta Z Z.heap "com/example/kertyma/kertyma/RowOutcome" "$VALUES" "[Lcom/example/kertyma/kertyma/RowOutcome;" (.ref w_VALUES)) (A_VALUES : Arv Z Z.heap w_VALUES k_VALUES (.object "com/example/kertyma/kertyma/RowOutcome") (4 : Int32) [(.ref w_NEW), (.ref w_CHANGED), (.ref w_UNCHANGED), (.ref w_CANCELLED)] .null) (E_VALUES : Exa Z Z.heap w_VALUES "[Lcom/example/kertyma/kertyma/RowOutcome;") (Ea : Exa Z h0 a "com/example/kertyma/kertyma/LoadCounts") (Ga : Z.heap.size ≤ a) (Fc : Fld Z h0 a "com/example/kertyma/kertyma/LoadCounts" "counts" "[J" .null) (Fj : Fld Z h0 a "com/example/kertyma/kertyma/LoadCounts" "rejected" "J" (.long (0 : Int64))) (Fs : Fld Z h0 a "com/example/kertyma/kertyma/LoadCounts" "resumedAfter" "J" (.long (0 : Int64))) (Ft : Fld Z h0 a "com/example/kertyma/kertyma/LoadCounts" "restartedAfter" "J" (.long (0 : Int64))) (Ff : Fld Z h0 a "com/example/kertyma/kertyma/LoadCounts" "finishedPartitions" "I" (.int (0 : Int32))) (El : Exa Z h0 li "java/util/ArrayList") (Nla : li ≠ a) (Fm : Fld Z h0 li "java/util/AbstractList" "modCount" "I" (.int mm)) (Fz : Fld Z h0 li "java/util/ArrayList" "size" "I" (.int (0 : Int32))) :
    MetFree l (⟨"com/example/kertyma/kertyma/LoadCounts", "<init>", "(Ljava/util/List;JI)V"⟩ : MethodName) (head1 (Jvm.Cond.code (⟨"com/example/kertyma/kertyma/LoadCounts", "<init>", "(Ljava/util/List;JI)V"⟩ : MethodName) prog_4_method_3_code 10 none :: ws) ({ frames := 3, cells := 3, slots := 12, locals := 80 } : Room)) (fun av' U => av' = #[(.ref a), (.ref li), (.long q), (.int g)] ∧ Z.Warmed39 U.vm ∧ U.heap = h0) (fun _ _ _ _ _ => True) (fun _ U o U' => ∃ v L, o = .returned v ∧ Q_rmLCE Z a li q g w_VALUES k_VALUES w_NEW w_CHANGED w_UNCHANGED w_CANCELLED mm h0 v U'.heap L ∧ FrameEnd U o U' L ({ frames := 3, cells := 3, slots := 12, locals := 80 } : Room).cells ({ frames := 3, cells := 3, slots := 12, locals := 80 } : Room).slots) := by
  refine MetFree.of_bodySF (plainFor_of_name pn_com_example_kertyma_kertyma_LoadCounts) hisR ?_
  intro p e s m args below meth c s₁ Bd hml0 hP hK
  obtain ⟨rfl, hZ, hh⟩ := hP
  have hx := Bd.exec
  have hby := Bd.bytes
  have hret := Bd.returns
  have hlk : meth.locks = false := Bd.notSynchronized
  have hml : c.maxLocals = 10 := hml0
  have hown : s.vm.findClass "com/example/kertyma/kertyma/LoadCounts" = some m.cls := findClass_of_methodNamed Bd.named
  have hnm := (name_of_methodNamed Bd.named Bd.method).1
  have X0 : Stand p l e ({ frames := 3, cells := 3, slots := 12, locals := 80 } : Room) s m #[(.ref a), (.ref li), (.long q), (.int g)] below meth c s₁ [] 0 0 := Stand.of_body Bd
  -- the walk
  have e0 : s₁.heap = h0 := by rw [← hh, Bd.state]; rfl
  have N0 := Fr.nil Z.heap.size
  have K0 := Keep.refl h0 [a]
  show Go p e below (GO s (Q_rmLCE Z a li q g w_VALUES k_VALUES w_NEW w_CHANGED w_UNCHANGED w_CANCELLED mm h0) ({ frames := 3, cells := 3, slots := 12, locals := 80 } : Room).cells ({ frames := 3, cells := 3, slots := 12, locals := 80 } : Room).slots) (s₁.setTop (entryFrame m #[(.ref a), (.ref li), (.long q), (.int g)] 10))
  refine Go.st (fun t' k' => castTop (ef_rmLCE m a li q g) k') ?_
  show Go p e below _ (s₁.setTop (mkF m 0 #[.val (.ref a), .val (.ref li), .val (.long q), .second, .val (.int g), .unset, .unset, .unset, .unset, .unset] []))
  refine Go.st (fun t' k' => XS.aloadN X0.here hx rfl (hb hby d13_0) rfl rfl k') ?_
  show Go p e below _ (s₁.setTop (mkF m 1 #[.val (.ref a), .val (.ref li), .val (.long q), .second, .val (.int g), .unset, .unset, .unset, .unset, .unset] [(.ref a)]))
  obtain ⟨T101, X101, e101, st101⟩ := initO X0 hx hZ hown (hw _ (List.mem_of_getElem? (i := 6) rfl)) (hw _ (List.mem_of_getElem? (i := 7) rfl)) (hw _ (List.mem_of_getElem? (i := 8) rfl)) e0 (g := (mkF m 1 #[.val (.ref a), .val (.ref li), .val (.long q), .second, .val (.int g), .unset, .unset, .unset, .unset, .unset] [(.ref a)])) rfl (by rw [hml]; rfl) rfl (hb hby d13_1) (by decide) (W := 0) (by show 2 * 0 + _ ≤ _; exact Nat.le_of_eq rfl) (by decide)
  refine Go.st st101 ?_
  show Go p e below _ (T101.setTop (mkF m 4 #[.val (.ref a), .val (.ref li), .val (.long q), .second, .val (.int g), .unset, .unset, .unset, .unset, .unset] []))
  refine Go.st (fun t' k' => XS.aloadN X101.here hx rfl (hb hby d13_4) rfl rfl k') ?_
  show Go p e below _ (T101.setTop (mkF m 5 #[.val (.ref a), .val (.ref li), .val (.long q), .second, .val (.int g), .unset, .unset, .unset, .unset, .unset] [(.ref a)]))
  obtain ⟨_, _, ⟨T102, L102, k102, n102⟩, -, X102, ⟨Lc102, hQ102, l102, y102, z102⟩, st102⟩ := Jvm.LawKit.callS X101 hx (y := (⟨"com/example/kertyma/kertyma/RowOutcome", "values", "()[Lcom/example/kertyma/kertyma/RowOutcome;"⟩ : MethodName)) hown (mvT hZ (hw _ (List.mem_of_getElem? (i := 9) rfl))) (mvT hZ (hw _ (List.mem_of_getElem? (i := 10) rfl))) (mvT hZ (hw _ (List.mem_of_getElem? (i := 11) rfl))) (mvT hZ (hw _ (List.mem_of_getElem? (i := 12) rfl))) (by decide) (backOf (W := 1) (rmValues l Z a0 hw [] w_VALUES k_VALUES w_NEW w_CHANGED w_UNCHANGED w_CANCELLED h0 O0 S_VALUES A_VALUES E_VALUES) hZ (hw _ (List.mem_of_getElem? (i := 12) rfl)) (hw _ (List.mem_of_getElem? (i := 11) rfl)) (by decide) (by decide)) (g := (mkF m 5 #[.val (.ref a), .val (.ref li), .val (.long q), .second, .val (.int g), .unset, .unset, .unset, .unset, .unset] [(.ref a)])) rfl (by rw [hml]; rfl) (argsL := []) (rest := [(.ref a)]) (lenOf pd____Lcom_example_kertyma_kertyma_RowOutcome_ rfl) rfl (by show 2 * 0 + _ ≤ _; exact Nat.le_of_eq rfl) (hb hby d13_5) (fun _ _ => ⟨rfl, e101, (by decide : 0 + 1 ≤ _), (by decide : 0 + 4 ≤ _)⟩)
  dsimp only [Pt.U, Pt.locs, Pt.cells, Pt.slots] at X102 l102 y102 z102 st102 hQ102
  subst l102 y102 z102
  obtain ⟨b_102, rfl, N102q, O102, Kc102, Vb_102, Sb_102⟩ := hQ102
  have N102 := Fr.app N0 N102q
  refine Go.st st102 ?_
  have Ea_h103 := Ea.keep Kc102
  have Fc_h103 := Fc.keep Kc102 nin0
  have Fj_h103 := Fj.keep Kc102 nin0
  have Fs_h103 := Fs.keep Kc102 nin0
  have Ft_h103 := Ft.keep Kc102 nin0
  have Ff_h103 := Ff.keep Kc102 nin0
  have El_h103 := El.keep Kc102
  have Fm_h103 := Fm.keep Kc102 nin0
  have Fz_h103 := Fz.keep Kc102 nin0
  have K102 := K0.trans Kc102 all0
  have ne_w_VALUES_b_102 : w_VALUES ≠ b_102 := Nat.ne_of_lt (Nat.lt_of_lt_of_le (A_VALUES.ext O0).lt Sb_102)
  have ne_a_b_102 : a ≠ b_102 := Nat.ne_of_lt (Nat.lt_of_lt_of_le Ea.lt Sb_102)
  have ne_li_b_102 : li ≠ b_102 := Nat.ne_of_lt (Nat.lt_of_lt_of_le El.lt Sb_102)
  have sz_b_102 : h0.size ≤ b_102 := Nat.le_trans K0.1 Sb_102
  show Go p e below _ (T102.setTop (mkF m 8 #[.val (.ref a), .val (.ref li), .val (.long q), .second, .val (.int g), .unset, .unset, .unset, .unset, .unset] [(.ref b_102), (.ref a)]))
  obtain ⟨cll104, Arl104, ql104, Szl104, Nzl104, Hsl104, Gsl104⟩ := (id Vb_102)
  refine Go.st (X102.arraylength hx Arl104.1 (State.isArrayOf_alike hZ.alike Arl104.2.1) (g := (mkF m 8 #[.val (.ref a), .val (.ref li), .val (.long q), .second, .val (.int g), .unset, .unset, .unset, .unset, .unset] [(.ref b_102), (.ref a)])) rfl rfl (hb hby d13_8)) ?_
  rw [len_of Szl104 Nzl104]
  show Go p e below _ (T102.setTop (mkF m 9 #[.val (.ref a), .val (.ref li), .val (.long q), .second, .val (.int g), .unset, .unset, .unset, .unset, .unset] [(.int (4 : Int32)), (.ref a)]))
  obtain ⟨T105, h105, k105, X105, e105, E105, A105, st105⟩ := newP X102 hx hZ (hw _ (List.mem_of_getElem? (i := 29) rfl)) rfl (g := (mkF m 9 #[.val (.ref a), .val (.ref li), .val (.long q), .second, .val (.int g), .unset, .unset, .unset, .unset, .unset] [(.int (4 : Int32)), (.ref a)])) rfl (hb hby d13_9) rfl (by decide) (cap := 4) (by decide) (by decide) (by decide) (by decide)
  obtain ⟨b105, g105⟩ : ∃ z, z = T102.heap.size := ⟨_, rfl⟩
  rw [← g105] at A105 st105
  refine Go.st st105 ?_
  have ne_w_VALUES_b105 : w_VALUES ≠ b105 := Nat.ne_of_lt (Nat.lt_of_lt_of_le (A_VALUES.ext O102).lt (Nat.le_of_eq g105.symm))
  have ne_a_b105 : a ≠ b105 := Nat.ne_of_lt (Nat.lt_of_lt_of_le Ea_h103.lt (Nat.le_of_eq g105.symm))
  have ne_li_b105 : li ≠ b105 := Nat.ne_of_lt (Nat.lt_of_lt_of_le El_h103.lt (Nat.le_of_eq g105.symm))
  have ne_b_102_b105 : b_102 ≠ b105 := Nat.ne_of_lt (Nat.lt_of_lt_of_le Vb_102.lt (Nat.le_of_eq g105.symm))
  have g_b105 : Z.heap.size ≤ b105 := Nat.le_trans O102.1 (Nat.le_of_eq g105.symm)
  have sz_b105 : h0.size ≤ b105 := Nat.le_trans K102.1 (Nat.le_of_eq g105.symm)
  have Ea_h106 := Ea_h103.ext E105
  have Fc_h106 := Fc_h103.ext E105
  have Fj_h106 := Fj_h103.ext E105
  have Fs_h106 := Fs_h103.ext E105
  have Ft_h106 := Ft_h103.ext E105
  have Ff_h106 := Ff_h103.ext E105
  have El_h106 := El_h103.ext E105
  have Fm_h106 := Fm_h103.ext E105
  have Fz_h106 := Fz_h103.ext E105
  have Vb_102_h106 := Vb_102.ext E105
  have O105 := own_ext_trans O102 E105
  have K105 := K102.ext E105
  have V_b105 : Arv Z h105 b105 k105 .long (4 : Int32) [(.long (0 : Int64)), (.long (0 : Int64)), (.long (0 : Int64)), (.long (0 : Int64))] (.long (0 : Int64)) := (Arv.new A105 (by decide)).pad (pad_rep [] (.long (0 : Int64)) 4)
  show Go p e below _ (T105.setTop (mkF m 11 #[.val (.ref a), .val (.ref li), .val (.long q), .second, .val (.int g), .unset, .unset, .unset, .unset, .unset] [(.ref b105), (.ref a)]))
  obtain ⟨T107, h107, X107, e107, W107, st107⟩ := putF X105 hx hZ hown (host := "") (Or.inl (hw _ (List.mem_of_getElem? (i := 30) rfl))) Via.refl e105 Fc_h106 Ea_h106 (Or.inr ⟨(hw _ (List.mem_of_getElem? (i := 31) rfl)), rfl, hnm⟩) (hw _ (List.mem_of_getElem? (i := 1) rfl)) (ty := (.array .long)) (by decide) rfl rfl (g := (mkF m 11 #[.val (.ref a), .val (.ref li), .val (.long q), .second, .val (.int g), .unset, .unset, .unset, .unset, .unset] [(.ref b105), (.ref a)])) rfl rfl (hb hby d13_11)
  refine Go.st st107 ?_
  have Fw107 : Fld Z h107 a "com/example/kertyma/kertyma/LoadCounts" "counts" "[J" (.ref b105) := Fc_h106.same W107
  have Ea_h108 := Ea_h106.wr W107
  have Fj_h108 := Fj_h106.other W107 (Or.inr (slot_ne (Or.inl (hw _ (List.mem_of_getElem? (i := 154) rfl))) (Or.inr (hw _ (List.mem_of_getElem? (i := 31) rfl))) (by decide) (t := .long) (t' := (.array .long)) (by decide) (by decide)))
  have Fs_h108 := Fs_h106.other W107 (Or.inr (slot_ne (Or.inr (hw _ (List.mem_of_getElem? (i := 33) rfl))) (Or.inr (hw _ (List.mem_of_getElem? (i := 31) rfl))) (by decide) (t := .long) (t' := (.array .long)) (by decide) (by decide)))
  have Ft_h108 := Ft_h106.other W107 (Or.inr (slot_ne (Or.inr (hw _ (List.mem_of_getElem? (i := 35) rfl))) (Or.inr (hw _ (List.mem_of_getElem? (i := 31) rfl))) (by decide) (t := .long) (t' := (.array .long)) (by decide) (by decide)))
  have Ff_h108 := Ff_h106.other W107 (Or.inr (slot_ne (Or.inr (hw _ (List.mem_of_getElem? (i := 37) rfl))) (Or.inr (hw _ (List.mem_of_getElem? (i := 31) rfl))) (by decide) (t := .int) (t' := (.array .long)) (by decide) (by decide)))
  have El_h108 := El_h106.wr W107
  have Fm_h108 := Fm_h106.other W107 (Or.inl Nla)
  have Fz_h108 := Fz_h106.other W107 (Or.inl Nla)
  have Vb_102_h108 := Vb_102_h106.other W107 (Ne.symm ne_a_b_102)
  have V_b105_h108 := V_b105.other W107 (Ne.symm ne_a_b105)
  have O107 := own_ext_wr O105 W107 Ga
  have K107 := K105.wr W107 (Or.inl (List.mem_of_getElem? (i := 0) rfl))
  have N107 := Fr.snoc X107 N102 Ga
  show Go p e below _ (T107.setTop (mkF m 14 #[.val (.ref a), .val (.ref li), .val (.long q), .second, .val (.int g), .unset, .unset, .unset, .unset, .unset] []))
  refine Go.st (fun t' k' => XS.lconst X107.here hx rfl (hb hby d13_14) k') ?_
  show Go p e below _ (T107.setTop (mkF m 15 #[.val (.ref a), .val (.ref li), .val (.long q), .second, .val (.int g), .unset, .unset, .unset, .unset, .unset] [(.long (0 : Int64))]))
  refine Go.st (fun t' k' => XS.lstore X107.here hx rfl (hb hby d13_15) rfl (l' := #[.val (.ref a), .val (.ref li), .val (.long q), .second, .val (.int g), .val (.long (0 : Int64)), .second, .unset, .unset, .unset]) rfl k') ?_
  show Go p e below _ (T107.setTop (mkF m 17 #[.val (.ref a), .val (.ref li), .val (.long q), .second, .val (.int g), .val (.long (0 : Int64)), .second, .unset, .unset, .unset] []))
  refine Go.st (fun t' k' => XS.aloadN X107.here hx rfl (hb hby d13_17) rfl rfl k') ?_
  show Go p e below _ (T107.setTop (mkF m 18 #[.val (.ref a), .val (.ref li), .val (.long q), .second, .val (.int g), .val (.long (0 : Int64)), .second, .unset, .unset, .unset] [(.ref li)]))
  obtain ⟨cq109, kq109, q109a, q109b, q109c⟩ := isOf hZ e107 El_h108
  obtain ⟨_, _, ⟨T109, L109, k109, n109⟩, -, X109, ⟨Lc109, hQ109, l109, y109, z109⟩, st109⟩ := X107.interfaceBack hx (xi := (⟨"java/util/List", "iterator", "()Ljava/util/Iterator;"⟩ : MethodName)) (y := (⟨"java/util/ArrayList", "iterator", "()Ljava/util/Iterator;"⟩ : MethodName)) hown (mvT hZ (hw _ (List.mem_of_getElem? (i := 101) rfl))) (mvT hZ (hw _ (List.mem_of_getElem? (i := 102) rfl))) (mvT hZ (hw _ (List.mem_of_getElem? (i := 103) rfl))) (mvT hZ (hw _ (List.mem_of_getElem? (i := 104) rfl))) (mvT hZ (hw _ (List.mem_of_getElem? (i := 105) rfl))) (mvT hZ (hw _ (List.mem_of_getElem? (i := 106) rfl))) (mvT hZ (hw _ (List.mem_of_getElem? (i := 107) rfl))) (mvT hZ (hw _ (List.mem_of_getElem? (i := 108) rfl))) (by decide) (backOf (W := 0) (rmIter l Z a0 hw [] li mm h107 O107 Fm_h108) hZ (hw _ (List.mem_of_getElem? (i := 109) rfl)) (hw _ (List.mem_of_getElem? (i := 45) rfl)) (by decide) (by decide)) q109a q109b q109c (g := (mkF m 18 #[.val (.ref a), .val (.ref li), .val (.long q), .second, .val (.int g), .val (.long (0 : Int64)), .second, .unset, .unset, .unset] [(.ref li)])) rfl (by rw [hml]; rfl) (Steps.refl _) (argsL := []) (rest := []) (lenOf pd___Ljava_util_Iterator_ rfl) rfl (by show 2 * 0 + _ ≤ _; exact Nat.le_of_eq rfl) (hb hby d13_18) (fun _ _ => ⟨rfl, e107, (by decide : 2 + 1 ≤ _), (by decide : 8 + 4 ≤ _)⟩)
  dsimp only [Pt.U, Pt.locs, Pt.cells, Pt.slots] at X109 l109 y109 z109 st109 hQ109
  subst l109 y109 z109
  obtain ⟨b_109, rfl, N109q, O109, Kc109, Eb_109, Gb_109, Sb_109, Pt_109, Pc_109, Plr_109, Px_109⟩ := hQ109
  have N109 := Fr.app N107 N109q
  refine Go.tr st109 ?_
  have Ea_h110 := Ea_h108.keep Kc109
  have Fj_h110 := Fj_h108.keep Kc109 nin0
  have Fs_h110 := Fs_h108.keep Kc109 nin0
  have Ft_h110 := Ft_h108.keep Kc109 nin0
  have Ff_h110 := Ff_h108.keep Kc109 nin0
  have El_h110 := El_h108.keep Kc109
  have Fm_h110 := Fm_h108.keep Kc109 nin0
  have Fz_h110 := Fz_h108.keep Kc109 nin0
  have Vb_102_h110 := Vb_102_h108.keep Kc109 nin0
  have V_b105_h110 := V_b105_h108.keep Kc109 nin0
  have Fw107_h110 := Fw107.keep Kc109 nin0
  have K109 := K107.trans Kc109 all0
  have ne_w_VALUES_b_109 : w_VALUES ≠ b_109 := Nat.ne_of_lt (Nat.lt_of_lt_of_le (A_VALUES.ext O107).lt Sb_109)
  have ne_a_b_109 : a ≠ b_109 := Nat.ne_of_lt (Nat.lt_of_lt_of_le Ea_h108.lt Sb_109)
  have ne_li_b_109 : li ≠ b_109 := Nat.ne_of_lt (Nat.lt_of_lt_of_le El_h108.lt Sb_109)
  have ne_b_102_b_109 : b_102 ≠ b_109 := Nat.ne_of_lt (Nat.lt_of_lt_of_le Vb_102_h108.lt Sb_109)
  have ne_b105_b_109 : b105 ≠ b_109 := Nat.ne_of_lt (Nat.lt_of_lt_of_le V_b105_h108.lt Sb_109)
  have sz_b_109 : h0.size ≤ b_109 := Nat.le_trans K107.1 Sb_109
  show Go p e below _ (T109.setTop (mkF m 23 #[.val (.ref a), .val (.ref li), .val (.long q), .second, .val (.int g), .val (.long (0 : Int64)), .second, .unset, .unset, .unset] [(.ref b_109)]))
  refine Go.st (fun t' k' => XS.astore X109.here hx rfl (hb hby d13_23) rfl rfl (l' := #[.val (.ref a), .val (.ref li), .val (.long q), .second, .val (.int g), .val (.long (0 : Int64)), .second, .val (.ref b_109), .unset, .unset]) rfl k') ?_
  show Go p e below _ (T109.setTop (mkF m 25 #[.val (.ref a), .val (.ref li), .val (.long q), .second, .val (.int g), .val (.long (0 : Int64)), .second, .val (.ref b_109), .unset, .unset] []))
  refine Go.st (fun t' k' => XS.aload X109.here hx rfl (hb hby d13_25) rfl rfl k') ?_
  show Go p e below _ (T109.setTop (mkF m 27 #[.val (.ref a), .val (.ref li), .val (.long q), .second, .val (.int g), .val (.long (0 : Int64)), .second, .val (.ref b_109), .unset, .unset] [(.ref b_109)]))
  obtain ⟨cq111, kq111, q111a, q111b, q111c⟩ := isOf hZ rfl Eb_109
  obtain ⟨_, _, ⟨T111, L111, k111, n111⟩, -, X111, ⟨Lc111, hQ111, l111, y111, z111⟩, st111⟩ := X109.interfaceBack hx (xi := (⟨"java/util/Iterator", "hasNext", "()Z"⟩ : MethodName)) (y := (⟨"java/util/ArrayList$Itr", "hasNext", "()Z"⟩ : MethodName)) hown (mvT hZ (hw _ (List.mem_of_getElem? (i := 125) rfl))) (mvT hZ (hw _ (List.mem_of_getElem? (i := 126) rfl))) (mvT hZ (hw _ (List.mem_of_getElem? (i := 127) rfl))) (mvT hZ (hw _ (List.mem_of_getElem? (i := 128) rfl))) (mvT hZ (hw _ (List.mem_of_getElem? (i := 129) rfl))) (mvT hZ (hw _ (List.mem_of_getElem? (i := 130) rfl))) (mvT hZ (hw _ (List.mem_of_getElem? (i := 131) rfl))) (mvT hZ (hw _ (List.mem_of_getElem? (i := 132) rfl))) (by decide) (backOf (W := 0) (rmHas l Z a0 hw [] b_109 li ((0 : Int32)) ((0 : Int32)) T109.heap O109 Pt_109 Pc_109 Fz_h110) hZ (hw _ (List.mem_of_getElem? (i := 133) rfl)) (hw _ (List.mem_of_getElem? (i := 112) rfl)) (by decide) (by decide)) q111a q111b q111c (g := (mkF m 27 #[.val (.ref a), .val (.ref li), .val (.long q), .second, .val (.int g), .val (.long (0 : Int64)), .second, .val (.ref b_109), .unset, .unset] [(.ref b_109)])) rfl (by rw [hml]; rfl) (Steps.refl _) (argsL := []) (rest := []) (lenOf pd___Z rfl) rfl (by show 2 * 0 + _ ≤ _; exact Nat.le_of_eq rfl) (hb hby d13_27) (fun _ _ => ⟨rfl, rfl, (by decide : 3 + 0 ≤ _), (by decide : 12 + 0 ≤ _)⟩)
  dsimp only [Pt.U, Pt.locs, Pt.cells, Pt.slots] at X111 l111 y111 z111 st111 hQ111
  subst l111 y111 z111
  obtain ⟨rfl, rfl, e111⟩ := hQ111
  have N111 := Fr.app N109 (Fr.nil _)
  refine Go.tr st111 ?_
  show Go p e below _ (T111.setTop (mkF m 32 #[.val (.ref a), .val (.ref li), .val (.long q), .second, .val (.int g), .val (.long (0 : Int64)), .second, .val (.ref b_109), .unset, .unset] [(.int (0 : Int32))]))
  refine Go.st (fun t' k' => XS.ifYes X111.here hx rfl (pc0 := 32) (pc' := 111) rfl (hb hby d13_32) rfl ((if0 _ _).trans (teq (by decide : (0 : Int32) = (0 : Int32))).1) (by decide) (by decide) k') ?_
  show Go p e below _ (T111.setTop (mkF m 111 #[.val (.ref a), .val (.ref li), .val (.long q), .second, .val (.int g), .val (.long (0 : Int64)), .second, .val (.ref b_109), .unset, .unset] []))
  refine Go.st (fun t' k' => XS.aloadN X111.here hx rfl (hb hby d13_111) rfl rfl k') ?_
  show Go p e below _ (T111.setTop (mkF m 112 #[.val (.ref a), .val (.ref li), .val (.long q), .second, .val (.int g), .val (.long (0 : Int64)), .second, .val (.ref b_109), .unset, .unset] [(.ref a)]))
  refine Go.st (fun t' k' => XS.lload X111.here hx rfl (hb hby d13_112) rfl k') ?_
  show Go p e below _ (T111.setTop (mkF m 114 #[.val (.ref a), .val (.ref li), .val (.long q), .second, .val (.int g), .val (.long (0 : Int64)), .second, .val (.ref b_109), .unset, .unset] [(.long (0 : Int64)), (.ref a)]))
  obtain ⟨T112, h112, X112, e112, W112, st112⟩ := putF X111 hx hZ hown (host := "") (Or.inl (hw _ (List.mem_of_getElem? (i := 32) rfl))) Via.refl e111 Fs_h110 Ea_h110 (Or.inr ⟨(hw _ (List.mem_of_getElem? (i := 33) rfl)), rfl, hnm⟩) (hw _ (List.mem_of_getElem? (i := 1) rfl)) (ty := .long) (by decide) rfl rfl (g := (mkF m 114 #[.val (.ref a), .val (.ref li), .val (.long q), .second, .val (.int g), .val (.long (0 : Int64)), .second, .val (.ref b_109), .unset, .unset] [(.long (0 : Int64)), (.ref a)])) rfl rfl (hb hby d13_114)
  refine Go.st st112 ?_
  have Fw112 : Fld Z h112 a "com/example/kertyma/kertyma/LoadCounts" "resumedAfter" "J" (.long (0 : Int64)) := Fs_h110.same W112
  have Ea_h113 := Ea_h110.wr W112
  have Fj_h113 := Fj_h110.other W112 (Or.inr (slot_ne (Or.inl (hw _ (List.mem_of_getElem? (i := 154) rfl))) (Or.inr (hw _ (List.mem_of_getElem? (i := 33) rfl))) (by decide) (t := .long) (t' := .long) (by decide) (by decide)))
  have Ft_h113 := Ft_h110.other W112 (Or.inr (slot_ne (Or.inr (hw _ (List.mem_of_getElem? (i := 35) rfl))) (Or.inr (hw _ (List.mem_of_getElem? (i := 33) rfl))) (by decide) (t := .long) (t' := .long) (by decide) (by decide)))
  have Ff_h113 := Ff_h110.other W112 (Or.inr (slot_ne (Or.inr (hw _ (List.mem_of_getElem? (i := 37) rfl))) (Or.inr (hw _ (List.mem_of_getElem? (i := 33) rfl))) (by decide) (t := .int) (t' := .long) (by decide) (by decide)))
  have El_h113 := El_h110.wr W112
  have Fm_h113 := Fm_h110.other W112 (Or.inl Nla)
  have Fz_h113 := Fz_h110.other W112 (Or.inl Nla)
  have Vb_102_h113 := Vb_102_h110.other W112 (Ne.symm ne_a_b_102)
  have V_b105_h113 := V_b105_h110.other W112 (Ne.symm ne_a_b105)
  have Fw107_h113 := Fw107_h110.other W112 (Or.inr (slot_ne (Or.inr (hw _ (List.mem_of_getElem? (i := 31) rfl))) (Or.inr (hw _ (List.mem_of_getElem? (i := 33) rfl))) (by decide) (t := (.array .long)) (t' := .long) (by decide) (by decide)))
  have Eb_109_h113 := Eb_109.wr W112
  have Pt_109_h113 := Pt_109.other W112 (Or.inl (Ne.symm ne_a_b_109))
  have Pc_109_h113 := Pc_109.other W112 (Or.inl (Ne.symm ne_a_b_109))
  have Plr_109_h113 := Plr_109.other W112 (Or.inl (Ne.symm ne_a_b_109))
  have Px_109_h113 := Px_109.other W112 (Or.inl (Ne.symm ne_a_b_109))
  have O112 := own_ext_wr O109 W112 Ga
  have K112 := K109.wr W112 (Or.inl (List.mem_of_getElem? (i := 0) rfl))
  have N112 := Fr.snoc X112 N111 Ga
  show Go p e below _ (T112.setTop (mkF m 117 #[.val (.ref a), .val (.ref li), .val (.long q), .second, .val (.int g), .val (.long (0 : Int64)), .second, .val (.ref b_109), .unset, .unset] []))
  refine Go.st (fun t' k' => XS.aloadN X112.here hx rfl (hb hby d13_117) rfl rfl k') ?_
  show Go p e below _ (T112.setTop (mkF m 118 #[.val (.ref a), .val (.ref li), .val (.long q), .second, .val (.int g), .val (.long (0 : Int64)), .second, .val (.ref b_109), .unset, .unset] [(.ref a)]))
  refine Go.st (fun t' k' => XS.lloadN X112.here hx rfl (hb hby d13_118) rfl k') ?_
  show Go p e below _ (T112.setTop (mkF m 119 #[.val (.ref a), .val (.ref li), .val (.long q), .second, .val (.int g), .val (.long (0 : Int64)), .second, .val (.ref b_109), .unset, .unset] [(.long q), (.ref a)]))
  obtain ⟨T114, h114, X114, e114, W114, st114⟩ := putF X112 hx hZ hown (host := "") (Or.inl (hw _ (List.mem_of_getElem? (i := 34) rfl))) Via.refl e112 Ft_h113 Ea_h113 (Or.inr ⟨(hw _ (List.mem_of_getElem? (i := 35) rfl)), rfl, hnm⟩) (hw _ (List.mem_of_getElem? (i := 1) rfl)) (ty := .long) (by decide) rfl rfl (g := (mkF m 119 #[.val (.ref a), .val (.ref li), .val (.long q), .second, .val (.int g), .val (.long (0 : Int64)), .second, .val (.ref b_109), .unset, .unset] [(.long q), (.ref a)])) rfl rfl (hb hby d13_119)
  refine Go.st st114 ?_
  have Fw114 : Fld Z h114 a "com/example/kertyma/kertyma/LoadCounts" "restartedAfter" "J" (.long q) := Ft_h113.same W114
  have Ea_h115 := Ea_h113.wr W114
  have Fj_h115 := Fj_h113.other W114 (Or.inr (slot_ne (Or.inl (hw _ (List.mem_of_getElem? (i := 154) rfl))) (Or.inr (hw _ (List.mem_of_getElem? (i := 35) rfl))) (by decide) (t := .long) (t' := .long) (by decide) (by decide)))
  have Ff_h115 := Ff_h113.other W114 (Or.inr (slot_ne (Or.inr (hw _ (List.mem_of_getElem? (i := 37) rfl))) (Or.inr (hw _ (List.mem_of_getElem? (i := 35) rfl))) (by decide) (t := .int) (t' := .long) (by decide) (by decide)))
  have El_h115 := El_h113.wr W114
  have Fm_h115 := Fm_h113.other W114 (Or.inl Nla)
  have Fz_h115 := Fz_h113.other W114 (Or.inl Nla)
  have Vb_102_h115 := Vb_102_h113.other W114 (Ne.symm ne_a_b_102)
  have V_b105_h115 := V_b105_h113.other W114 (Ne.symm ne_a_b105)
  have Fw107_h115 := Fw107_h113.other W114 (Or.inr (slot_ne (Or.inr (hw _ (List.mem_of_getElem? (i := 31) rfl))) (Or.inr (hw _ (List.mem_of_getElem? (i := 35) rfl))) (by decide) (t := (.array .long)) (t' := .long) (by decide) (by decide)))
  have Eb_109_h115 := Eb_109_h113.wr W114
  have Pt_109_h115 := Pt_109_h113.other W114 (Or.inl (Ne.symm ne_a_b_109))
  have Pc_109_h115 := Pc_109_h113.other W114 (Or.inl (Ne.symm ne_a_b_109))
  have Plr_109_h115 := Plr_109_h113.other W114 (Or.inl (Ne.symm ne_a_b_109))
  have Px_109_h115 := Px_109_h113.other W114 (Or.inl (Ne.symm ne_a_b_109))
  have Fw112_h115 := Fw112.other W114 (Or.inr (slot_ne (Or.inr (hw _ (List.mem_of_getElem? (i := 33) rfl))) (Or.inr (hw _ (List.mem_of_getElem? (i := 35) rfl))) (by decide) (t := .long) (t' := .long) (by decide) (by decide)))
  have O114 := own_ext_wr O112 W114 Ga
  have K114 := K112.wr W114 (Or.inl (List.mem_of_getElem? (i := 0) rfl))
  have N114 := Fr.snoc X114 N112 Ga
  show Go p e below _ (T114.setTop (mkF m 122 #[.val (.ref a), .val (.ref li), .val (.long q), .second, .val (.int g), .val (.long (0 : Int64)), .second, .val (.ref b_109), .unset, .unset] []))
  refine Go.st (fun t' k' => XS.aloadN X114.here hx rfl (hb hby d13_122) rfl rfl k') ?_
  show Go p e below _ (T114.setTop (mkF m 123 #[.val (.ref a), .val (.ref li), .val (.long q), .second, .val (.int g), .val (.long (0 : Int64)), .second, .val (.ref b_109), .unset, .unset] [(.ref a)]))
  refine Go.st (fun t' k' => XS.iload X114.here hx rfl (hb hby d13_123) rfl k') ?_
  show Go p e below _ (T114.setTop (mkF m 125 #[.val (.ref a), .val (.ref li), .val (.long q), .second, .val (.int g), .val (.long (0 : Int64)), .second, .val (.ref b_109), .unset, .unset] [(.int g), (.ref a)]))
  obtain ⟨T116, h116, X116, e116, W116, st116⟩ := putF X114 hx hZ hown (host := "") (Or.inl (hw _ (List.mem_of_getElem? (i := 36) rfl))) Via.refl e114 Ff_h115 Ea_h115 (Or.inr ⟨(hw _ (List.mem_of_getElem? (i := 37) rfl)), rfl, hnm⟩) (hw _ (List.mem_of_getElem? (i := 1) rfl)) (ty := .int) (by decide) rfl rfl (g := (mkF m 125 #[.val (.ref a), .val (.ref li), .val (.long q), .second, .val (.int g), .val (.long (0 : Int64)), .second, .val (.ref b_109), .unset, .unset] [(.int g), (.ref a)])) rfl rfl (hb hby d13_125)
  refine Go.st st116 ?_
  have Fw116 : Fld Z h116 a "com/example/kertyma/kertyma/LoadCounts" "finishedPartitions" "I" (.int g) := Ff_h115.same W116
  have Ea_h117 := Ea_h115.wr W116
  have Fj_h117 := Fj_h115.other W116 (Or.inr (slot_ne (Or.inl (hw _ (List.mem_of_getElem? (i := 154) rfl))) (Or.inr (hw _ (List.mem_of_getElem? (i := 37) rfl))) (by decide) (t := .long) (t' := .int) (by decide) (by decide)))
  have El_h117 := El_h115.wr W116
  have Fm_h117 := Fm_h115.other W116 (Or.inl Nla)
  have Fz_h117 := Fz_h115.other W116 (Or.inl Nla)
  have Vb_102_h117 := Vb_102_h115.other W116 (Ne.symm ne_a_b_102)
  have V_b105_h117 := V_b105_h115.other W116 (Ne.symm ne_a_b105)
  have Fw107_h117 := Fw107_h115.other W116 (Or.inr (slot_ne (Or.inr (hw _ (List.mem_of_getElem? (i := 31) rfl))) (Or.inr (hw _ (List.mem_of_getElem? (i := 37) rfl))) (by decide) (t := (.array .long)) (t' := .int) (by decide) (by decide)))
  have Eb_109_h117 := Eb_109_h115.wr W116
  have Pt_109_h117 := Pt_109_h115.other W116 (Or.inl (Ne.symm ne_a_b_109))
  have Pc_109_h117 := Pc_109_h115.other W116 (Or.inl (Ne.symm ne_a_b_109))
  have Plr_109_h117 := Plr_109_h115.other W116 (Or.inl (Ne.symm ne_a_b_109))
  have Px_109_h117 := Px_109_h115.other W116 (Or.inl (Ne.symm ne_a_b_109))
  have Fw112_h117 := Fw112_h115.other W116 (Or.inr (slot_ne (Or.inr (hw _ (List.mem_of_getElem? (i := 33) rfl))) (Or.inr (hw _ (List.mem_of_getElem? (i := 37) rfl))) (by decide) (t := .long) (t' := .int) (by decide) (by decide)))
  have Fw114_h117 := Fw114.other W116 (Or.inr (slot_ne (Or.inr (hw _ (List.mem_of_getElem? (i := 35) rfl))) (Or.inr (hw _ (List.mem_of_getElem? (i := 37) rfl))) (by decide) (t := .long) (t' := .int) (by decide) (by decide)))
  have O116 := own_ext_wr O114 W116 Ga
  have K116 := K114.wr W116 (Or.inl (List.mem_of_getElem? (i := 0) rfl))
  have N116 := Fr.snoc X116 N114 Ga
  show Go p e below _ (T116.setTop (mkF m 128 #[.val (.ref a), .val (.ref li), .val (.long q), .second, .val (.int g), .val (.long (0 : Int64)), .second, .val (.ref b_109), .unset, .unset] []))
  exact Go.outU X116 hx hlk hret (hb hby d13_128) (Q := Q_rmLCE Z a li q g w_VALUES k_VALUES w_NEW w_CHANGED w_UNCHANGED w_CANCELLED mm h0) (by rw [e116]; exact ⟨rfl, N116, O116, K116, Fw116⟩) (by decide) (by decide)
theorem ef_rmLC1 (m : MethodId) (x0 : Addr) (x1 : Addr) (x2 : Int64) (x3 : Int32) : entryFrame m #[(.ref x0), (.ref x1), (.long x2), (.int x3)] 10 = mkF m 0 #[.val (.ref x0), .val (.ref x1), .val (.long x2), .second, .val (.int x3), .unset, .unset, .unset, .unset, .unset] [] := by first | (simp [entryFrame, mkF, argsToLocals, Value.category]; done) | rfl
def Q_rmLC1 (Z : State) (a : Addr) (li : Addr) (q : Int64) (g : Int32) (w_VALUES : Addr) (k_VALUES : ClassId) (w_NEW : Addr) (w_CHANGED : Addr) (w_UNCHANGED : Addr) (w_CANCELLED : Addr) (mm : Int32) (t : Addr) (d : Addr) (kd : ClassId) (b2 : Addr) (k2 : ClassId) (j2 : Int64) (s2 : Int64) (c0 : Int64) (c1 : Int64) (c2 : Int64) (c3 : Int64) (h0 : Heap) (v : Option Value) (h : Heap) (L : List Loc) : Prop := v = none ∧ Fr Z.heap.size L ∧ Ext Z.heap h ∧ Keep h0 h [a] ∧ Fld Z h a "com/example/kertyma/kertyma/LoadCounts" "finishedPartitions" "I" (.int g)
theorem d13_35 : decode prog_4_method_3_code 35 = .ok (.aload 7, 2) := by decide +kernel
theorem d13_37 : decode prog_4_method_3_code 37 = .ok (.invokeinterface 55 1, 5) := by decide +kernel
theorem pd___Ljava_lang_Object_ : parseMethodDescriptor "()Ljava/lang/Object;" = some ⟨[], some (.object "java/lang/Object")⟩ := by decide +kernel
theorem d13_42 : decode prog_4_method_3_code 42 = .ok (.checkcast 14, 3) := by decide +kernel
theorem d13_45 : decode prog_4_method_3_code 45 = .ok (.astore 8, 2) := by decide +kernel
theorem d13_47 : decode prog_4_method_3_code 47 = .ok (.iconst 0, 1) := by decide +kernel
theorem d13_48 : decode prog_4_method_3_code 48 = .ok (.istore 9, 2) := by decide +kernel
theorem d13_50 : decode prog_4_method_3_code 50 = .ok (.iload 9, 2) := by decide +kernel
theorem d13_52 : decode prog_4_method_3_code 52 = .ok (.aload_n 0, 1) := by decide +kernel
theorem d13_53 : decode prog_4_method_3_code 53 = .ok (.getfield 13, 3) := by decide +kernel
theorem d13_56 : decode prog_4_method_3_code 56 = .ok (.arraylength, 1) := by decide +kernel
theorem d13_57 : decode prog_4_method_3_code 57 = .ok (.if_icmp .ge 27, 3) := by decide +kernel
theorem d13_60 : decode prog_4_method_3_code 60 = .ok (.aload_n 0, 1) := by decide +kernel
theorem d13_61 : decode prog_4_method_3_code 61 = .ok (.getfield 13, 3) := by decide +kernel
theorem d13_64 : decode prog_4_method_3_code 64 = .ok (.iload 9, 2) := by decide +kernel
theorem d13_66 : decode prog_4_method_3_code 66 = .ok (.dup2, 1) := by decide +kernel
theorem d13_67 : decode prog_4_method_3_code 67 = .ok (.laload, 1) := by decide +kernel
theorem d13_68 : decode prog_4_method_3_code 68 = .ok (.aload 8, 2) := by decide +kernel
theorem d13_70 : decode prog_4_method_3_code 70 = .ok (.getfield 13, 3) := by decide +kernel
theorem d13_73 : decode prog_4_method_3_code 73 = .ok (.iload 9, 2) := by decide +kernel
theorem d13_75 : decode prog_4_method_3_code 75 = .ok (.laload, 1) := by decide +kernel
theorem d13_76 : decode prog_4_method_3_code 76 = .ok (.ladd, 1) := by decide +kernel
theorem d13_77 : decode prog_4_method_3_code 77 = .ok (.lastore, 1) := by decide +kernel
theorem d13_78 : decode prog_4_method_3_code 78 = .ok (.iinc 9 1, 3) := by decide +kernel
theorem d13_81 : decode prog_4_method_3_code 81 = .ok (.goto (-31), 3) := by decide +kernel
theorem d13_84 : decode prog_4_method_3_code 84 = .ok (.aload_n 0, 1) := by decide +kernel
theorem d13_85 : decode prog_4_method_3_code 85 = .ok (.dup, 1) := by decide +kernel
theorem d13_86 : decode prog_4_method_3_code 86 = .ok (.getfield 36, 3) := by decide +kernel
theorem d13_89 : decode prog_4_method_3_code 89 = .ok (.aload 8, 2) := by decide +kernel
theorem d13_91 : decode prog_4_method_3_code 91 = .ok (.getfield 36, 3) := by decide +kernel
theorem d13_94 : decode prog_4_method_3_code 94 = .ok (.ladd, 1) := by decide +kernel
theorem d13_95 : decode prog_4_method_3_code 95 = .ok (.putfield 36, 3) := by decide +kernel
theorem d13_98 : decode prog_4_method_3_code 98 = .ok (.lload 5, 2) := by decide +kernel
theorem d13_100 : decode prog_4_method_3_code 100 = .ok (.aload 8, 2) := by decide +kernel
theorem d13_102 : decode prog_4_method_3_code 102 = .ok (.getfield 19, 3) := by decide +kernel
theorem d13_105 : decode prog_4_method_3_code 105 = .ok (.ladd, 1) := by decide +kernel
theorem d13_106 : decode prog_4_method_3_code 106 = .ok (.lstore 5, 2) := by decide +kernel
theorem d13_108 : decode prog_4_method_3_code 108 = .ok (.goto (-83), 3) := by decide +kernel
set_option maxRecDepth 65536 in
set_option maxHeartbeats 40000000 in
theorem rmLC1 (l : Launch) (Z : State) (a0 : Array Value) (hw : ∀ d ∈ tables_1, d.before a0 Z = true) (ws : List Jvm.Cond) (a : Addr) (li : Addr) (q : Int64) (g : Int32) (w_VALUES : Addr) (k_VALUES : ClassId) (w_NEW : Addr) (w_CHANGED : Addr) (w_UNCHANGED : Addr) (w_CANCELLED : Addr) (mm : Int32) (t : Addr) (d : Addr) (kd : ClassId) (b2 : Addr) (k2 : ClassId) (j2 : Int64) (s2 : Int64) (c0 : Int64) (c1 : Int64) (c2 : Int64) (c3 : Int64) (h0 : Heap) (O0 : Ext Z.heap h0) (S_VALUES : Sta Z Z.heap "com/example/kertyma/kertyma/RowOutcome" "$VALUES" "[Lcom/example/kertyma/kertyma/RowOutcome;" (.ref w_VALUES)) (A_VALUES : Arv Z Z.heap w_VALUES k_VALUES (.object "com/example/kertyma/kertyma/RowOutcome") (4 : Int32) [(.ref w_NEW), (.ref w_CHANGED), (.ref w_UNCHANGED), (.ref w_CANCELLED)] .null) (E_VALUES : Exa Z Z.heap w_VALUES "[Lcom/example/kertyma/kertyma/RowOutcome;") (Ea : Exa Z h0 a "com/example/kertyma/kertyma/LoadCounts") (Ga : Z.heap.size ≤ a) (Fc : Fld Z h0 a "com/example/kertyma/kertyma/LoadCounts" "counts" "[J" .null) (Fj : Fld Z h0 a "com/example/kertyma/kertyma/LoadCounts" "rejected" "J" (.long (0 : Int64))) (Fs : Fld Z h0 a "com/example/kertyma/kertyma/LoadCounts" "resumedAfter" "J" (.long (0 : Int64))) (Ft : Fld Z h0 a "com/example/kertyma/kertyma/LoadCounts" "restartedAfter" "J" (.long (0 : Int64))) (Ff : Fld Z h0 a "com/example/kertyma/kertyma/LoadCounts" "finishedPartitions" "I" (.int (0 : Int32))) (El : Exa Z h0 li "java/util/ArrayList") (Nla : li ≠ a) (Fm : Fld Z h0 li "java/util/AbstractList" "modCount" "I" (.int mm)) (Fz : Fld Z h0 li "java/util/ArrayList" "size" "I" (.int (1 : Int32))) (Fe : Fld Z h0 li "java/util/ArrayList" "elementData" "[Ljava/lang/Object;" (.ref d)) (Vd : Arv Z h0 d kd (.object "java/lang/Object") (10 : Int32) [(.ref t), .null, .null, .null, .null, .null, .null, .null, .null, .null] .null) (Et : Exa Z h0 t "com/example/kertyma/kertyma/LoadCounts") (Hc : Fld Z h0 t "com/example/kertyma/kertyma/LoadCounts" "counts" "[J" (.ref b2)) (Hj : Fld Z h0 t "com/example/kertyma/kertyma/LoadCounts" "rejected" "J" (.long j2)) (Hs : Fld Z h0 t "com/example/kertyma/kertyma/LoadCounts" "resumedAfter" "J" (.long s2)) (V2 : Arv Z h0 b2 k2 .long (4 : Int32) [(.long c0), (.long c1), (.long c2), (.long c3)] (.long (0 : Int64))) (Nta : t ≠ a) (Nda : d ≠ a) (N2a : b2 ≠ a) :
    MetFree l (⟨"com/example/kertyma/kertyma/LoadCounts", "<init>", "(Ljava/util/List;JI)V"⟩ : MethodName) (head1 (Jvm.Cond.code (⟨"com/example/kertyma/kertyma/LoadCounts", "<init>", "(Ljava/util/List;JI)V"⟩ : MethodName) prog_4_method_3_code 10 none :: ws) ({ frames := 3, cells := 3, slots := 12, locals := 80 } : Room)) (fun av' U => av' = #[(.ref a), (.ref li), (.long q), (.int g)] ∧ Z.Warmed39 U.vm ∧ U.heap = h0) (fun _ _ _ _ _ => True) (fun _ U o U' => ∃ v L, o = .returned v ∧ Q_rmLC1 Z a li q g w_VALUES k_VALUES w_NEW w_CHANGED w_UNCHANGED w_CANCELLED mm t d kd b2 k2 j2 s2 c0 c1 c2 c3 h0 v U'.heap L ∧ FrameEnd U o U' L ({ frames := 3, cells := 3, slots := 12, locals := 80 } : Room).cells ({ frames := 3, cells := 3, slots := 12, locals := 80 } : Room).slots) := by
  refine MetFree.of_bodySF (plainFor_of_name pn_com_example_kertyma_kertyma_LoadCounts) hisR ?_
  intro p e s m args below meth c s₁ Bd hml0 hP hK
  obtain ⟨rfl, hZ, hh⟩ := hP
  have hx := Bd.exec
  have hby := Bd.bytes
  have hret := Bd.returns
  have hlk : meth.locks = false := Bd.notSynchronized
  have hml : c.maxLocals = 10 := hml0
  have hown : s.vm.findClass "com/example/kertyma/kertyma/LoadCounts" = some m.cls := findClass_of_methodNamed Bd.named
  have hnm := (name_of_methodNamed Bd.named Bd.method).1
  have X0 : Stand p l e ({ frames := 3, cells := 3, slots := 12, locals := 80 } : Room) s m #[(.ref a), (.ref li), (.long q), (.int g)] below meth c s₁ [] 0 0 := Stand.of_body Bd
  -- the walk
  have e0 : s₁.heap = h0 := by rw [← hh, Bd.state]; rfl
  have N0 := Fr.nil Z.heap.size
  have K0 := Keep.refl h0 [a]
  show Go p e below (GO s (Q_rmLC1 Z a li q g w_VALUES k_VALUES w_NEW w_CHANGED w_UNCHANGED w_CANCELLED mm t d kd b2 k2 j2 s2 c0 c1 c2 c3 h0) ({ frames := 3, cells := 3, slots := 12, locals := 80 } : Room).cells ({ frames := 3, cells := 3, slots := 12, locals := 80 } : Room).slots) (s₁.setTop (entryFrame m #[(.ref a), (.ref li), (.long q), (.int g)] 10))
  refine Go.st (fun t' k' => castTop (ef_rmLC1 m a li q g) k') ?_
  show Go p e below _ (s₁.setTop (mkF m 0 #[.val (.ref a), .val (.ref li), .val (.long q), .second, .val (.int g), .unset, .unset, .unset, .unset, .unset] []))
  refine Go.st (fun t' k' => XS.aloadN X0.here hx rfl (hb hby d13_0) rfl rfl k') ?_
  show Go p e below _ (s₁.setTop (mkF m 1 #[.val (.ref a), .val (.ref li), .val (.long q), .second, .val (.int g), .unset, .unset, .unset, .unset, .unset] [(.ref a)]))
  obtain ⟨T101, X101, e101, st101⟩ := initO X0 hx hZ hown (hw _ (List.mem_of_getElem? (i := 6) rfl)) (hw _ (List.mem_of_getElem? (i := 7) rfl)) (hw _ (List.mem_of_getElem? (i := 8) rfl)) e0 (g := (mkF m 1 #[.val (.ref a), .val (.ref li), .val (.long q), .second, .val (.int g), .unset, .unset, .unset, .unset, .unset] [(.ref a)])) rfl (by rw [hml]; rfl) rfl (hb hby d13_1) (by decide) (W := 0) (by show 2 * 0 + _ ≤ _; exact Nat.le_of_eq rfl) (by decide)
  refine Go.st st101 ?_
  show Go p e below _ (T101.setTop (mkF m 4 #[.val (.ref a), .val (.ref li), .val (.long q), .second, .val (.int g), .unset, .unset, .unset, .unset, .unset] []))
  refine Go.st (fun t' k' => XS.aloadN X101.here hx rfl (hb hby d13_4) rfl rfl k') ?_
  show Go p e below _ (T101.setTop (mkF m 5 #[.val (.ref a), .val (.ref li), .val (.long q), .second, .val (.int g), .unset, .unset, .unset, .unset, .unset] [(.ref a)]))
  obtain ⟨_, _, ⟨T102, L102, k102, n102⟩, -, X102, ⟨Lc102, hQ102, l102, y102, z102⟩, st102⟩ := Jvm.LawKit.callS X101 hx (y := (⟨"com/example/kertyma/kertyma/RowOutcome", "values", "()[Lcom/example/kertyma/kertyma/RowOutcome;"⟩ : MethodName)) hown (mvT hZ (hw _ (List.mem_of_getElem? (i := 9) rfl))) (mvT hZ (hw _ (List.mem_of_getElem? (i := 10) rfl))) (mvT hZ (hw _ (List.mem_of_getElem? (i := 11) rfl))) (mvT hZ (hw _ (List.mem_of_getElem? (i := 12) rfl))) (by decide) (backOf (W := 1) (rmValues l Z a0 hw [] w_VALUES k_VALUES w_NEW w_CHANGED w_UNCHANGED w_CANCELLED h0 O0 S_VALUES A_VALUES E_VALUES) hZ (hw _ (List.mem_of_getElem? (i := 12) rfl)) (hw _ (List.mem_of_getElem? (i := 11) rfl)) (by decide) (by decide)) (g := (mkF m 5 #[.val (.ref a), .val (.ref li), .val (.long q), .second, .val (.int g), .unset, .unset, .unset, .unset, .unset] [(.ref a)])) rfl (by rw [hml]; rfl) (argsL := []) (rest := [(.ref a)]) (lenOf pd____Lcom_example_kertyma_kertyma_RowOutcome_ rfl) rfl (by show 2 * 0 + _ ≤ _; exact Nat.le_of_eq rfl) (hb hby d13_5) (fun _ _ => ⟨rfl, e101, (by decide : 0 + 1 ≤ _), (by decide : 0 + 4 ≤ _)⟩)
  dsimp only [Pt.U, Pt.locs, Pt.cells, Pt.slots] at X102 l102 y102 z102 st102 hQ102
  subst l102 y102 z102
  obtain ⟨b_102, rfl, N102q, O102, Kc102, Vb_102, Sb_102⟩ := hQ102
  have N102 := Fr.app N0 N102q
  refine Go.st st102 ?_
  have Ea_h103 := Ea.keep Kc102
  have Fc_h103 := Fc.keep Kc102 nin0
  have Fj_h103 := Fj.keep Kc102 nin0
  have Fs_h103 := Fs.keep Kc102 nin0
  have Ft_h103 := Ft.keep Kc102 nin0
  have Ff_h103 := Ff.keep Kc102 nin0
  have El_h103 := El.keep Kc102
  have Fm_h103 := Fm.keep Kc102 nin0
  have Fz_h103 := Fz.keep Kc102 nin0
  have Fe_h103 := Fe.keep Kc102 nin0
  have Vd_h103 := Vd.keep Kc102 nin0
  have Et_h103 := Et.keep Kc102
  have Hc_h103 := Hc.keep Kc102 nin0
  have Hj_h103 := Hj.keep Kc102 nin0
  have Hs_h103 := Hs.keep Kc102 nin0
  have V2_h103 := V2.keep Kc102 nin0
  have K102 := K0.trans Kc102 all0
  have ne_w_VALUES_b_102 : w_VALUES ≠ b_102 := Nat.ne_of_lt (Nat.lt_of_lt_of_le (A_VALUES.ext O0).lt Sb_102)
  have ne_a_b_102 : a ≠ b_102 := Nat.ne_of_lt (Nat.lt_of_lt_of_le Ea.lt Sb_102)
  have ne_li_b_102 : li ≠ b_102 := Nat.ne_of_lt (Nat.lt_of_lt_of_le El.lt Sb_102)
  have ne_d_b_102 : d ≠ b_102 := Nat.ne_of_lt (Nat.lt_of_lt_of_le Vd.lt Sb_102)
  have ne_t_b_102 : t ≠ b_102 := Nat.ne_of_lt (Nat.lt_of_lt_of_le Et.lt Sb_102)
  have ne_b2_b_102 : b2 ≠ b_102 := Nat.ne_of_lt (Nat.lt_of_lt_of_le V2.lt Sb_102)
  have sz_b_102 : h0.size ≤ b_102 := Nat.le_trans K0.1 Sb_102
  show Go p e below _ (T102.setTop (mkF m 8 #[.val (.ref a), .val (.ref li), .val (.long q), .second, .val (.int g), .unset, .unset, .unset, .unset, .unset] [(.ref b_102), (.ref a)]))
  obtain ⟨cll104, Arl104, ql104, Szl104, Nzl104, Hsl104, Gsl104⟩ := (id Vb_102)
  refine Go.st (X102.arraylength hx Arl104.1 (State.isArrayOf_alike hZ.alike Arl104.2.1) (g := (mkF m 8 #[.val (.ref a), .val (.ref li), .val (.long q), .second, .val (.int g), .unset, .unset, .unset, .unset, .unset] [(.ref b_102), (.ref a)])) rfl rfl (hb hby d13_8)) ?_
  rw [len_of Szl104 Nzl104]
  show Go p e below _ (T102.setTop (mkF m 9 #[.val (.ref a), .val (.ref li), .val (.long q), .second, .val (.int g), .unset, .unset, .unset, .unset, .unset] [(.int (4 : Int32)), (.ref a)]))
  obtain ⟨T105, h105, k105, X105, e105, E105, A105, st105⟩ := newP X102 hx hZ (hw _ (List.mem_of_getElem? (i := 29) rfl)) rfl (g := (mkF m 9 #[.val (.ref a), .val (.ref li), .val (.long q), .second, .val (.int g), .unset, .unset, .unset, .unset, .unset] [(.int (4 : Int32)), (.ref a)])) rfl (hb hby d13_9) rfl (by decide) (cap := 4) (by decide) (by decide) (by decide) (by decide)
  obtain ⟨b105, g105⟩ : ∃ z, z = T102.heap.size := ⟨_, rfl⟩
  rw [← g105] at A105 st105
  refine Go.st st105 ?_
  have ne_w_VALUES_b105 : w_VALUES ≠ b105 := Nat.ne_of_lt (Nat.lt_of_lt_of_le (A_VALUES.ext O102).lt (Nat.le_of_eq g105.symm))
  have ne_a_b105 : a ≠ b105 := Nat.ne_of_lt (Nat.lt_of_lt_of_le Ea_h103.lt (Nat.le_of_eq g105.symm))
  have ne_li_b105 : li ≠ b105 := Nat.ne_of_lt (Nat.lt_of_lt_of_le El_h103.lt (Nat.le_of_eq g105.symm))
  have ne_d_b105 : d ≠ b105 := Nat.ne_of_lt (Nat.lt_of_lt_of_le Vd_h103.lt (Nat.le_of_eq g105.symm))
  have ne_t_b105 : t ≠ b105 := Nat.ne_of_lt (Nat.lt_of_lt_of_le Et_h103.lt (Nat.le_of_eq g105.symm))
  have ne_b2_b105 : b2 ≠ b105 := Nat.ne_of_lt (Nat.lt_of_lt_of_le V2_h103.lt (Nat.le_of_eq g105.symm))
  have ne_b_102_b105 : b_102 ≠ b105 := Nat.ne_of_lt (Nat.lt_of_lt_of_le Vb_102.lt (Nat.le_of_eq g105.symm))
  have g_b105 : Z.heap.size ≤ b105 := Nat.le_trans O102.1 (Nat.le_of_eq g105.symm)
  have sz_b105 : h0.size ≤ b105 := Nat.le_trans K102.1 (Nat.le_of_eq g105.symm)
  have Ea_h106 := Ea_h103.ext E105
  have Fc_h106 := Fc_h103.ext E105
  have Fj_h106 := Fj_h103.ext E105
  have Fs_h106 := Fs_h103.ext E105
  have Ft_h106 := Ft_h103.ext E105
  have Ff_h106 := Ff_h103.ext E105
  have El_h106 := El_h103.ext E105
  have Fm_h106 := Fm_h103.ext E105
  have Fz_h106 := Fz_h103.ext E105
  have Fe_h106 := Fe_h103.ext E105
  have Vd_h106 := Vd_h103.ext E105
  have Et_h106 := Et_h103.ext E105
  have Hc_h106 := Hc_h103.ext E105
  have Hj_h106 := Hj_h103.ext E105
  have Hs_h106 := Hs_h103.ext E105
  have V2_h106 := V2_h103.ext E105
  have Vb_102_h106 := Vb_102.ext E105
  have O105 := own_ext_trans O102 E105
  have K105 := K102.ext E105
  have V_b105 : Arv Z h105 b105 k105 .long (4 : Int32) [(.long (0 : Int64)), (.long (0 : Int64)), (.long (0 : Int64)), (.long (0 : Int64))] (.long (0 : Int64)) := (Arv.new A105 (by decide)).pad (pad_rep [] (.long (0 : Int64)) 4)
  show Go p e below _ (T105.setTop (mkF m 11 #[.val (.ref a), .val (.ref li), .val (.long q), .second, .val (.int g), .unset, .unset, .unset, .unset, .unset] [(.ref b105), (.ref a)]))
  obtain ⟨T107, h107, X107, e107, W107, st107⟩ := putF X105 hx hZ hown (host := "") (Or.inl (hw _ (List.mem_of_getElem? (i := 30) rfl))) Via.refl e105 Fc_h106 Ea_h106 (Or.inr ⟨(hw _ (List.mem_of_getElem? (i := 31) rfl)), rfl, hnm⟩) (hw _ (List.mem_of_getElem? (i := 1) rfl)) (ty := (.array .long)) (by decide) rfl rfl (g := (mkF m 11 #[.val (.ref a), .val (.ref li), .val (.long q), .second, .val (.int g), .unset, .unset, .unset, .unset, .unset] [(.ref b105), (.ref a)])) rfl rfl (hb hby d13_11)
  refine Go.st st107 ?_
  have Fw107 : Fld Z h107 a "com/example/kertyma/kertyma/LoadCounts" "counts" "[J" (.ref b105) := Fc_h106.same W107
  have Ea_h108 := Ea_h106.wr W107
  have Fj_h108 := Fj_h106.other W107 (Or.inr (slot_ne (Or.inl (hw _ (List.mem_of_getElem? (i := 154) rfl))) (Or.inr (hw _ (List.mem_of_getElem? (i := 31) rfl))) (by decide) (t := .long) (t' := (.array .long)) (by decide) (by decide)))
  have Fs_h108 := Fs_h106.other W107 (Or.inr (slot_ne (Or.inr (hw _ (List.mem_of_getElem? (i := 33) rfl))) (Or.inr (hw _ (List.mem_of_getElem? (i := 31) rfl))) (by decide) (t := .long) (t' := (.array .long)) (by decide) (by decide)))
  have Ft_h108 := Ft_h106.other W107 (Or.inr (slot_ne (Or.inr (hw _ (List.mem_of_getElem? (i := 35) rfl))) (Or.inr (hw _ (List.mem_of_getElem? (i := 31) rfl))) (by decide) (t := .long) (t' := (.array .long)) (by decide) (by decide)))
  have Ff_h108 := Ff_h106.other W107 (Or.inr (slot_ne (Or.inr (hw _ (List.mem_of_getElem? (i := 37) rfl))) (Or.inr (hw _ (List.mem_of_getElem? (i := 31) rfl))) (by decide) (t := .int) (t' := (.array .long)) (by decide) (by decide)))
  have El_h108 := El_h106.wr W107
  have Fm_h108 := Fm_h106.other W107 (Or.inl Nla)
  have Fz_h108 := Fz_h106.other W107 (Or.inl Nla)
  have Fe_h108 := Fe_h106.other W107 (Or.inl Nla)
  have Vd_h108 := Vd_h106.other W107 Nda
  have Et_h108 := Et_h106.wr W107
  have Hc_h108 := Hc_h106.other W107 (Or.inl Nta)
  have Hj_h108 := Hj_h106.other W107 (Or.inl Nta)
  have Hs_h108 := Hs_h106.other W107 (Or.inl Nta)
  have V2_h108 := V2_h106.other W107 N2a
  have Vb_102_h108 := Vb_102_h106.other W107 (Ne.symm ne_a_b_102)
  have V_b105_h108 := V_b105.other W107 (Ne.symm ne_a_b105)
  have O107 := own_ext_wr O105 W107 Ga
  have K107 := K105.wr W107 (Or.inl (List.mem_of_getElem? (i := 0) rfl))
  have N107 := Fr.snoc X107 N102 Ga
  show Go p e below _ (T107.setTop (mkF m 14 #[.val (.ref a), .val (.ref li), .val (.long q), .second, .val (.int g), .unset, .unset, .unset, .unset, .unset] []))
  refine Go.st (fun t' k' => XS.lconst X107.here hx rfl (hb hby d13_14) k') ?_
  show Go p e below _ (T107.setTop (mkF m 15 #[.val (.ref a), .val (.ref li), .val (.long q), .second, .val (.int g), .unset, .unset, .unset, .unset, .unset] [(.long (0 : Int64))]))
  refine Go.st (fun t' k' => XS.lstore X107.here hx rfl (hb hby d13_15) rfl (l' := #[.val (.ref a), .val (.ref li), .val (.long q), .second, .val (.int g), .val (.long (0 : Int64)), .second, .unset, .unset, .unset]) rfl k') ?_
  show Go p e below _ (T107.setTop (mkF m 17 #[.val (.ref a), .val (.ref li), .val (.long q), .second, .val (.int g), .val (.long (0 : Int64)), .second, .unset, .unset, .unset] []))
  refine Go.st (fun t' k' => XS.aloadN X107.here hx rfl (hb hby d13_17) rfl rfl k') ?_
  show Go p e below _ (T107.setTop (mkF m 18 #[.val (.ref a), .val (.ref li), .val (.long q), .second, .val (.int g), .val (.long (0 : Int64)), .second, .unset, .unset, .unset] [(.ref li)]))
  obtain ⟨cq109, kq109, q109a, q109b, q109c⟩ := isOf hZ e107 El_h108
  obtain ⟨_, _, ⟨T109, L109, k109, n109⟩, -, X109, ⟨Lc109, hQ109, l109, y109, z109⟩, st109⟩ := X107.interfaceBack hx (xi := (⟨"java/util/List", "iterator", "()Ljava/util/Iterator;"⟩ : MethodName)) (y := (⟨"java/util/ArrayList", "iterator", "()Ljava/util/Iterator;"⟩ : MethodName)) hown (mvT hZ (hw _ (List.mem_of_getElem? (i := 101) rfl))) (mvT hZ (hw _ (List.mem_of_getElem? (i := 102) rfl))) (mvT hZ (hw _ (List.mem_of_getElem? (i := 103) rfl))) (mvT hZ (hw _ (List.mem_of_getElem? (i := 104) rfl))) (mvT hZ (hw _ (List.mem_of_getElem? (i := 105) rfl))) (mvT hZ (hw _ (List.mem_of_getElem? (i := 106) rfl))) (mvT hZ (hw _ (List.mem_of_getElem? (i := 107) rfl))) (mvT hZ (hw _ (List.mem_of_getElem? (i := 108) rfl))) (by decide) (backOf (W := 0) (rmIter l Z a0 hw [] li mm h107 O107 Fm_h108) hZ (hw _ (List.mem_of_getElem? (i := 109) rfl)) (hw _ (List.mem_of_getElem? (i := 45) rfl)) (by decide) (by decide)) q109a q109b q109c (g := (mkF m 18 #[.val (.ref a), .val (.ref li), .val (.long q), .second, .val (.int g), .val (.long (0 : Int64)), .second, .unset, .unset, .unset] [(.ref li)])) rfl (by rw [hml]; rfl) (Steps.refl _) (argsL := []) (rest := []) (lenOf pd___Ljava_util_Iterator_ rfl) rfl (by show 2 * 0 + _ ≤ _; exact Nat.le_of_eq rfl) (hb hby d13_18) (fun _ _ => ⟨rfl, e107, (by decide : 2 + 1 ≤ _), (by decide : 8 + 4 ≤ _)⟩)
  dsimp only [Pt.U, Pt.locs, Pt.cells, Pt.slots] at X109 l109 y109 z109 st109 hQ109
  subst l109 y109 z109
  obtain ⟨b_109, rfl, N109q, O109, Kc109, Eb_109, Gb_109, Sb_109, Pt_109, Pc_109, Plr_109, Px_109⟩ := hQ109
  have N109 := Fr.app N107 N109q
  refine Go.tr st109 ?_
  have Ea_h110 := Ea_h108.keep Kc109
  have Fj_h110 := Fj_h108.keep Kc109 nin0
  have Fs_h110 := Fs_h108.keep Kc109 nin0
  have Ft_h110 := Ft_h108.keep Kc109 nin0
  have Ff_h110 := Ff_h108.keep Kc109 nin0
  have El_h110 := El_h108.keep Kc109
  have Fm_h110 := Fm_h108.keep Kc109 nin0
  have Fz_h110 := Fz_h108.keep Kc109 nin0
  have Fe_h110 := Fe_h108.keep Kc109 nin0
  have Vd_h110 := Vd_h108.keep Kc109 nin0
  have Et_h110 := Et_h108.keep Kc109
  have Hc_h110 := Hc_h108.keep Kc109 nin0
  have Hj_h110 := Hj_h108.keep Kc109 nin0
  have Hs_h110 := Hs_h108.keep Kc109 nin0
  have V2_h110 := V2_h108.keep Kc109 nin0
  have Vb_102_h110 := Vb_102_h108.keep Kc109 nin0
  have V_b105_h110 := V_b105_h108.keep Kc109 nin0
  have Fw107_h110 := Fw107.keep Kc109 nin0
  have K109 := K107.trans Kc109 all0
  have ne_w_VALUES_b_109 : w_VALUES ≠ b_109 := Nat.ne_of_lt (Nat.lt_of_lt_of_le (A_VALUES.ext O107).lt Sb_109)
  have ne_a_b_109 : a ≠ b_109 := Nat.ne_of_lt (Nat.lt_of_lt_of_le Ea_h108.lt Sb_109)
  have ne_li_b_109 : li ≠ b_109 := Nat.ne_of_lt (Nat.lt_of_lt_of_le El_h108.lt Sb_109)
  have ne_d_b_109 : d ≠ b_109 := Nat.ne_of_lt (Nat.lt_of_lt_of_le Vd_h108.lt Sb_109)
  have ne_t_b_109 : t ≠ b_109 := Nat.ne_of_lt (Nat.lt_of_lt_of_le Et_h108.lt Sb_109)
  have ne_b2_b_109 : b2 ≠ b_109 := Nat.ne_of_lt (Nat.lt_of_lt_of_le V2_h108.lt Sb_109)
  have ne_b_102_b_109 : b_102 ≠ b_109 := Nat.ne_of_lt (Nat.lt_of_lt_of_le Vb_102_h108.lt Sb_109)
  have ne_b105_b_109 : b105 ≠ b_109 := Nat.ne_of_lt (Nat.lt_of_lt_of_le V_b105_h108.lt Sb_109)
  have sz_b_109 : h0.size ≤ b_109 := Nat.le_trans K107.1 Sb_109
  show Go p e below _ (T109.setTop (mkF m 23 #[.val (.ref a), .val (.ref li), .val (.long q), .second, .val (.int g), .val (.long (0 : Int64)), .second, .unset, .unset, .unset] [(.ref b_109)]))
  refine Go.st (fun t' k' => XS.astore X109.here hx rfl (hb hby d13_23) rfl rfl (l' := #[.val (.ref a), .val (.ref li), .val (.long q), .second, .val (.int g), .val (.long (0 : Int64)), .second, .val (.ref b_109), .unset, .unset]) rfl k') ?_
  show Go p e below _ (T109.setTop (mkF m 25 #[.val (.ref a), .val (.ref li), .val (.long q), .second, .val (.int g), .val (.long (0 : Int64)), .second, .val (.ref b_109), .unset, .unset] []))
  refine Go.st (fun t' k' => XS.aload X109.here hx rfl (hb hby d13_25) rfl rfl k') ?_
  show Go p e below _ (T109.setTop (mkF m 27 #[.val (.ref a), .val (.ref li), .val (.long q), .second, .val (.int g), .val (.long (0 : Int64)), .second, .val (.ref b_109), .unset, .unset] [(.ref b_109)]))
  obtain ⟨cq111, kq111, q111a, q111b, q111c⟩ := isOf hZ rfl Eb_109
  obtain ⟨_, _, ⟨T111, L111, k111, n111⟩, -, X111, ⟨Lc111, hQ111, l111, y111, z111⟩, st111⟩ := X109.interfaceBack hx (xi := (⟨"java/util/Iterator", "hasNext", "()Z"⟩ : MethodName)) (y := (⟨"java/util/ArrayList$Itr", "hasNext", "()Z"⟩ : MethodName)) hown (mvT hZ (hw _ (List.mem_of_getElem? (i := 125) rfl))) (mvT hZ (hw _ (List.mem_of_getElem? (i := 126) rfl))) (mvT hZ (hw _ (List.mem_of_getElem? (i := 127) rfl))) (mvT hZ (hw _ (List.mem_of_getElem? (i := 128) rfl))) (mvT hZ (hw _ (List.mem_of_getElem? (i := 129) rfl))) (mvT hZ (hw _ (List.mem_of_getElem? (i := 130) rfl))) (mvT hZ (hw _ (List.mem_of_getElem? (i := 131) rfl))) (mvT hZ (hw _ (List.mem_of_getElem? (i := 132) rfl))) (by decide) (backOf (W := 0) (rmHas l Z a0 hw [] b_109 li ((0 : Int32)) ((1 : Int32)) T109.heap O109 Pt_109 Pc_109 Fz_h110) hZ (hw _ (List.mem_of_getElem? (i := 133) rfl)) (hw _ (List.mem_of_getElem? (i := 112) rfl)) (by decide) (by decide)) q111a q111b q111c (g := (mkF m 27 #[.val (.ref a), .val (.ref li), .val (.long q), .second, .val (.int g), .val (.long (0 : Int64)), .second, .val (.ref b_109), .unset, .unset] [(.ref b_109)])) rfl (by rw [hml]; rfl) (Steps.refl _) (argsL := []) (rest := []) (lenOf pd___Z rfl) rfl (by show 2 * 0 + _ ≤ _; exact Nat.le_of_eq rfl) (hb hby d13_27) (fun _ _ => ⟨rfl, rfl, (by decide : 3 + 0 ≤ _), (by decide : 12 + 0 ≤ _)⟩)
  dsimp only [Pt.U, Pt.locs, Pt.cells, Pt.slots] at X111 l111 y111 z111 st111 hQ111
  subst l111 y111 z111
  obtain ⟨rfl, rfl, e111⟩ := hQ111
  have N111 := Fr.app N109 (Fr.nil _)
  refine Go.tr st111 ?_
  show Go p e below _ (T111.setTop (mkF m 32 #[.val (.ref a), .val (.ref li), .val (.long q), .second, .val (.int g), .val (.long (0 : Int64)), .second, .val (.ref b_109), .unset, .unset] [(.int (1 : Int32))]))
  refine Go.st (fun t' k' => XS.ifNo X111.here hx rfl (hb hby d13_32) rfl ((if0 _ _).trans (feq (by decide : ¬ ((1 : Int32) = (0 : Int32)))).1) k') ?_
  show Go p e below _ (T111.setTop (mkF m 35 #[.val (.ref a), .val (.ref li), .val (.long q), .second, .val (.int g), .val (.long (0 : Int64)), .second, .val (.ref b_109), .unset, .unset] []))
  refine Go.st (fun t' k' => XS.aload X111.here hx rfl (hb hby d13_35) rfl rfl k') ?_
  show Go p e below _ (T111.setTop (mkF m 37 #[.val (.ref a), .val (.ref li), .val (.long q), .second, .val (.int g), .val (.long (0 : Int64)), .second, .val (.ref b_109), .unset, .unset] [(.ref b_109)]))
  obtain ⟨cq112, kq112, q112a, q112b, q112c⟩ := isOf hZ e111 Eb_109
  obtain ⟨_, _, ⟨T112, L112, k112, n112⟩, -, X112, ⟨Lc112, hQ112, l112, y112, z112⟩, st112⟩ := X111.interfaceBack hx (xi := (⟨"java/util/Iterator", "next", "()Ljava/lang/Object;"⟩ : MethodName)) (y := (⟨"java/util/ArrayList$Itr", "next", "()Ljava/lang/Object;"⟩ : MethodName)) hown (mvT hZ (hw _ (List.mem_of_getElem? (i := 137) rfl))) (mvT hZ (hw _ (List.mem_of_getElem? (i := 138) rfl))) (mvT hZ (hw _ (List.mem_of_getElem? (i := 139) rfl))) (mvT hZ (hw _ (List.mem_of_getElem? (i := 140) rfl))) (mvT hZ (hw _ (List.mem_of_getElem? (i := 141) rfl))) (mvT hZ (hw _ (List.mem_of_getElem? (i := 142) rfl))) (mvT hZ (hw _ (List.mem_of_getElem? (i := 143) rfl))) (mvT hZ (hw _ (List.mem_of_getElem? (i := 132) rfl))) (by decide) (backOf (W := 0) (rmNext l Z a0 hw [] b_109 li d kd t mm ((-1 : Int32)) T109.heap O109 Eb_109 Gb_109 Pt_109 Pc_109 Plr_109 Px_109 Fm_h110 Fz_h110 Fe_h110 Vd_h110 ne_li_b_109 ne_d_b_109) hZ (hw _ (List.mem_of_getElem? (i := 144) rfl)) (hw _ (List.mem_of_getElem? (i := 112) rfl)) (by decide) (by decide)) q112a q112b q112c (g := (mkF m 37 #[.val (.ref a), .val (.ref li), .val (.long q), .second, .val (.int g), .val (.long (0 : Int64)), .second, .val (.ref b_109), .unset, .unset] [(.ref b_109)])) rfl (by rw [hml]; rfl) (Steps.refl _) (argsL := []) (rest := []) (lenOf pd___Ljava_lang_Object_ rfl) rfl (by show 2 * 0 + _ ≤ _; exact Nat.le_of_eq rfl) (hb hby d13_37) (fun _ _ => ⟨rfl, e111, (by decide : 3 + 0 ≤ _), (by decide : 12 + 0 ≤ _)⟩)
  dsimp only [Pt.U, Pt.locs, Pt.cells, Pt.slots] at X112 l112 y112 z112 st112 hQ112
  subst l112 y112 z112
  obtain ⟨rfl, N112q, O112, Kc112, Pt_112, Pc_112, Plr_112, Px_112⟩ := hQ112
  have N112 := Fr.app N111 N112q
  refine Go.tr st112 ?_
  have Ea_h113 := Ea_h110.keep Kc112
  have Fj_h113 := Fj_h110.keep Kc112 (ninS ne_a_b_109 nin0)
  have Fs_h113 := Fs_h110.keep Kc112 (ninS ne_a_b_109 nin0)
  have Ft_h113 := Ft_h110.keep Kc112 (ninS ne_a_b_109 nin0)
  have Ff_h113 := Ff_h110.keep Kc112 (ninS ne_a_b_109 nin0)
  have El_h113 := El_h110.keep Kc112
  have Fm_h113 := Fm_h110.keep Kc112 (ninS ne_li_b_109 nin0)
  have Fz_h113 := Fz_h110.keep Kc112 (ninS ne_li_b_109 nin0)
  have Fe_h113 := Fe_h110.keep Kc112 (ninS ne_li_b_109 nin0)
  have Vd_h113 := Vd_h110.keep Kc112 (ninS ne_d_b_109 nin0)
  have Et_h113 := Et_h110.keep Kc112
  have Hc_h113 := Hc_h110.keep Kc112 (ninS ne_t_b_109 nin0)
  have Hj_h113 := Hj_h110.keep Kc112 (ninS ne_t_b_109 nin0)
  have Hs_h113 := Hs_h110.keep Kc112 (ninS ne_t_b_109 nin0)
  have V2_h113 := V2_h110.keep Kc112 (ninS ne_b2_b_109 nin0)
  have Vb_102_h113 := Vb_102_h110.keep Kc112 (ninS ne_b_102_b_109 nin0)
  have V_b105_h113 := V_b105_h110.keep Kc112 (ninS ne_b105_b_109 nin0)
  have Fw107_h113 := Fw107_h110.keep Kc112 (ninS ne_a_b_109 nin0)
  have Eb_109_h113 := Eb_109.keep Kc112
  have K112 := K109.trans Kc112 (allS (Or.inr sz_b_109) all0)
  show Go p e below _ (T112.setTop (mkF m 42 #[.val (.ref a), .val (.ref li), .val (.long q), .second, .val (.int g), .val (.long (0 : Int64)), .second, .val (.ref b_109), .unset, .unset] [(.ref t)]))
  obtain ⟨T114, X114, e114, st114⟩ := castY X112 hx hZ hown (hw _ (List.mem_of_getElem? (i := 151) rfl)) rfl (Ins.self Et_h113) (g := (mkF m 42 #[.val (.ref a), .val (.ref li), .val (.long q), .second, .val (.int g), .val (.long (0 : Int64)), .second, .val (.ref b_109), .unset, .unset] [(.ref t)])) rfl rfl (hb hby d13_42)
  refine Go.st st114 ?_
  show Go p e below _ (T114.setTop (mkF m 45 #[.val (.ref a), .val (.ref li), .val (.long q), .second, .val (.int g), .val (.long (0 : Int64)), .second, .val (.ref b_109), .unset, .unset] [(.ref t)]))
  refine Go.st (fun t' k' => XS.astore X114.here hx rfl (hb hby d13_45) rfl rfl (l' := #[.val (.ref a), .val (.ref li), .val (.long q), .second, .val (.int g), .val (.long (0 : Int64)), .second, .val (.ref b_109), .val (.ref t), .unset]) rfl k') ?_
  show Go p e below _ (T114.setTop (mkF m 47 #[.val (.ref a), .val (.ref li), .val (.long q), .second, .val (.int g), .val (.long (0 : Int64)), .second, .val (.ref b_109), .val (.ref t), .unset] []))
  refine Go.st (fun t' k' => XS.iconst X114.here hx rfl (hb hby d13_47) k') ?_
  show Go p e below _ (T114.setTop (mkF m 48 #[.val (.ref a), .val (.ref li), .val (.long q), .second, .val (.int g), .val (.long (0 : Int64)), .second, .val (.ref b_109), .val (.ref t), .unset] [(.int (0 : Int32))]))
  refine Go.st (fun t' k' => XS.istore X114.here hx rfl (hb hby d13_48) rfl (l' := #[.val (.ref a), .val (.ref li), .val (.long q), .second, .val (.int g), .val (.long (0 : Int64)), .second, .val (.ref b_109), .val (.ref t), .val (.int (0 : Int32))]) rfl k') ?_
  show Go p e below _ (T114.setTop (mkF m 50 #[.val (.ref a), .val (.ref li), .val (.long q), .second, .val (.int g), .val (.long (0 : Int64)), .second, .val (.ref b_109), .val (.ref t), .val (.int (0 : Int32))] []))
  refine Go.st (fun t' k' => XS.iload X114.here hx rfl (hb hby d13_50) rfl k') ?_
  show Go p e below _ (T114.setTop (mkF m 52 #[.val (.ref a), .val (.ref li), .val (.long q), .second, .val (.int g), .val (.long (0 : Int64)), .second, .val (.ref b_109), .val (.ref t), .val (.int (0 : Int32))] [(.int (0 : Int32))]))
  refine Go.st (fun t' k' => XS.aloadN X114.here hx rfl (hb hby d13_52) rfl rfl k') ?_
  show Go p e below _ (T114.setTop (mkF m 53 #[.val (.ref a), .val (.ref li), .val (.long q), .second, .val (.int g), .val (.long (0 : Int64)), .second, .val (.ref b_109), .val (.ref t), .val (.int (0 : Int32))] [(.ref a), (.int (0 : Int32))]))
  obtain ⟨T115, X115, e115, st115⟩ := getF X114 hx hZ hown (host := "") (Or.inl (hw _ (List.mem_of_getElem? (i := 30) rfl))) Via.refl e114 Fw107_h113 (g := (mkF m 53 #[.val (.ref a), .val (.ref li), .val (.long q), .second, .val (.int g), .val (.long (0 : Int64)), .second, .val (.ref b_109), .val (.ref t), .val (.int (0 : Int32))] [(.ref a), (.int (0 : Int32))])) rfl rfl (hb hby d13_53)
  refine Go.st st115 ?_
  show Go p e below _ (T115.setTop (mkF m 56 #[.val (.ref a), .val (.ref li), .val (.long q), .second, .val (.int g), .val (.long (0 : Int64)), .second, .val (.ref b_109), .val (.ref t), .val (.int (0 : Int32))] [(.ref b105), (.int (0 : Int32))]))
  obtain ⟨cll116, Arl116, ql116, Szl116, Nzl116, Hsl116, Gsl116⟩ := (id V_b105_h113)
  refine Go.st (X115.arraylength hx (by rw [e115]; exact Arl116.1) (State.isArrayOf_alike hZ.alike Arl116.2.1) (g := (mkF m 56 #[.val (.ref a), .val (.ref li), .val (.long q), .second, .val (.int g), .val (.long (0 : Int64)), .second, .val (.ref b_109), .val (.ref t), .val (.int (0 : Int32))] [(.ref b105), (.int (0 : Int32))])) rfl rfl (hb hby d13_56)) ?_
  rw [len_of Szl116 Nzl116]
  show Go p e below _ (T115.setTop (mkF m 57 #[.val (.ref a), .val (.ref li), .val (.long q), .second, .val (.int g), .val (.long (0 : Int64)), .second, .val (.ref b_109), .val (.ref t), .val (.int (0 : Int32))] [(.int (4 : Int32)), (.int (0 : Int32))]))
  refine Go.st (fun t' k' => XS.icmpNo X115.here hx rfl (hb hby d13_57) rfl (tlt (by decide : (0 : Int32) < (4 : Int32))).2.1 k') ?_
  show Go p e below _ (T115.setTop (mkF m 60 #[.val (.ref a), .val (.ref li), .val (.long q), .second, .val (.int g), .val (.long (0 : Int64)), .second, .val (.ref b_109), .val (.ref t), .val (.int (0 : Int32))] []))
  refine Go.st (fun t' k' => XS.aloadN X115.here hx rfl (hb hby d13_60) rfl rfl k') ?_
  show Go p e below _ (T115.setTop (mkF m 61 #[.val (.ref a), .val (.ref li), .val (.long q), .second, .val (.int g), .val (.long (0 : Int64)), .second, .val (.ref b_109), .val (.ref t), .val (.int (0 : Int32))] [(.ref a)]))
  obtain ⟨T117, X117, e117, st117⟩ := getF X115 hx hZ hown (host := "") (Or.inl (hw _ (List.mem_of_getElem? (i := 30) rfl))) Via.refl e115 Fw107_h113 (g := (mkF m 61 #[.val (.ref a), .val (.ref li), .val (.long q), .second, .val (.int g), .val (.long (0 : Int64)), .second, .val (.ref b_109), .val (.ref t), .val (.int (0 : Int32))] [(.ref a)])) rfl rfl (hb hby d13_61)
  refine Go.st st117 ?_
  show Go p e below _ (T117.setTop (mkF m 64 #[.val (.ref a), .val (.ref li), .val (.long q), .second, .val (.int g), .val (.long (0 : Int64)), .second, .val (.ref b_109), .val (.ref t), .val (.int (0 : Int32))] [(.ref b105)]))
  refine Go.st (fun t' k' => XS.iload X117.here hx rfl (hb hby d13_64) rfl k') ?_
  show Go p e below _ (T117.setTop (mkF m 66 #[.val (.ref a), .val (.ref li), .val (.long q), .second, .val (.int g), .val (.long (0 : Int64)), .second, .val (.ref b_109), .val (.ref t), .val (.int (0 : Int32))] [(.int (0 : Int32)), (.ref b105)]))
  refine Go.st (fun t' k' => Jvm.Free.XT.dup2 X117.here hx rfl (hb hby d13_66) rfl rfl rfl k') ?_
  show Go p e below _ (T117.setTop (mkF m 67 #[.val (.ref a), .val (.ref li), .val (.long q), .second, .val (.int g), .val (.long (0 : Int64)), .second, .val (.ref b_109), .val (.ref t), .val (.int (0 : Int32))] [(.int (0 : Int32)), (.ref b105), (.int (0 : Int32)), (.ref b105)]))
  obtain ⟨cla118, Ara118, qa118, Sza118, Nza118, Hsa118, Gsa118⟩ := (id V_b105_h113)
  have hina118 : ¬ ((0 : Int32) < 0 ∨ cla118.slots.size ≤ ((0 : Int32)).toNatClampNeg) := inb_of Sza118 ⟨by decide, by decide⟩
  have hata118 : cla118.slots[((0 : Int32)).toNatClampNeg]? = some (.long (0 : Int64)) := Has.at Hsa118 hina118 rfl
  refine Go.st (X117.laload hx (j := (0 : Int32)) (v := (.long (0 : Int64))) (by rw [e117]; exact Ara118.1) (State.isArrayOf_alike hZ.alike Ara118.2.1) Ara118.2.2 hina118 hata118 (g := (mkF m 67 #[.val (.ref a), .val (.ref li), .val (.long q), .second, .val (.int g), .val (.long (0 : Int64)), .second, .val (.ref b_109), .val (.ref t), .val (.int (0 : Int32))] [(.int (0 : Int32)), (.ref b105), (.int (0 : Int32)), (.ref b105)])) rfl rfl (hb hby d13_67)) ?_
  show Go p e below _ (T117.setTop (mkF m 68 #[.val (.ref a), .val (.ref li), .val (.long q), .second, .val (.int g), .val (.long (0 : Int64)), .second, .val (.ref b_109), .val (.ref t), .val (.int (0 : Int32))] [(.long (0 : Int64)), (.int (0 : Int32)), (.ref b105)]))
  refine Go.st (fun t' k' => XS.aload X117.here hx rfl (hb hby d13_68) rfl rfl k') ?_
  show Go p e below _ (T117.setTop (mkF m 70 #[.val (.ref a), .val (.ref li), .val (.long q), .second, .val (.int g), .val (.long (0 : Int64)), .second, .val (.ref b_109), .val (.ref t), .val (.int (0 : Int32))] [(.ref t), (.long (0 : Int64)), (.int (0 : Int32)), (.ref b105)]))
  obtain ⟨T119, X119, e119, st119⟩ := getF X117 hx hZ hown (host := "") (Or.inl (hw _ (List.mem_of_getElem? (i := 30) rfl))) Via.refl e117 Hc_h113 (g := (mkF m 70 #[.val (.ref a), .val (.ref li), .val (.long q), .second, .val (.int g), .val (.long (0 : Int64)), .second, .val (.ref b_109), .val (.ref t), .val (.int (0 : Int32))] [(.ref t), (.long (0 : Int64)), (.int (0 : Int32)), (.ref b105)])) rfl rfl (hb hby d13_70)
  refine Go.st st119 ?_
  show Go p e below _ (T119.setTop (mkF m 73 #[.val (.ref a), .val (.ref li), .val (.long q), .second, .val (.int g), .val (.long (0 : Int64)), .second, .val (.ref b_109), .val (.ref t), .val (.int (0 : Int32))] [(.ref b2), (.long (0 : Int64)), (.int (0 : Int32)), (.ref b105)]))
  refine Go.st (fun t' k' => XS.iload X119.here hx rfl (hb hby d13_73) rfl k') ?_
  show Go p e below _ (T119.setTop (mkF m 75 #[.val (.ref a), .val (.ref li), .val (.long q), .second, .val (.int g), .val (.long (0 : Int64)), .second, .val (.ref b_109), .val (.ref t), .val (.int (0 : Int32))] [(.int (0 : Int32)), (.ref b2), (.long (0 : Int64)), (.int (0 : Int32)), (.ref b105)]))
  obtain ⟨cla120, Ara120, qa120, Sza120, Nza120, Hsa120, Gsa120⟩ := (id V2_h113)
  have hina120 : ¬ ((0 : Int32) < 0 ∨ cla120.slots.size ≤ ((0 : Int32)).toNatClampNeg) := inb_of Sza120 ⟨by decide, by decide⟩
  have hata120 : cla120.slots[((0 : Int32)).toNatClampNeg]? = some (.long c0) := Has.at Hsa120 hina120 rfl
  refine Go.st (X119.laload hx (j := (0 : Int32)) (v := (.long c0)) (by rw [e119]; exact Ara120.1) (State.isArrayOf_alike hZ.alike Ara120.2.1) Ara120.2.2 hina120 hata120 (g := (mkF m 75 #[.val (.ref a), .val (.ref li), .val (.long q), .second, .val (.int g), .val (.long (0 : Int64)), .second, .val (.ref b_109), .val (.ref t), .val (.int (0 : Int32))] [(.int (0 : Int32)), (.ref b2), (.long (0 : Int64)), (.int (0 : Int32)), (.ref b105)])) rfl rfl (hb hby d13_75)) ?_
  show Go p e below _ (T119.setTop (mkF m 76 #[.val (.ref a), .val (.ref li), .val (.long q), .second, .val (.int g), .val (.long (0 : Int64)), .second, .val (.ref b_109), .val (.ref t), .val (.int (0 : Int32))] [(.long c0), (.long (0 : Int64)), (.int (0 : Int32)), (.ref b105)]))
  refine Go.st (fun t' k' => XS.ladd X119.here hx rfl (hb hby d13_76) rfl k') ?_
  show Go p e below _ (T119.setTop (mkF m 77 #[.val (.ref a), .val (.ref li), .val (.long q), .second, .val (.int g), .val (.long (0 : Int64)), .second, .val (.ref b_109), .val (.ref t), .val (.int (0 : Int32))] [(.long ((0 : Int64) + c0)), (.int (0 : Int32)), (.ref b105)]))
  obtain ⟨cls121, Ars121, qs121, Szs121, Nzs121, Hss121, Gss121⟩ := (id V_b105_h113)
  have hins121 : ¬ ((0 : Int32) < 0 ∨ cls121.slots.size ≤ ((0 : Int32)).toNatClampNeg) := inb_of Szs121 ⟨by decide, by decide⟩
  obtain ⟨T122, h122, X122, e122, W122, st122⟩ := stJ X119 hx hZ e119 Ars121 (j := (0 : Int32)) hins121 (g := (mkF m 77 #[.val (.ref a), .val (.ref li), .val (.long q), .second, .val (.int g), .val (.long (0 : Int64)), .second, .val (.ref b_109), .val (.ref t), .val (.int (0 : Int32))] [(.long ((0 : Int64) + c0)), (.int (0 : Int32)), (.ref b105)])) rfl rfl (hb hby d13_77)
  refine Go.st st122 ?_
  have V_b105_122 : Arv Z h122 b105 k105 .long (4 : Int32) [(.long ((0 : Int64) + c0)), (.long (0 : Int64)), (.long (0 : Int64)), (.long (0 : Int64))] (.long (0 : Int64)) := (Arv.set Ars121 qs121 Szs121 Nzs121 Hss121 Gss121 rfl W122 0 rfl (Nat.le_of_ble_eq_true rfl))
  have Ea_h123 := Ea_h113.wr W122
  have Fj_h123 := Fj_h113.other W122 (Or.inl ne_a_b105)
  have Fs_h123 := Fs_h113.other W122 (Or.inl ne_a_b105)
  have Ft_h123 := Ft_h113.other W122 (Or.inl ne_a_b105)
  have Ff_h123 := Ff_h113.other W122 (Or.inl ne_a_b105)
  have El_h123 := El_h113.wr W122
  have Fm_h123 := Fm_h113.other W122 (Or.inl ne_li_b105)
  have Fz_h123 := Fz_h113.other W122 (Or.inl ne_li_b105)
  have Fe_h123 := Fe_h113.other W122 (Or.inl ne_li_b105)
  have Vd_h123 := Vd_h113.other W122 ne_d_b105
  have Et_h123 := Et_h113.wr W122
  have Hc_h123 := Hc_h113.other W122 (Or.inl ne_t_b105)
  have Hj_h123 := Hj_h113.other W122 (Or.inl ne_t_b105)
  have Hs_h123 := Hs_h113.other W122 (Or.inl ne_t_b105)
  have V2_h123 := V2_h113.other W122 ne_b2_b105
  have Vb_102_h123 := Vb_102_h113.other W122 ne_b_102_b105
  have Fw107_h123 := Fw107_h113.other W122 (Or.inl ne_a_b105)
  have Eb_109_h123 := Eb_109_h113.wr W122
  have Pt_112_h123 := Pt_112.other W122 (Or.inl (Ne.symm ne_b105_b_109))
  have Pc_112_h123 := Pc_112.other W122 (Or.inl (Ne.symm ne_b105_b_109))
  have Plr_112_h123 := Plr_112.other W122 (Or.inl (Ne.symm ne_b105_b_109))
  have Px_112_h123 := Px_112.other W122 (Or.inl (Ne.symm ne_b105_b_109))
  have O122 := own_ext_wr O112 W122 g_b105
  have K122 := K112.wr W122 (Or.inr sz_b105)
  have N122 := Fr.snoc X122 N112 g_b105
  show Go p e below _ (T122.setTop (mkF m 78 #[.val (.ref a), .val (.ref li), .val (.long q), .second, .val (.int g), .val (.long (0 : Int64)), .second, .val (.ref b_109), .val (.ref t), .val (.int (0 : Int32))] []))
  refine Go.st (fun t' k' => XS.iinc X122.here hx rfl (hb hby d13_78) rfl (l' := #[.val (.ref a), .val (.ref li), .val (.long q), .second, .val (.int g), .val (.long (0 : Int64)), .second, .val (.ref b_109), .val (.ref t), .val (.int (1 : Int32))]) rfl k') ?_
  show Go p e below _ (T122.setTop (mkF m 81 #[.val (.ref a), .val (.ref li), .val (.long q), .second, .val (.int g), .val (.long (0 : Int64)), .second, .val (.ref b_109), .val (.ref t), .val (.int (1 : Int32))] []))
  refine Go.st (fun t' k' => XS.goto X122.here hx rfl (pc0 := 81) (pc' := 50) rfl (hb hby d13_81) (by decide) (by decide) k') ?_
  show Go p e below _ (T122.setTop (mkF m 50 #[.val (.ref a), .val (.ref li), .val (.long q), .second, .val (.int g), .val (.long (0 : Int64)), .second, .val (.ref b_109), .val (.ref t), .val (.int (1 : Int32))] []))
  refine Go.st (fun t' k' => XS.iload X122.here hx rfl (hb hby d13_50) rfl k') ?_
  show Go p e below _ (T122.setTop (mkF m 52 #[.val (.ref a), .val (.ref li), .val (.long q), .second, .val (.int g), .val (.long (0 : Int64)), .second, .val (.ref b_109), .val (.ref t), .val (.int (1 : Int32))] [(.int (1 : Int32))]))
  refine Go.st (fun t' k' => XS.aloadN X122.here hx rfl (hb hby d13_52) rfl rfl k') ?_
  show Go p e below _ (T122.setTop (mkF m 53 #[.val (.ref a), .val (.ref li), .val (.long q), .second, .val (.int g), .val (.long (0 : Int64)), .second, .val (.ref b_109), .val (.ref t), .val (.int (1 : Int32))] [(.ref a), (.int (1 : Int32))]))
  obtain ⟨T124, X124, e124, st124⟩ := getF X122 hx hZ hown (host := "") (Or.inl (hw _ (List.mem_of_getElem? (i := 30) rfl))) Via.refl e122 Fw107_h123 (g := (mkF m 53 #[.val (.ref a), .val (.ref li), .val (.long q), .second, .val (.int g), .val (.long (0 : Int64)), .second, .val (.ref b_109), .val (.ref t), .val (.int (1 : Int32))] [(.ref a), (.int (1 : Int32))])) rfl rfl (hb hby d13_53)
  refine Go.st st124 ?_
  show Go p e below _ (T124.setTop (mkF m 56 #[.val (.ref a), .val (.ref li), .val (.long q), .second, .val (.int g), .val (.long (0 : Int64)), .second, .val (.ref b_109), .val (.ref t), .val (.int (1 : Int32))] [(.ref b105), (.int (1 : Int32))]))
  obtain ⟨cll125, Arl125, ql125, Szl125, Nzl125, Hsl125, Gsl125⟩ := (id V_b105_122)
  refine Go.st (X124.arraylength hx (by rw [e124]; exact Arl125.1) (State.isArrayOf_alike hZ.alike Arl125.2.1) (g := (mkF m 56 #[.val (.ref a), .val (.ref li), .val (.long q), .second, .val (.int g), .val (.long (0 : Int64)), .second, .val (.ref b_109), .val (.ref t), .val (.int (1 : Int32))] [(.ref b105), (.int (1 : Int32))])) rfl rfl (hb hby d13_56)) ?_
  rw [len_of Szl125 Nzl125]
  show Go p e below _ (T124.setTop (mkF m 57 #[.val (.ref a), .val (.ref li), .val (.long q), .second, .val (.int g), .val (.long (0 : Int64)), .second, .val (.ref b_109), .val (.ref t), .val (.int (1 : Int32))] [(.int (4 : Int32)), (.int (1 : Int32))]))
  refine Go.st (fun t' k' => XS.icmpNo X124.here hx rfl (hb hby d13_57) rfl (tlt (by decide : (1 : Int32) < (4 : Int32))).2.1 k') ?_
  show Go p e below _ (T124.setTop (mkF m 60 #[.val (.ref a), .val (.ref li), .val (.long q), .second, .val (.int g), .val (.long (0 : Int64)), .second, .val (.ref b_109), .val (.ref t), .val (.int (1 : Int32))] []))
  refine Go.st (fun t' k' => XS.aloadN X124.here hx rfl (hb hby d13_60) rfl rfl k') ?_
  show Go p e below _ (T124.setTop (mkF m 61 #[.val (.ref a), .val (.ref li), .val (.long q), .second, .val (.int g), .val (.long (0 : Int64)), .second, .val (.ref b_109), .val (.ref t), .val (.int (1 : Int32))] [(.ref a)]))
  obtain ⟨T126, X126, e126, st126⟩ := getF X124 hx hZ hown (host := "") (Or.inl (hw _ (List.mem_of_getElem? (i := 30) rfl))) Via.refl e124 Fw107_h123 (g := (mkF m 61 #[.val (.ref a), .val (.ref li), .val (.long q), .second, .val (.int g), .val (.long (0 : Int64)), .second, .val (.ref b_109), .val (.ref t), .val (.int (1 : Int32))] [(.ref a)])) rfl rfl (hb hby d13_61)
  refine Go.st st126 ?_
  show Go p e below _ (T126.setTop (mkF m 64 #[.val (.ref a), .val (.ref li), .val (.long q), .second, .val (.int g), .val (.long (0 : Int64)), .second, .val (.ref b_109), .val (.ref t), .val (.int (1 : Int32))] [(.ref b105)]))
  refine Go.st (fun t' k' => XS.iload X126.here hx rfl (hb hby d13_64) rfl k') ?_
  show Go p e below _ (T126.setTop (mkF m 66 #[.val (.ref a), .val (.ref li), .val (.long q), .second, .val (.int g), .val (.long (0 : Int64)), .second, .val (.ref b_109), .val (.ref t), .val (.int (1 : Int32))] [(.int (1 : Int32)), (.ref b105)]))
  refine Go.st (fun t' k' => Jvm.Free.XT.dup2 X126.here hx rfl (hb hby d13_66) rfl rfl rfl k') ?_
  show Go p e below _ (T126.setTop (mkF m 67 #[.val (.ref a), .val (.ref li), .val (.long q), .second, .val (.int g), .val (.long (0 : Int64)), .second, .val (.ref b_109), .val (.ref t), .val (.int (1 : Int32))] [(.int (1 : Int32)), (.ref b105), (.int (1 : Int32)), (.ref b105)]))
  obtain ⟨cla127, Ara127, qa127, Sza127, Nza127, Hsa127, Gsa127⟩ := (id V_b105_122)
  have hina127 : ¬ ((1 : Int32) < 0 ∨ cla127.slots.size ≤ ((1 : Int32)).toNatClampNeg) := inb_of Sza127 ⟨by decide, by decide⟩
  have hata127 : cla127.slots[((1 : Int32)).toNatClampNeg]? = some (.long (0 : Int64)) := Has.at Hsa127 hina127 rfl
  refine Go.st (X126.laload hx (j := (1 : Int32)) (v := (.long (0 : Int64))) (by rw [e126]; exact Ara127.1) (State.isArrayOf_alike hZ.alike Ara127.2.1) Ara127.2.2 hina127 hata127 (g := (mkF m 67 #[.val (.ref a), .val (.ref li), .val (.long q), .second, .val (.int g), .val (.long (0 : Int64)), .second, .val (.ref b_109), .val (.ref t), .val (.int (1 : Int32))] [(.int (1 : Int32)), (.ref b105), (.int (1 : Int32)), (.ref b105)])) rfl rfl (hb hby d13_67)) ?_
  show Go p e below _ (T126.setTop (mkF m 68 #[.val (.ref a), .val (.ref li), .val (.long q), .second, .val (.int g), .val (.long (0 : Int64)), .second, .val (.ref b_109), .val (.ref t), .val (.int (1 : Int32))] [(.long (0 : Int64)), (.int (1 : Int32)), (.ref b105)]))
  refine Go.st (fun t' k' => XS.aload X126.here hx rfl (hb hby d13_68) rfl rfl k') ?_
  show Go p e below _ (T126.setTop (mkF m 70 #[.val (.ref a), .val (.ref li), .val (.long q), .second, .val (.int g), .val (.long (0 : Int64)), .second, .val (.ref b_109), .val (.ref t), .val (.int (1 : Int32))] [(.ref t), (.long (0 : Int64)), (.int (1 : Int32)), (.ref b105)]))
  obtain ⟨T128, X128, e128, st128⟩ := getF X126 hx hZ hown (host := "") (Or.inl (hw _ (List.mem_of_getElem? (i := 30) rfl))) Via.refl e126 Hc_h123 (g := (mkF m 70 #[.val (.ref a), .val (.ref li), .val (.long q), .second, .val (.int g), .val (.long (0 : Int64)), .second, .val (.ref b_109), .val (.ref t), .val (.int (1 : Int32))] [(.ref t), (.long (0 : Int64)), (.int (1 : Int32)), (.ref b105)])) rfl rfl (hb hby d13_70)
  refine Go.st st128 ?_
  show Go p e below _ (T128.setTop (mkF m 73 #[.val (.ref a), .val (.ref li), .val (.long q), .second, .val (.int g), .val (.long (0 : Int64)), .second, .val (.ref b_109), .val (.ref t), .val (.int (1 : Int32))] [(.ref b2), (.long (0 : Int64)), (.int (1 : Int32)), (.ref b105)]))
  refine Go.st (fun t' k' => XS.iload X128.here hx rfl (hb hby d13_73) rfl k') ?_
  show Go p e below _ (T128.setTop (mkF m 75 #[.val (.ref a), .val (.ref li), .val (.long q), .second, .val (.int g), .val (.long (0 : Int64)), .second, .val (.ref b_109), .val (.ref t), .val (.int (1 : Int32))] [(.int (1 : Int32)), (.ref b2), (.long (0 : Int64)), (.int (1 : Int32)), (.ref b105)]))
  obtain ⟨cla129, Ara129, qa129, Sza129, Nza129, Hsa129, Gsa129⟩ := (id V2_h123)
  have hina129 : ¬ ((1 : Int32) < 0 ∨ cla129.slots.size ≤ ((1 : Int32)).toNatClampNeg) := inb_of Sza129 ⟨by decide, by decide⟩
  have hata129 : cla129.slots[((1 : Int32)).toNatClampNeg]? = some (.long c1) := Has.at Hsa129 hina129 rfl
  refine Go.st (X128.laload hx (j := (1 : Int32)) (v := (.long c1)) (by rw [e128]; exact Ara129.1) (State.isArrayOf_alike hZ.alike Ara129.2.1) Ara129.2.2 hina129 hata129 (g := (mkF m 75 #[.val (.ref a), .val (.ref li), .val (.long q), .second, .val (.int g), .val (.long (0 : Int64)), .second, .val (.ref b_109), .val (.ref t), .val (.int (1 : Int32))] [(.int (1 : Int32)), (.ref b2), (.long (0 : Int64)), (.int (1 : Int32)), (.ref b105)])) rfl rfl (hb hby d13_75)) ?_
  show Go p e below _ (T128.setTop (mkF m 76 #[.val (.ref a), .val (.ref li), .val (.long q), .second, .val (.int g), .val (.long (0 : Int64)), .second, .val (.ref b_109), .val (.ref t), .val (.int (1 : Int32))] [(.long c1), (.long (0 : Int64)), (.int (1 : Int32)), (.ref b105)]))
  refine Go.st (fun t' k' => XS.ladd X128.here hx rfl (hb hby d13_76) rfl k') ?_
  show Go p e below _ (T128.setTop (mkF m 77 #[.val (.ref a), .val (.ref li), .val (.long q), .second, .val (.int g), .val (.long (0 : Int64)), .second, .val (.ref b_109), .val (.ref t), .val (.int (1 : Int32))] [(.long ((0 : Int64) + c1)), (.int (1 : Int32)), (.ref b105)]))
  obtain ⟨cls130, Ars130, qs130, Szs130, Nzs130, Hss130, Gss130⟩ := (id V_b105_122)
  have hins130 : ¬ ((1 : Int32) < 0 ∨ cls130.slots.size ≤ ((1 : Int32)).toNatClampNeg) := inb_of Szs130 ⟨by decide, by decide⟩
  obtain ⟨T131, h131, X131, e131, W131, st131⟩ := stJ X128 hx hZ e128 Ars130 (j := (1 : Int32)) hins130 (g := (mkF m 77 #[.val (.ref a), .val (.ref li), .val (.long q), .second, .val (.int g), .val (.long (0 : Int64)), .second, .val (.ref b_109), .val (.ref t), .val (.int (1 : Int32))] [(.long ((0 : Int64) + c1)), (.int (1 : Int32)), (.ref b105)])) rfl rfl (hb hby d13_77)
  refine Go.st st131 ?_
  have V_b105_131 : Arv Z h131 b105 k105 .long (4 : Int32) [(.long ((0 : Int64) + c0)), (.long ((0 : Int64) + c1)), (.long (0 : Int64)), (.long (0 : Int64))] (.long (0 : Int64)) := (Arv.set Ars130 qs130 Szs130 Nzs130 Hss130 Gss130 rfl W131 1 rfl (Nat.le_of_ble_eq_true rfl))
  have Ea_h132 := Ea_h123.wr W131
  have Fj_h132 := Fj_h123.other W131 (Or.inl ne_a_b105)
  have Fs_h132 := Fs_h123.other W131 (Or.inl ne_a_b105)
  have Ft_h132 := Ft_h123.other W131 (Or.inl ne_a_b105)
  have Ff_h132 := Ff_h123.other W131 (Or.inl ne_a_b105)
  have El_h132 := El_h123.wr W131
  have Fm_h132 := Fm_h123.other W131 (Or.inl ne_li_b105)
  have Fz_h132 := Fz_h123.other W131 (Or.inl ne_li_b105)
  have Fe_h132 := Fe_h123.other W131 (Or.inl ne_li_b105)
  have Vd_h132 := Vd_h123.other W131 ne_d_b105
  have Et_h132 := Et_h123.wr W131
  have Hc_h132 := Hc_h123.other W131 (Or.inl ne_t_b105)
  have Hj_h132 := Hj_h123.other W131 (Or.inl ne_t_b105)
  have Hs_h132 := Hs_h123.other W131 (Or.inl ne_t_b105)
  have V2_h132 := V2_h123.other W131 ne_b2_b105
  have Vb_102_h132 := Vb_102_h123.other W131 ne_b_102_b105
  have Fw107_h132 := Fw107_h123.other W131 (Or.inl ne_a_b105)
  have Eb_109_h132 := Eb_109_h123.wr W131
  have Pt_112_h132 := Pt_112_h123.other W131 (Or.inl (Ne.symm ne_b105_b_109))
  have Pc_112_h132 := Pc_112_h123.other W131 (Or.inl (Ne.symm ne_b105_b_109))
  have Plr_112_h132 := Plr_112_h123.other W131 (Or.inl (Ne.symm ne_b105_b_109))
  have Px_112_h132 := Px_112_h123.other W131 (Or.inl (Ne.symm ne_b105_b_109))
  have O131 := own_ext_wr O122 W131 g_b105
  have K131 := K122.wr W131 (Or.inr sz_b105)
  have N131 := Fr.snoc X131 N122 g_b105
  show Go p e below _ (T131.setTop (mkF m 78 #[.val (.ref a), .val (.ref li), .val (.long q), .second, .val (.int g), .val (.long (0 : Int64)), .second, .val (.ref b_109), .val (.ref t), .val (.int (1 : Int32))] []))
  refine Go.st (fun t' k' => XS.iinc X131.here hx rfl (hb hby d13_78) rfl (l' := #[.val (.ref a), .val (.ref li), .val (.long q), .second, .val (.int g), .val (.long (0 : Int64)), .second, .val (.ref b_109), .val (.ref t), .val (.int (2 : Int32))]) rfl k') ?_
  show Go p e below _ (T131.setTop (mkF m 81 #[.val (.ref a), .val (.ref li), .val (.long q), .second, .val (.int g), .val (.long (0 : Int64)), .second, .val (.ref b_109), .val (.ref t), .val (.int (2 : Int32))] []))
  refine Go.st (fun t' k' => XS.goto X131.here hx rfl (pc0 := 81) (pc' := 50) rfl (hb hby d13_81) (by decide) (by decide) k') ?_
  show Go p e below _ (T131.setTop (mkF m 50 #[.val (.ref a), .val (.ref li), .val (.long q), .second, .val (.int g), .val (.long (0 : Int64)), .second, .val (.ref b_109), .val (.ref t), .val (.int (2 : Int32))] []))
  refine Go.st (fun t' k' => XS.iload X131.here hx rfl (hb hby d13_50) rfl k') ?_
  show Go p e below _ (T131.setTop (mkF m 52 #[.val (.ref a), .val (.ref li), .val (.long q), .second, .val (.int g), .val (.long (0 : Int64)), .second, .val (.ref b_109), .val (.ref t), .val (.int (2 : Int32))] [(.int (2 : Int32))]))
  refine Go.st (fun t' k' => XS.aloadN X131.here hx rfl (hb hby d13_52) rfl rfl k') ?_
  show Go p e below _ (T131.setTop (mkF m 53 #[.val (.ref a), .val (.ref li), .val (.long q), .second, .val (.int g), .val (.long (0 : Int64)), .second, .val (.ref b_109), .val (.ref t), .val (.int (2 : Int32))] [(.ref a), (.int (2 : Int32))]))
  obtain ⟨T133, X133, e133, st133⟩ := getF X131 hx hZ hown (host := "") (Or.inl (hw _ (List.mem_of_getElem? (i := 30) rfl))) Via.refl e131 Fw107_h132 (g := (mkF m 53 #[.val (.ref a), .val (.ref li), .val (.long q), .second, .val (.int g), .val (.long (0 : Int64)), .second, .val (.ref b_109), .val (.ref t), .val (.int (2 : Int32))] [(.ref a), (.int (2 : Int32))])) rfl rfl (hb hby d13_53)
  refine Go.st st133 ?_
  show Go p e below _ (T133.setTop (mkF m 56 #[.val (.ref a), .val (.ref li), .val (.long q), .second, .val (.int g), .val (.long (0 : Int64)), .second, .val (.ref b_109), .val (.ref t), .val (.int (2 : Int32))] [(.ref b105), (.int (2 : Int32))]))
  obtain ⟨cll134, Arl134, ql134, Szl134, Nzl134, Hsl134, Gsl134⟩ := (id V_b105_131)
  refine Go.st (X133.arraylength hx (by rw [e133]; exact Arl134.1) (State.isArrayOf_alike hZ.alike Arl134.2.1) (g := (mkF m 56 #[.val (.ref a), .val (.ref li), .val (.long q), .second, .val (.int g), .val (.long (0 : Int64)), .second, .val (.ref b_109), .val (.ref t), .val (.int (2 : Int32))] [(.ref b105), (.int (2 : Int32))])) rfl rfl (hb hby d13_56)) ?_
  rw [len_of Szl134 Nzl134]
  show Go p e below _ (T133.setTop (mkF m 57 #[.val (.ref a), .val (.ref li), .val (.long q), .second, .val (.int g), .val (.long (0 : Int64)), .second, .val (.ref b_109), .val (.ref t), .val (.int (2 : Int32))] [(.int (4 : Int32)), (.int (2 : Int32))]))
  refine Go.st (fun t' k' => XS.icmpNo X133.here hx rfl (hb hby d13_57) rfl (tlt (by decide : (2 : Int32) < (4 : Int32))).2.1 k') ?_
  show Go p e below _ (T133.setTop (mkF m 60 #[.val (.ref a), .val (.ref li), .val (.long q), .second, .val (.int g), .val (.long (0 : Int64)), .second, .val (.ref b_109), .val (.ref t), .val (.int (2 : Int32))] []))
  refine Go.st (fun t' k' => XS.aloadN X133.here hx rfl (hb hby d13_60) rfl rfl k') ?_
  show Go p e below _ (T133.setTop (mkF m 61 #[.val (.ref a), .val (.ref li), .val (.long q), .second, .val (.int g), .val (.long (0 : Int64)), .second, .val (.ref b_109), .val (.ref t), .val (.int (2 : Int32))] [(.ref a)]))
  obtain ⟨T135, X135, e135, st135⟩ := getF X133 hx hZ hown (host := "") (Or.inl (hw _ (List.mem_of_getElem? (i := 30) rfl))) Via.refl e133 Fw107_h132 (g := (mkF m 61 #[.val (.ref a), .val (.ref li), .val (.long q), .second, .val (.int g), .val (.long (0 : Int64)), .second, .val (.ref b_109), .val (.ref t), .val (.int (2 : Int32))] [(.ref a)])) rfl rfl (hb hby d13_61)
  refine Go.st st135 ?_
  show Go p e below _ (T135.setTop (mkF m 64 #[.val (.ref a), .val (.ref li), .val (.long q), .second, .val (.int g), .val (.long (0 : Int64)), .second, .val (.ref b_109), .val (.ref t), .val (.int (2 : Int32))] [(.ref b105)]))
  refine Go.st (fun t' k' => XS.iload X135.here hx rfl (hb hby d13_64) rfl k') ?_
  show Go p e below _ (T135.setTop (mkF m 66 #[.val (.ref a), .val (.ref li), .val (.long q), .second, .val (.int g), .val (.long (0 : Int64)), .second, .val (.ref b_109), .val (.ref t), .val (.int (2 : Int32))] [(.int (2 : Int32)), (.ref b105)]))
  refine Go.st (fun t' k' => Jvm.Free.XT.dup2 X135.here hx rfl (hb hby d13_66) rfl rfl rfl k') ?_
  show Go p e below _ (T135.setTop (mkF m 67 #[.val (.ref a), .val (.ref li), .val (.long q), .second, .val (.int g), .val (.long (0 : Int64)), .second, .val (.ref b_109), .val (.ref t), .val (.int (2 : Int32))] [(.int (2 : Int32)), (.ref b105), (.int (2 : Int32)), (.ref b105)]))
  obtain ⟨cla136, Ara136, qa136, Sza136, Nza136, Hsa136, Gsa136⟩ := (id V_b105_131)
  have hina136 : ¬ ((2 : Int32) < 0 ∨ cla136.slots.size ≤ ((2 : Int32)).toNatClampNeg) := inb_of Sza136 ⟨by decide, by decide⟩
  have hata136 : cla136.slots[((2 : Int32)).toNatClampNeg]? = some (.long (0 : Int64)) := Has.at Hsa136 hina136 rfl
  refine Go.st (X135.laload hx (j := (2 : Int32)) (v := (.long (0 : Int64))) (by rw [e135]; exact Ara136.1) (State.isArrayOf_alike hZ.alike Ara136.2.1) Ara136.2.2 hina136 hata136 (g := (mkF m 67 #[.val (.ref a), .val (.ref li), .val (.long q), .second, .val (.int g), .val (.long (0 : Int64)), .second, .val (.ref b_109), .val (.ref t), .val (.int (2 : Int32))] [(.int (2 : Int32)), (.ref b105), (.int (2 : Int32)), (.ref b105)])) rfl rfl (hb hby d13_67)) ?_
  show Go p e below _ (T135.setTop (mkF m 68 #[.val (.ref a), .val (.ref li), .val (.long q), .second, .val (.int g), .val (.long (0 : Int64)), .second, .val (.ref b_109), .val (.ref t), .val (.int (2 : Int32))] [(.long (0 : Int64)), (.int (2 : Int32)), (.ref b105)]))
  refine Go.st (fun t' k' => XS.aload X135.here hx rfl (hb hby d13_68) rfl rfl k') ?_
  show Go p e below _ (T135.setTop (mkF m 70 #[.val (.ref a), .val (.ref li), .val (.long q), .second, .val (.int g), .val (.long (0 : Int64)), .second, .val (.ref b_109), .val (.ref t), .val (.int (2 : Int32))] [(.ref t), (.long (0 : Int64)), (.int (2 : Int32)), (.ref b105)]))
  obtain ⟨T137, X137, e137, st137⟩ := getF X135 hx hZ hown (host := "") (Or.inl (hw _ (List.mem_of_getElem? (i := 30) rfl))) Via.refl e135 Hc_h132 (g := (mkF m 70 #[.val (.ref a), .val (.ref li), .val (.long q), .second, .val (.int g), .val (.long (0 : Int64)), .second, .val (.ref b_109), .val (.ref t), .val (.int (2 : Int32))] [(.ref t), (.long (0 : Int64)), (.int (2 : Int32)), (.ref b105)])) rfl rfl (hb hby d13_70)
  refine Go.st st137 ?_
  show Go p e below _ (T137.setTop (mkF m 73 #[.val (.ref a), .val (.ref li), .val (.long q), .second, .val (.int g), .val (.long (0 : Int64)), .second, .val (.ref b_109), .val (.ref t), .val (.int (2 : Int32))] [(.ref b2), (.long (0 : Int64)), (.int (2 : Int32)), (.ref b105)]))
  refine Go.st (fun t' k' => XS.iload X137.here hx rfl (hb hby d13_73) rfl k') ?_
  show Go p e below _ (T137.setTop (mkF m 75 #[.val (.ref a), .val (.ref li), .val (.long q), .second, .val (.int g), .val (.long (0 : Int64)), .second, .val (.ref b_109), .val (.ref t), .val (.int (2 : Int32))] [(.int (2 : Int32)), (.ref b2), (.long (0 : Int64)), (.int (2 : Int32)), (.ref b105)]))
  obtain ⟨cla138, Ara138, qa138, Sza138, Nza138, Hsa138, Gsa138⟩ := (id V2_h132)
  have hina138 : ¬ ((2 : Int32) < 0 ∨ cla138.slots.size ≤ ((2 : Int32)).toNatClampNeg) := inb_of Sza138 ⟨by decide, by decide⟩
  have hata138 : cla138.slots[((2 : Int32)).toNatClampNeg]? = some (.long c2) := Has.at Hsa138 hina138 rfl
  refine Go.st (X137.laload hx (j := (2 : Int32)) (v := (.long c2)) (by rw [e137]; exact Ara138.1) (State.isArrayOf_alike hZ.alike Ara138.2.1) Ara138.2.2 hina138 hata138 (g := (mkF m 75 #[.val (.ref a), .val (.ref li), .val (.long q), .second, .val (.int g), .val (.long (0 : Int64)), .second, .val (.ref b_109), .val (.ref t), .val (.int (2 : Int32))] [(.int (2 : Int32)), (.ref b2), (.long (0 : Int64)), (.int (2 : Int32)), (.ref b105)])) rfl rfl (hb hby d13_75)) ?_
  show Go p e below _ (T137.setTop (mkF m 76 #[.val (.ref a), .val (.ref li), .val (.long q), .second, .val (.int g), .val (.long (0 : Int64)), .second, .val (.ref b_109), .val (.ref t), .val (.int (2 : Int32))] [(.long c2), (.long (0 : Int64)), (.int (2 : Int32)), (.ref b105)]))
  refine Go.st (fun t' k' => XS.ladd X137.here hx rfl (hb hby d13_76) rfl k') ?_
  show Go p e below _ (T137.setTop (mkF m 77 #[.val (.ref a), .val (.ref li), .val (.long q), .second, .val (.int g), .val (.long (0 : Int64)), .second, .val (.ref b_109), .val (.ref t), .val (.int (2 : Int32))] [(.long ((0 : Int64) + c2)), (.int (2 : Int32)), (.ref b105)]))
  obtain ⟨cls139, Ars139, qs139, Szs139, Nzs139, Hss139, Gss139⟩ := (id V_b105_131)
  have hins139 : ¬ ((2 : Int32) < 0 ∨ cls139.slots.size ≤ ((2 : Int32)).toNatClampNeg) := inb_of Szs139 ⟨by decide, by decide⟩
  obtain ⟨T140, h140, X140, e140, W140, st140⟩ := stJ X137 hx hZ e137 Ars139 (j := (2 : Int32)) hins139 (g := (mkF m 77 #[.val (.ref a), .val (.ref li), .val (.long q), .second, .val (.int g), .val (.long (0 : Int64)), .second, .val (.ref b_109), .val (.ref t), .val (.int (2 : Int32))] [(.long ((0 : Int64) + c2)), (.int (2 : Int32)), (.ref b105)])) rfl rfl (hb hby d13_77)
  refine Go.st st140 ?_
  have V_b105_140 : Arv Z h140 b105 k105 .long (4 : Int32) [(.long ((0 : Int64) + c0)), (.long ((0 : Int64) + c1)), (.long ((0 : Int64) + c2)), (.long (0 : Int64))] (.long (0 : Int64)) := (Arv.set Ars139 qs139 Szs139 Nzs139 Hss139 Gss139 rfl W140 2 rfl (Nat.le_of_ble_eq_true rfl))
  have Ea_h141 := Ea_h132.wr W140
  have Fj_h141 := Fj_h132.other W140 (Or.inl ne_a_b105)
  have Fs_h141 := Fs_h132.other W140 (Or.inl ne_a_b105)
  have Ft_h141 := Ft_h132.other W140 (Or.inl ne_a_b105)
  have Ff_h141 := Ff_h132.other W140 (Or.inl ne_a_b105)
  have El_h141 := El_h132.wr W140
  have Fm_h141 := Fm_h132.other W140 (Or.inl ne_li_b105)
  have Fz_h141 := Fz_h132.other W140 (Or.inl ne_li_b105)
  have Fe_h141 := Fe_h132.other W140 (Or.inl ne_li_b105)
  have Vd_h141 := Vd_h132.other W140 ne_d_b105
  have Et_h141 := Et_h132.wr W140
  have Hc_h141 := Hc_h132.other W140 (Or.inl ne_t_b105)
  have Hj_h141 := Hj_h132.other W140 (Or.inl ne_t_b105)
  have Hs_h141 := Hs_h132.other W140 (Or.inl ne_t_b105)
  have V2_h141 := V2_h132.other W140 ne_b2_b105
  have Vb_102_h141 := Vb_102_h132.other W140 ne_b_102_b105
  have Fw107_h141 := Fw107_h132.other W140 (Or.inl ne_a_b105)
  have Eb_109_h141 := Eb_109_h132.wr W140
  have Pt_112_h141 := Pt_112_h132.other W140 (Or.inl (Ne.symm ne_b105_b_109))
  have Pc_112_h141 := Pc_112_h132.other W140 (Or.inl (Ne.symm ne_b105_b_109))
  have Plr_112_h141 := Plr_112_h132.other W140 (Or.inl (Ne.symm ne_b105_b_109))
  have Px_112_h141 := Px_112_h132.other W140 (Or.inl (Ne.symm ne_b105_b_109))
  have O140 := own_ext_wr O131 W140 g_b105
  have K140 := K131.wr W140 (Or.inr sz_b105)
  have N140 := Fr.snoc X140 N131 g_b105
  show Go p e below _ (T140.setTop (mkF m 78 #[.val (.ref a), .val (.ref li), .val (.long q), .second, .val (.int g), .val (.long (0 : Int64)), .second, .val (.ref b_109), .val (.ref t), .val (.int (2 : Int32))] []))
  refine Go.st (fun t' k' => XS.iinc X140.here hx rfl (hb hby d13_78) rfl (l' := #[.val (.ref a), .val (.ref li), .val (.long q), .second, .val (.int g), .val (.long (0 : Int64)), .second, .val (.ref b_109), .val (.ref t), .val (.int (3 : Int32))]) rfl k') ?_
  show Go p e below _ (T140.setTop (mkF m 81 #[.val (.ref a), .val (.ref li), .val (.long q), .second, .val (.int g), .val (.long (0 : Int64)), .second, .val (.ref b_109), .val (.ref t), .val (.int (3 : Int32))] []))
  refine Go.st (fun t' k' => XS.goto X140.here hx rfl (pc0 := 81) (pc' := 50) rfl (hb hby d13_81) (by decide) (by decide) k') ?_
  show Go p e below _ (T140.setTop (mkF m 50 #[.val (.ref a), .val (.ref li), .val (.long q), .second, .val (.int g), .val (.long (0 : Int64)), .second, .val (.ref b_109), .val (.ref t), .val (.int (3 : Int32))] []))
  refine Go.st (fun t' k' => XS.iload X140.here hx rfl (hb hby d13_50) rfl k') ?_
  show Go p e below _ (T140.setTop (mkF m 52 #[.val (.ref a), .val (.ref li), .val (.long q), .second, .val (.int g), .val (.long (0 : Int64)), .second, .val (.ref b_109), .val (.ref t), .val (.int (3 : Int32))] [(.int (3 : Int32))]))
  refine Go.st (fun t' k' => XS.aloadN X140.here hx rfl (hb hby d13_52) rfl rfl k') ?_
  show Go p e below _ (T140.setTop (mkF m 53 #[.val (.ref a), .val (.ref li), .val (.long q), .second, .val (.int g), .val (.long (0 : Int64)), .second, .val (.ref b_109), .val (.ref t), .val (.int (3 : Int32))] [(.ref a), (.int (3 : Int32))]))
  obtain ⟨T142, X142, e142, st142⟩ := getF X140 hx hZ hown (host := "") (Or.inl (hw _ (List.mem_of_getElem? (i := 30) rfl))) Via.refl e140 Fw107_h141 (g := (mkF m 53 #[.val (.ref a), .val (.ref li), .val (.long q), .second, .val (.int g), .val (.long (0 : Int64)), .second, .val (.ref b_109), .val (.ref t), .val (.int (3 : Int32))] [(.ref a), (.int (3 : Int32))])) rfl rfl (hb hby d13_53)
  refine Go.st st142 ?_
  show Go p e below _ (T142.setTop (mkF m 56 #[.val (.ref a), .val (.ref li), .val (.long q), .second, .val (.int g), .val (.long (0 : Int64)), .second, .val (.ref b_109), .val (.ref t), .val (.int (3 : Int32))] [(.ref b105), (.int (3 : Int32))]))
  obtain ⟨cll143, Arl143, ql143, Szl143, Nzl143, Hsl143, Gsl143⟩ := (id V_b105_140)
  refine Go.st (X142.arraylength hx (by rw [e142]; exact Arl143.1) (State.isArrayOf_alike hZ.alike Arl143.2.1) (g := (mkF m 56 #[.val (.ref a), .val (.ref li), .val (.long q), .second, .val (.int g), .val (.long (0 : Int64)), .second, .val (.ref b_109), .val (.ref t), .val (.int (3 : Int32))] [(.ref b105), (.int (3 : Int32))])) rfl rfl (hb hby d13_56)) ?_
  rw [len_of Szl143 Nzl143]
  show Go p e below _ (T142.setTop (mkF m 57 #[.val (.ref a), .val (.ref li), .val (.long q), .second, .val (.int g), .val (.long (0 : Int64)), .second, .val (.ref b_109), .val (.ref t), .val (.int (3 : Int32))] [(.int (4 : Int32)), (.int (3 : Int32))]))
  refine Go.st (fun t' k' => XS.icmpNo X142.here hx rfl (hb hby d13_57) rfl (tlt (by decide : (3 : Int32) < (4 : Int32))).2.1 k') ?_
  show Go p e below _ (T142.setTop (mkF m 60 #[.val (.ref a), .val (.ref li), .val (.long q), .second, .val (.int g), .val (.long (0 : Int64)), .second, .val (.ref b_109), .val (.ref t), .val (.int (3 : Int32))] []))
  refine Go.st (fun t' k' => XS.aloadN X142.here hx rfl (hb hby d13_60) rfl rfl k') ?_
  show Go p e below _ (T142.setTop (mkF m 61 #[.val (.ref a), .val (.ref li), .val (.long q), .second, .val (.int g), .val (.long (0 : Int64)), .second, .val (.ref b_109), .val (.ref t), .val (.int (3 : Int32))] [(.ref a)]))
  obtain ⟨T144, X144, e144, st144⟩ := getF X142 hx hZ hown (host := "") (Or.inl (hw _ (List.mem_of_getElem? (i := 30) rfl))) Via.refl e142 Fw107_h141 (g := (mkF m 61 #[.val (.ref a), .val (.ref li), .val (.long q), .second, .val (.int g), .val (.long (0 : Int64)), .second, .val (.ref b_109), .val (.ref t), .val (.int (3 : Int32))] [(.ref a)])) rfl rfl (hb hby d13_61)
  refine Go.st st144 ?_
  show Go p e below _ (T144.setTop (mkF m 64 #[.val (.ref a), .val (.ref li), .val (.long q), .second, .val (.int g), .val (.long (0 : Int64)), .second, .val (.ref b_109), .val (.ref t), .val (.int (3 : Int32))] [(.ref b105)]))
  refine Go.st (fun t' k' => XS.iload X144.here hx rfl (hb hby d13_64) rfl k') ?_
  show Go p e below _ (T144.setTop (mkF m 66 #[.val (.ref a), .val (.ref li), .val (.long q), .second, .val (.int g), .val (.long (0 : Int64)), .second, .val (.ref b_109), .val (.ref t), .val (.int (3 : Int32))] [(.int (3 : Int32)), (.ref b105)]))
  refine Go.st (fun t' k' => Jvm.Free.XT.dup2 X144.here hx rfl (hb hby d13_66) rfl rfl rfl k') ?_
  show Go p e below _ (T144.setTop (mkF m 67 #[.val (.ref a), .val (.ref li), .val (.long q), .second, .val (.int g), .val (.long (0 : Int64)), .second, .val (.ref b_109), .val (.ref t), .val (.int (3 : Int32))] [(.int (3 : Int32)), (.ref b105), (.int (3 : Int32)), (.ref b105)]))
  obtain ⟨cla145, Ara145, qa145, Sza145, Nza145, Hsa145, Gsa145⟩ := (id V_b105_140)
  have hina145 : ¬ ((3 : Int32) < 0 ∨ cla145.slots.size ≤ ((3 : Int32)).toNatClampNeg) := inb_of Sza145 ⟨by decide, by decide⟩
  have hata145 : cla145.slots[((3 : Int32)).toNatClampNeg]? = some (.long (0 : Int64)) := Has.at Hsa145 hina145 rfl
  refine Go.st (X144.laload hx (j := (3 : Int32)) (v := (.long (0 : Int64))) (by rw [e144]; exact Ara145.1) (State.isArrayOf_alike hZ.alike Ara145.2.1) Ara145.2.2 hina145 hata145 (g := (mkF m 67 #[.val (.ref a), .val (.ref li), .val (.long q), .second, .val (.int g), .val (.long (0 : Int64)), .second, .val (.ref b_109), .val (.ref t), .val (.int (3 : Int32))] [(.int (3 : Int32)), (.ref b105), (.int (3 : Int32)), (.ref b105)])) rfl rfl (hb hby d13_67)) ?_
  show Go p e below _ (T144.setTop (mkF m 68 #[.val (.ref a), .val (.ref li), .val (.long q), .second, .val (.int g), .val (.long (0 : Int64)), .second, .val (.ref b_109), .val (.ref t), .val (.int (3 : Int32))] [(.long (0 : Int64)), (.int (3 : Int32)), (.ref b105)]))
  refine Go.st (fun t' k' => XS.aload X144.here hx rfl (hb hby d13_68) rfl rfl k') ?_
  show Go p e below _ (T144.setTop (mkF m 70 #[.val (.ref a), .val (.ref li), .val (.long q), .second, .val (.int g), .val (.long (0 : Int64)), .second, .val (.ref b_109), .val (.ref t), .val (.int (3 : Int32))] [(.ref t), (.long (0 : Int64)), (.int (3 : Int32)), (.ref b105)]))
  obtain ⟨T146, X146, e146, st146⟩ := getF X144 hx hZ hown (host := "") (Or.inl (hw _ (List.mem_of_getElem? (i := 30) rfl))) Via.refl e144 Hc_h141 (g := (mkF m 70 #[.val (.ref a), .val (.ref li), .val (.long q), .second, .val (.int g), .val (.long (0 : Int64)), .second, .val (.ref b_109), .val (.ref t), .val (.int (3 : Int32))] [(.ref t), (.long (0 : Int64)), (.int (3 : Int32)), (.ref b105)])) rfl rfl (hb hby d13_70)
  refine Go.st st146 ?_
  show Go p e below _ (T146.setTop (mkF m 73 #[.val (.ref a), .val (.ref li), .val (.long q), .second, .val (.int g), .val (.long (0 : Int64)), .second, .val (.ref b_109), .val (.ref t), .val (.int (3 : Int32))] [(.ref b2), (.long (0 : Int64)), (.int (3 : Int32)), (.ref b105)]))
  refine Go.st (fun t' k' => XS.iload X146.here hx rfl (hb hby d13_73) rfl k') ?_
  show Go p e below _ (T146.setTop (mkF m 75 #[.val (.ref a), .val (.ref li), .val (.long q), .second, .val (.int g), .val (.long (0 : Int64)), .second, .val (.ref b_109), .val (.ref t), .val (.int (3 : Int32))] [(.int (3 : Int32)), (.ref b2), (.long (0 : Int64)), (.int (3 : Int32)), (.ref b105)]))
  obtain ⟨cla147, Ara147, qa147, Sza147, Nza147, Hsa147, Gsa147⟩ := (id V2_h141)
  have hina147 : ¬ ((3 : Int32) < 0 ∨ cla147.slots.size ≤ ((3 : Int32)).toNatClampNeg) := inb_of Sza147 ⟨by decide, by decide⟩
  have hata147 : cla147.slots[((3 : Int32)).toNatClampNeg]? = some (.long c3) := Has.at Hsa147 hina147 rfl
  refine Go.st (X146.laload hx (j := (3 : Int32)) (v := (.long c3)) (by rw [e146]; exact Ara147.1) (State.isArrayOf_alike hZ.alike Ara147.2.1) Ara147.2.2 hina147 hata147 (g := (mkF m 75 #[.val (.ref a), .val (.ref li), .val (.long q), .second, .val (.int g), .val (.long (0 : Int64)), .second, .val (.ref b_109), .val (.ref t), .val (.int (3 : Int32))] [(.int (3 : Int32)), (.ref b2), (.long (0 : Int64)), (.int (3 : Int32)), (.ref b105)])) rfl rfl (hb hby d13_75)) ?_
  show Go p e below _ (T146.setTop (mkF m 76 #[.val (.ref a), .val (.ref li), .val (.long q), .second, .val (.int g), .val (.long (0 : Int64)), .second, .val (.ref b_109), .val (.ref t), .val (.int (3 : Int32))] [(.long c3), (.long (0 : Int64)), (.int (3 : Int32)), (.ref b105)]))
  refine Go.st (fun t' k' => XS.ladd X146.here hx rfl (hb hby d13_76) rfl k') ?_
  show Go p e below _ (T146.setTop (mkF m 77 #[.val (.ref a), .val (.ref li), .val (.long q), .second, .val (.int g), .val (.long (0 : Int64)), .second, .val (.ref b_109), .val (.ref t), .val (.int (3 : Int32))] [(.long ((0 : Int64) + c3)), (.int (3 : Int32)), (.ref b105)]))
  obtain ⟨cls148, Ars148, qs148, Szs148, Nzs148, Hss148, Gss148⟩ := (id V_b105_140)
  have hins148 : ¬ ((3 : Int32) < 0 ∨ cls148.slots.size ≤ ((3 : Int32)).toNatClampNeg) := inb_of Szs148 ⟨by decide, by decide⟩
  obtain ⟨T149, h149, X149, e149, W149, st149⟩ := stJ X146 hx hZ e146 Ars148 (j := (3 : Int32)) hins148 (g := (mkF m 77 #[.val (.ref a), .val (.ref li), .val (.long q), .second, .val (.int g), .val (.long (0 : Int64)), .second, .val (.ref b_109), .val (.ref t), .val (.int (3 : Int32))] [(.long ((0 : Int64) + c3)), (.int (3 : Int32)), (.ref b105)])) rfl rfl (hb hby d13_77)
  refine Go.st st149 ?_
  have V_b105_149 : Arv Z h149 b105 k105 .long (4 : Int32) [(.long ((0 : Int64) + c0)), (.long ((0 : Int64) + c1)), (.long ((0 : Int64) + c2)), (.long ((0 : Int64) + c3))] (.long (0 : Int64)) := (Arv.set Ars148 qs148 Szs148 Nzs148 Hss148 Gss148 rfl W149 3 rfl (Nat.le_of_ble_eq_true rfl))
  have Ea_h150 := Ea_h141.wr W149
  have Fj_h150 := Fj_h141.other W149 (Or.inl ne_a_b105)
  have Fs_h150 := Fs_h141.other W149 (Or.inl ne_a_b105)
  have Ft_h150 := Ft_h141.other W149 (Or.inl ne_a_b105)
  have Ff_h150 := Ff_h141.other W149 (Or.inl ne_a_b105)
  have El_h150 := El_h141.wr W149
  have Fm_h150 := Fm_h141.other W149 (Or.inl ne_li_b105)
  have Fz_h150 := Fz_h141.other W149 (Or.inl ne_li_b105)
  have Fe_h150 := Fe_h141.other W149 (Or.inl ne_li_b105)
  have Vd_h150 := Vd_h141.other W149 ne_d_b105
  have Et_h150 := Et_h141.wr W149
  have Hc_h150 := Hc_h141.other W149 (Or.inl ne_t_b105)
  have Hj_h150 := Hj_h141.other W149 (Or.inl ne_t_b105)
  have Hs_h150 := Hs_h141.other W149 (Or.inl ne_t_b105)
  have V2_h150 := V2_h141.other W149 ne_b2_b105
  have Vb_102_h150 := Vb_102_h141.other W149 ne_b_102_b105
  have Fw107_h150 := Fw107_h141.other W149 (Or.inl ne_a_b105)
  have Eb_109_h150 := Eb_109_h141.wr W149
  have Pt_112_h150 := Pt_112_h141.other W149 (Or.inl (Ne.symm ne_b105_b_109))
  have Pc_112_h150 := Pc_112_h141.other W149 (Or.inl (Ne.symm ne_b105_b_109))
  have Plr_112_h150 := Plr_112_h141.other W149 (Or.inl (Ne.symm ne_b105_b_109))
  have Px_112_h150 := Px_112_h141.other W149 (Or.inl (Ne.symm ne_b105_b_109))
  have O149 := own_ext_wr O140 W149 g_b105
  have K149 := K140.wr W149 (Or.inr sz_b105)
  have N149 := Fr.snoc X149 N140 g_b105
  show Go p e below _ (T149.setTop (mkF m 78 #[.val (.ref a), .val (.ref li), .val (.long q), .second, .val (.int g), .val (.long (0 : Int64)), .second, .val (.ref b_109), .val (.ref t), .val (.int (3 : Int32))] []))
  refine Go.st (fun t' k' => XS.iinc X149.here hx rfl (hb hby d13_78) rfl (l' := #[.val (.ref a), .val (.ref li), .val (.long q), .second, .val (.int g), .val (.long (0 : Int64)), .second, .val (.ref b_109), .val (.ref t), .val (.int (4 : Int32))]) rfl k') ?_
  show Go p e below _ (T149.setTop (mkF m 81 #[.val (.ref a), .val (.ref li), .val (.long q), .second, .val (.int g), .val (.long (0 : Int64)), .second, .val (.ref b_109), .val (.ref t), .val (.int (4 : Int32))] []))
  refine Go.st (fun t' k' => XS.goto X149.here hx rfl (pc0 := 81) (pc' := 50) rfl (hb hby d13_81) (by decide) (by decide) k') ?_
  show Go p e below _ (T149.setTop (mkF m 50 #[.val (.ref a), .val (.ref li), .val (.long q), .second, .val (.int g), .val (.long (0 : Int64)), .second, .val (.ref b_109), .val (.ref t), .val (.int (4 : Int32))] []))
  refine Go.st (fun t' k' => XS.iload X149.here hx rfl (hb hby d13_50) rfl k') ?_
  show Go p e below _ (T149.setTop (mkF m 52 #[.val (.ref a), .val (.ref li), .val (.long q), .second, .val (.int g), .val (.long (0 : Int64)), .second, .val (.ref b_109), .val (.ref t), .val (.int (4 : Int32))] [(.int (4 : Int32))]))
  refine Go.st (fun t' k' => XS.aloadN X149.here hx rfl (hb hby d13_52) rfl rfl k') ?_
  show Go p e below _ (T149.setTop (mkF m 53 #[.val (.ref a), .val (.ref li), .val (.long q), .second, .val (.int g), .val (.long (0 : Int64)), .second, .val (.ref b_109), .val (.ref t), .val (.int (4 : Int32))] [(.ref a), (.int (4 : Int32))]))
  obtain ⟨T151, X151, e151, st151⟩ := getF X149 hx hZ hown (host := "") (Or.inl (hw _ (List.mem_of_getElem? (i := 30) rfl))) Via.refl e149 Fw107_h150 (g := (mkF m 53 #[.val (.ref a), .val (.ref li), .val (.long q), .second, .val (.int g), .val (.long (0 : Int64)), .second, .val (.ref b_109), .val (.ref t), .val (.int (4 : Int32))] [(.ref a), (.int (4 : Int32))])) rfl rfl (hb hby d13_53)
  refine Go.st st151 ?_
  show Go p e below _ (T151.setTop (mkF m 56 #[.val (.ref a), .val (.ref li), .val (.long q), .second, .val (.int g), .val (.long (0 : Int64)), .second, .val (.ref b_109), .val (.ref t), .val (.int (4 : Int32))] [(.ref b105), (.int (4 : Int32))]))
  obtain ⟨cll152, Arl152, ql152, Szl152, Nzl152, Hsl152, Gsl152⟩ := (id V_b105_149)
  refine Go.st (X151.arraylength hx (by rw [e151]; exact Arl152.1) (State.isArrayOf_alike hZ.alike Arl152.2.1) (g := (mkF m 56 #[.val (.ref a), .val (.ref li), .val (.long q), .second, .val (.int g), .val (.long (0 : Int64)), .second, .val (.ref b_109), .val (.ref t), .val (.int (4 : Int32))] [(.ref b105), (.int (4 : Int32))])) rfl rfl (hb hby d13_56)) ?_
  rw [len_of Szl152 Nzl152]
  show Go p e below _ (T151.setTop (mkF m 57 #[.val (.ref a), .val (.ref li), .val (.long q), .second, .val (.int g), .val (.long (0 : Int64)), .second, .val (.ref b_109), .val (.ref t), .val (.int (4 : Int32))] [(.int (4 : Int32)), (.int (4 : Int32))]))
  refine Go.st (fun t' k' => XS.icmpYes X151.here hx rfl (pc0 := 57) (pc' := 84) rfl (hb hby d13_57) rfl (flt (by decide : ¬ ((4 : Int32) < (4 : Int32)))).2.1 (by decide) (by decide) k') ?_
  show Go p e below _ (T151.setTop (mkF m 84 #[.val (.ref a), .val (.ref li), .val (.long q), .second, .val (.int g), .val (.long (0 : Int64)), .second, .val (.ref b_109), .val (.ref t), .val (.int (4 : Int32))] []))
  refine Go.st (fun t' k' => XS.aloadN X151.here hx rfl (hb hby d13_84) rfl rfl k') ?_
  show Go p e below _ (T151.setTop (mkF m 85 #[.val (.ref a), .val (.ref li), .val (.long q), .second, .val (.int g), .val (.long (0 : Int64)), .second, .val (.ref b_109), .val (.ref t), .val (.int (4 : Int32))] [(.ref a)]))
  refine Go.st (fun t' k' => XS.dup X151.here hx rfl (hb hby d13_85) rfl rfl k') ?_
  show Go p e below _ (T151.setTop (mkF m 86 #[.val (.ref a), .val (.ref li), .val (.long q), .second, .val (.int g), .val (.long (0 : Int64)), .second, .val (.ref b_109), .val (.ref t), .val (.int (4 : Int32))] [(.ref a), (.ref a)]))
  obtain ⟨T153, X153, e153, st153⟩ := getF X151 hx hZ hown (host := "") (Or.inl (hw _ (List.mem_of_getElem? (i := 153) rfl))) Via.refl e151 Fj_h150 (g := (mkF m 86 #[.val (.ref a), .val (.ref li), .val (.long q), .second, .val (.int g), .val (.long (0 : Int64)), .second, .val (.ref b_109), .val (.ref t), .val (.int (4 : Int32))] [(.ref a), (.ref a)])) rfl rfl (hb hby d13_86)
  refine Go.st st153 ?_
  show Go p e below _ (T153.setTop (mkF m 89 #[.val (.ref a), .val (.ref li), .val (.long q), .second, .val (.int g), .val (.long (0 : Int64)), .second, .val (.ref b_109), .val (.ref t), .val (.int (4 : Int32))] [(.long (0 : Int64)), (.ref a)]))
  refine Go.st (fun t' k' => XS.aload X153.here hx rfl (hb hby d13_89) rfl rfl k') ?_
  show Go p e below _ (T153.setTop (mkF m 91 #[.val (.ref a), .val (.ref li), .val (.long q), .second, .val (.int g), .val (.long (0 : Int64)), .second, .val (.ref b_109), .val (.ref t), .val (.int (4 : Int32))] [(.ref t), (.long (0 : Int64)), (.ref a)]))
  obtain ⟨T154, X154, e154, st154⟩ := getF X153 hx hZ hown (host := "") (Or.inl (hw _ (List.mem_of_getElem? (i := 153) rfl))) Via.refl e153 Hj_h150 (g := (mkF m 91 #[.val (.ref a), .val (.ref li), .val (.long q), .second, .val (.int g), .val (.long (0 : Int64)), .second, .val (.ref b_109), .val (.ref t), .val (.int (4 : Int32))] [(.ref t), (.long (0 : Int64)), (.ref a)])) rfl rfl (hb hby d13_91)
  refine Go.st st154 ?_
  show Go p e below _ (T154.setTop (mkF m 94 #[.val (.ref a), .val (.ref li), .val (.long q), .second, .val (.int g), .val (.long (0 : Int64)), .second, .val (.ref b_109), .val (.ref t), .val (.int (4 : Int32))] [(.long j2), (.long (0 : Int64)), (.ref a)]))
  refine Go.st (fun t' k' => XS.ladd X154.here hx rfl (hb hby d13_94) rfl k') ?_
  show Go p e below _ (T154.setTop (mkF m 95 #[.val (.ref a), .val (.ref li), .val (.long q), .second, .val (.int g), .val (.long (0 : Int64)), .second, .val (.ref b_109), .val (.ref t), .val (.int (4 : Int32))] [(.long ((0 : Int64) + j2)), (.ref a)]))
  obtain ⟨T155, h155, X155, e155, W155, st155⟩ := putF X154 hx hZ hown (host := "") (Or.inl (hw _ (List.mem_of_getElem? (i := 153) rfl))) Via.refl e154 Fj_h150 Ea_h150 (Or.inl (hw _ (List.mem_of_getElem? (i := 154) rfl))) (hw _ (List.mem_of_getElem? (i := 1) rfl)) (ty := .long) (by decide) rfl rfl (g := (mkF m 95 #[.val (.ref a), .val (.ref li), .val (.long q), .second, .val (.int g), .val (.long (0 : Int64)), .second, .val (.ref b_109), .val (.ref t), .val (.int (4 : Int32))] [(.long ((0 : Int64) + j2)), (.ref a)])) rfl rfl (hb hby d13_95)
  refine Go.st st155 ?_
  have Fw155 : Fld Z h155 a "com/example/kertyma/kertyma/LoadCounts" "rejected" "J" (.long ((0 : Int64) + j2)) := Fj_h150.same W155
  have Ea_h156 := Ea_h150.wr W155
  have Fs_h156 := Fs_h150.other W155 (Or.inr (slot_ne (Or.inr (hw _ (List.mem_of_getElem? (i := 33) rfl))) (Or.inl (hw _ (List.mem_of_getElem? (i := 154) rfl))) (by decide) (t := .long) (t' := .long) (by decide) (by decide)))
  have Ft_h156 := Ft_h150.other W155 (Or.inr (slot_ne (Or.inr (hw _ (List.mem_of_getElem? (i := 35) rfl))) (Or.inl (hw _ (List.mem_of_getElem? (i := 154) rfl))) (by decide) (t := .long) (t' := .long) (by decide) (by decide)))
  have Ff_h156 := Ff_h150.other W155 (Or.inr (slot_ne (Or.inr (hw _ (List.mem_of_getElem? (i := 37) rfl))) (Or.inl (hw _ (List.mem_of_getElem? (i := 154) rfl))) (by decide) (t := .int) (t' := .long) (by decide) (by decide)))
  have El_h156 := El_h150.wr W155
  have Fm_h156 := Fm_h150.other W155 (Or.inl Nla)
  have Fz_h156 := Fz_h150.other W155 (Or.inl Nla)
  have Fe_h156 := Fe_h150.other W155 (Or.inl Nla)
  have Vd_h156 := Vd_h150.other W155 Nda
  have Et_h156 := Et_h150.wr W155
  have Hc_h156 := Hc_h150.other W155 (Or.inl Nta)
  have Hj_h156 := Hj_h150.other W155 (Or.inl Nta)
  have Hs_h156 := Hs_h150.other W155 (Or.inl Nta)
  have V2_h156 := V2_h150.other W155 N2a
  have Vb_102_h156 := Vb_102_h150.other W155 (Ne.symm ne_a_b_102)
  have Fw107_h156 := Fw107_h150.other W155 (Or.inr (slot_ne (Or.inr (hw _ (List.mem_of_getElem? (i := 31) rfl))) (Or.inl (hw _ (List.mem_of_getElem? (i := 154) rfl))) (by decide) (t := (.array .long)) (t' := .long) (by decide) (by decide)))
  have Eb_109_h156 := Eb_109_h150.wr W155
  have Pt_112_h156 := Pt_112_h150.other W155 (Or.inl (Ne.symm ne_a_b_109))
  have Pc_112_h156 := Pc_112_h150.other W155 (Or.inl (Ne.symm ne_a_b_109))
  have Plr_112_h156 := Plr_112_h150.other W155 (Or.inl (Ne.symm ne_a_b_109))
  have Px_112_h156 := Px_112_h150.other W155 (Or.inl (Ne.symm ne_a_b_109))
  have V_b105_149_h156 := V_b105_149.other W155 (Ne.symm ne_a_b105)
  have O155 := own_ext_wr O149 W155 Ga
  have K155 := K149.wr W155 (Or.inl (List.mem_of_getElem? (i := 0) rfl))
  have N155 := Fr.snoc X155 N149 Ga
  show Go p e below _ (T155.setTop (mkF m 98 #[.val (.ref a), .val (.ref li), .val (.long q), .second, .val (.int g), .val (.long (0 : Int64)), .second, .val (.ref b_109), .val (.ref t), .val (.int (4 : Int32))] []))
  refine Go.st (fun t' k' => XS.lload X155.here hx rfl (hb hby d13_98) rfl k') ?_
  show Go p e below _ (T155.setTop (mkF m 100 #[.val (.ref a), .val (.ref li), .val (.long q), .second, .val (.int g), .val (.long (0 : Int64)), .second, .val (.ref b_109), .val (.ref t), .val (.int (4 : Int32))] [(.long (0 : Int64))]))
  refine Go.st (fun t' k' => XS.aload X155.here hx rfl (hb hby d13_100) rfl rfl k') ?_
  show Go p e below _ (T155.setTop (mkF m 102 #[.val (.ref a), .val (.ref li), .val (.long q), .second, .val (.int g), .val (.long (0 : Int64)), .second, .val (.ref b_109), .val (.ref t), .val (.int (4 : Int32))] [(.ref t), (.long (0 : Int64))]))
  obtain ⟨T157, X157, e157, st157⟩ := getF X155 hx hZ hown (host := "") (Or.inl (hw _ (List.mem_of_getElem? (i := 32) rfl))) Via.refl e155 Hs_h156 (g := (mkF m 102 #[.val (.ref a), .val (.ref li), .val (.long q), .second, .val (.int g), .val (.long (0 : Int64)), .second, .val (.ref b_109), .val (.ref t), .val (.int (4 : Int32))] [(.ref t), (.long (0 : Int64))])) rfl rfl (hb hby d13_102)
  refine Go.st st157 ?_
  show Go p e below _ (T157.setTop (mkF m 105 #[.val (.ref a), .val (.ref li), .val (.long q), .second, .val (.int g), .val (.long (0 : Int64)), .second, .val (.ref b_109), .val (.ref t), .val (.int (4 : Int32))] [(.long s2), (.long (0 : Int64))]))
  refine Go.st (fun t' k' => XS.ladd X157.here hx rfl (hb hby d13_105) rfl k') ?_
  show Go p e below _ (T157.setTop (mkF m 106 #[.val (.ref a), .val (.ref li), .val (.long q), .second, .val (.int g), .val (.long (0 : Int64)), .second, .val (.ref b_109), .val (.ref t), .val (.int (4 : Int32))] [(.long ((0 : Int64) + s2))]))
  refine Go.st (fun t' k' => XS.lstore X157.here hx rfl (hb hby d13_106) rfl (l' := #[.val (.ref a), .val (.ref li), .val (.long q), .second, .val (.int g), .val (.long ((0 : Int64) + s2)), .second, .val (.ref b_109), .val (.ref t), .val (.int (4 : Int32))]) rfl k') ?_
  show Go p e below _ (T157.setTop (mkF m 108 #[.val (.ref a), .val (.ref li), .val (.long q), .second, .val (.int g), .val (.long ((0 : Int64) + s2)), .second, .val (.ref b_109), .val (.ref t), .val (.int (4 : Int32))] []))
  refine Go.st (fun t' k' => XS.goto X157.here hx rfl (pc0 := 108) (pc' := 25) rfl (hb hby d13_108) (by decide) (by decide) k') ?_
  show Go p e below _ (T157.setTop (mkF m 25 #[.val (.ref a), .val (.ref li), .val (.long q), .second, .val (.int g), .val (.long ((0 : Int64) + s2)), .second, .val (.ref b_109), .val (.ref t), .val (.int (4 : Int32))] []))
  refine Go.st (fun t' k' => XS.aload X157.here hx rfl (hb hby d13_25) rfl rfl k') ?_
  show Go p e below _ (T157.setTop (mkF m 27 #[.val (.ref a), .val (.ref li), .val (.long q), .second, .val (.int g), .val (.long ((0 : Int64) + s2)), .second, .val (.ref b_109), .val (.ref t), .val (.int (4 : Int32))] [(.ref b_109)]))
  obtain ⟨cq158, kq158, q158a, q158b, q158c⟩ := isOf hZ e157 Eb_109_h156
  obtain ⟨_, _, ⟨T158, L158, k158, n158⟩, -, X158, ⟨Lc158, hQ158, l158, y158, z158⟩, st158⟩ := X157.interfaceBack hx (xi := (⟨"java/util/Iterator", "hasNext", "()Z"⟩ : MethodName)) (y := (⟨"java/util/ArrayList$Itr", "hasNext", "()Z"⟩ : MethodName)) hown (mvT hZ (hw _ (List.mem_of_getElem? (i := 125) rfl))) (mvT hZ (hw _ (List.mem_of_getElem? (i := 126) rfl))) (mvT hZ (hw _ (List.mem_of_getElem? (i := 127) rfl))) (mvT hZ (hw _ (List.mem_of_getElem? (i := 128) rfl))) (mvT hZ (hw _ (List.mem_of_getElem? (i := 129) rfl))) (mvT hZ (hw _ (List.mem_of_getElem? (i := 130) rfl))) (mvT hZ (hw _ (List.mem_of_getElem? (i := 131) rfl))) (mvT hZ (hw _ (List.mem_of_getElem? (i := 132) rfl))) (by decide) (backOf (W := 0) (rmHas l Z a0 hw [] b_109 li ((1 : Int32)) ((1 : Int32)) h155 O155 Pt_112_h156 Pc_112_h156 Fz_h156) hZ (hw _ (List.mem_of_getElem? (i := 133) rfl)) (hw _ (List.mem_of_getElem? (i := 112) rfl)) (by decide) (by decide)) q158a q158b q158c (g := (mkF m 27 #[.val (.ref a), .val (.ref li), .val (.long q), .second, .val (.int g), .val (.long ((0 : Int64) + s2)), .second, .val (.ref b_109), .val (.ref t), .val (.int (4 : Int32))] [(.ref b_109)])) rfl (by rw [hml]; rfl) (Steps.refl _) (argsL := []) (rest := []) (lenOf pd___Z rfl) rfl (by show 2 * 0 + _ ≤ _; exact Nat.le_of_eq rfl) (hb hby d13_27) (fun _ _ => ⟨rfl, e157, (by decide : 3 + 0 ≤ _), (by decide : 12 + 0 ≤ _)⟩)
  dsimp only [Pt.U, Pt.locs, Pt.cells, Pt.slots] at X158 l158 y158 z158 st158 hQ158
  subst l158 y158 z158
  obtain ⟨rfl, rfl, e158⟩ := hQ158
  have N158 := Fr.app N155 (Fr.nil _)
  refine Go.tr st158 ?_
  show Go p e below _ (T158.setTop (mkF m 32 #[.val (.ref a), .val (.ref li), .val (.long q), .second, .val (.int g), .val (.long ((0 : Int64) + s2)), .second, .val (.ref b_109), .val (.ref t), .val (.int (4 : Int32))] [(.int (0 : Int32))]))
  refine Go.st (fun t' k' => XS.ifYes X158.here hx rfl (pc0 := 32) (pc' := 111) rfl (hb hby d13_32) rfl ((if0 _ _).trans (teq (by decide : (0 : Int32) = (0 : Int32))).1) (by decide) (by decide) k') ?_
  show Go p e below _ (T158.setTop (mkF m 111 #[.val (.ref a), .val (.ref li), .val (.long q), .second, .val (.int g), .val (.long ((0 : Int64) + s2)), .second, .val (.ref b_109), .val (.ref t), .val (.int (4 : Int32))] []))
  refine Go.st (fun t' k' => XS.aloadN X158.here hx rfl (hb hby d13_111) rfl rfl k') ?_
  show Go p e below _ (T158.setTop (mkF m 112 #[.val (.ref a), .val (.ref li), .val (.long q), .second, .val (.int g), .val (.long ((0 : Int64) + s2)), .second, .val (.ref b_109), .val (.ref t), .val (.int (4 : Int32))] [(.ref a)]))
  refine Go.st (fun t' k' => XS.lload X158.here hx rfl (hb hby d13_112) rfl k') ?_
  show Go p e below _ (T158.setTop (mkF m 114 #[.val (.ref a), .val (.ref li), .val (.long q), .second, .val (.int g), .val (.long ((0 : Int64) + s2)), .second, .val (.ref b_109), .val (.ref t), .val (.int (4 : Int32))] [(.long ((0 : Int64) + s2)), (.ref a)]))
  obtain ⟨T159, h159, X159, e159, W159, st159⟩ := putF X158 hx hZ hown (host := "") (Or.inl (hw _ (List.mem_of_getElem? (i := 32) rfl))) Via.refl e158 Fs_h156 Ea_h156 (Or.inr ⟨(hw _ (List.mem_of_getElem? (i := 33) rfl)), rfl, hnm⟩) (hw _ (List.mem_of_getElem? (i := 1) rfl)) (ty := .long) (by decide) rfl rfl (g := (mkF m 114 #[.val (.ref a), .val (.ref li), .val (.long q), .second, .val (.int g), .val (.long ((0 : Int64) + s2)), .second, .val (.ref b_109), .val (.ref t), .val (.int (4 : Int32))] [(.long ((0 : Int64) + s2)), (.ref a)])) rfl rfl (hb hby d13_114)
  refine Go.st st159 ?_
  have Fw159 : Fld Z h159 a "com/example/kertyma/kertyma/LoadCounts" "resumedAfter" "J" (.long ((0 : Int64) + s2)) := Fs_h156.same W159
  have Ea_h160 := Ea_h156.wr W159
  have Ft_h160 := Ft_h156.other W159 (Or.inr (slot_ne (Or.inr (hw _ (List.mem_of_getElem? (i := 35) rfl))) (Or.inr (hw _ (List.mem_of_getElem? (i := 33) rfl))) (by decide) (t := .long) (t' := .long) (by decide) (by decide)))
  have Ff_h160 := Ff_h156.other W159 (Or.inr (slot_ne (Or.inr (hw _ (List.mem_of_getElem? (i := 37) rfl))) (Or.inr (hw _ (List.mem_of_getElem? (i := 33) rfl))) (by decide) (t := .int) (t' := .long) (by decide) (by decide)))
  have El_h160 := El_h156.wr W159
  have Fm_h160 := Fm_h156.other W159 (Or.inl Nla)
  have Fz_h160 := Fz_h156.other W159 (Or.inl Nla)
  have Fe_h160 := Fe_h156.other W159 (Or.inl Nla)
  have Vd_h160 := Vd_h156.other W159 Nda
  have Et_h160 := Et_h156.wr W159
  have Hc_h160 := Hc_h156.other W159 (Or.inl Nta)
  have Hj_h160 := Hj_h156.other W159 (Or.inl Nta)
  have Hs_h160 := Hs_h156.other W159 (Or.inl Nta)
  have V2_h160 := V2_h156.other W159 N2a
  have Vb_102_h160 := Vb_102_h156.other W159 (Ne.symm ne_a_b_102)
  have Fw107_h160 := Fw107_h156.other W159 (Or.inr (slot_ne (Or.inr (hw _ (List.mem_of_getElem? (i := 31) rfl))) (Or.inr (hw _ (List.mem_of_getElem? (i := 33) rfl))) (by decide) (t := (.array .long)) (t' := .long) (by decide) (by decide)))
  have Eb_109_h160 := Eb_109_h156.wr W159
  have Pt_112_h160 := Pt_112_h156.other W159 (Or.inl (Ne.symm ne_a_b_109))
  have Pc_112_h160 := Pc_112_h156.other W159 (Or.inl (Ne.symm ne_a_b_109))
  have Plr_112_h160 := Plr_112_h156.other W159 (Or.inl (Ne.symm ne_a_b_109))
  have Px_112_h160 := Px_112_h156.other W159 (Or.inl (Ne.symm ne_a_b_109))
  have V_b105_149_h160 := V_b105_149_h156.other W159 (Ne.symm ne_a_b105)
  have Fw155_h160 := Fw155.other W159 (Or.inr (slot_ne (Or.inl (hw _ (List.mem_of_getElem? (i := 154) rfl))) (Or.inr (hw _ (List.mem_of_getElem? (i := 33) rfl))) (by decide) (t := .long) (t' := .long) (by decide) (by decide)))
  have O159 := own_ext_wr O155 W159 Ga
  have K159 := K155.wr W159 (Or.inl (List.mem_of_getElem? (i := 0) rfl))
  have N159 := Fr.snoc X159 N158 Ga
  show Go p e below _ (T159.setTop (mkF m 117 #[.val (.ref a), .val (.ref li), .val (.long q), .second, .val (.int g), .val (.long ((0 : Int64) + s2)), .second, .val (.ref b_109), .val (.ref t), .val (.int (4 : Int32))] []))
  refine Go.st (fun t' k' => XS.aloadN X159.here hx rfl (hb hby d13_117) rfl rfl k') ?_
  show Go p e below _ (T159.setTop (mkF m 118 #[.val (.ref a), .val (.ref li), .val (.long q), .second, .val (.int g), .val (.long ((0 : Int64) + s2)), .second, .val (.ref b_109), .val (.ref t), .val (.int (4 : Int32))] [(.ref a)]))
  refine Go.st (fun t' k' => XS.lloadN X159.here hx rfl (hb hby d13_118) rfl k') ?_
  show Go p e below _ (T159.setTop (mkF m 119 #[.val (.ref a), .val (.ref li), .val (.long q), .second, .val (.int g), .val (.long ((0 : Int64) + s2)), .second, .val (.ref b_109), .val (.ref t), .val (.int (4 : Int32))] [(.long q), (.ref a)]))
  obtain ⟨T161, h161, X161, e161, W161, st161⟩ := putF X159 hx hZ hown (host := "") (Or.inl (hw _ (List.mem_of_getElem? (i := 34) rfl))) Via.refl e159 Ft_h160 Ea_h160 (Or.inr ⟨(hw _ (List.mem_of_getElem? (i := 35) rfl)), rfl, hnm⟩) (hw _ (List.mem_of_getElem? (i := 1) rfl)) (ty := .long) (by decide) rfl rfl (g := (mkF m 119 #[.val (.ref a), .val (.ref li), .val (.long q), .second, .val (.int g), .val (.long ((0 : Int64) + s2)), .second, .val (.ref b_109), .val (.ref t), .val (.int (4 : Int32))] [(.long q), (.ref a)])) rfl rfl (hb hby d13_119)
  refine Go.st st161 ?_
  have Fw161 : Fld Z h161 a "com/example/kertyma/kertyma/LoadCounts" "restartedAfter" "J" (.long q) := Ft_h160.same W161
  have Ea_h162 := Ea_h160.wr W161
  have Ff_h162 := Ff_h160.other W161 (Or.inr (slot_ne (Or.inr (hw _ (List.mem_of_getElem? (i := 37) rfl))) (Or.inr (hw _ (List.mem_of_getElem? (i := 35) rfl))) (by decide) (t := .int) (t' := .long) (by decide) (by decide)))
  have El_h162 := El_h160.wr W161
  have Fm_h162 := Fm_h160.other W161 (Or.inl Nla)
  have Fz_h162 := Fz_h160.other W161 (Or.inl Nla)
  have Fe_h162 := Fe_h160.other W161 (Or.inl Nla)
  have Vd_h162 := Vd_h160.other W161 Nda
  have Et_h162 := Et_h160.wr W161
  have Hc_h162 := Hc_h160.other W161 (Or.inl Nta)
  have Hj_h162 := Hj_h160.other W161 (Or.inl Nta)
  have Hs_h162 := Hs_h160.other W161 (Or.inl Nta)
  have V2_h162 := V2_h160.other W161 N2a
  have Vb_102_h162 := Vb_102_h160.other W161 (Ne.symm ne_a_b_102)
  have Fw107_h162 := Fw107_h160.other W161 (Or.inr (slot_ne (Or.inr (hw _ (List.mem_of_getElem? (i := 31) rfl))) (Or.inr (hw _ (List.mem_of_getElem? (i := 35) rfl))) (by decide) (t := (.array .long)) (t' := .long) (by decide) (by decide)))
  have Eb_109_h162 := Eb_109_h160.wr W161
  have Pt_112_h162 := Pt_112_h160.other W161 (Or.inl (Ne.symm ne_a_b_109))
  have Pc_112_h162 := Pc_112_h160.other W161 (Or.inl (Ne.symm ne_a_b_109))
  have Plr_112_h162 := Plr_112_h160.other W161 (Or.inl (Ne.symm ne_a_b_109))
  have Px_112_h162 := Px_112_h160.other W161 (Or.inl (Ne.symm ne_a_b_109))
  have V_b105_149_h162 := V_b105_149_h160.other W161 (Ne.symm ne_a_b105)
  have Fw155_h162 := Fw155_h160.other W161 (Or.inr (slot_ne (Or.inl (hw _ (List.mem_of_getElem? (i := 154) rfl))) (Or.inr (hw _ (List.mem_of_getElem? (i := 35) rfl))) (by decide) (t := .long) (t' := .long) (by decide) (by decide)))
  have Fw159_h162 := Fw159.other W161 (Or.inr (slot_ne (Or.inr (hw _ (List.mem_of_getElem? (i := 33) rfl))) (Or.inr (hw _ (List.mem_of_getElem? (i := 35) rfl))) (by decide) (t := .long) (t' := .long) (by decide) (by decide)))
  have O161 := own_ext_wr O159 W161 Ga
  have K161 := K159.wr W161 (Or.inl (List.mem_of_getElem? (i := 0) rfl))
  have N161 := Fr.snoc X161 N159 Ga
  show Go p e below _ (T161.setTop (mkF m 122 #[.val (.ref a), .val (.ref li), .val (.long q), .second, .val (.int g), .val (.long ((0 : Int64) + s2)), .second, .val (.ref b_109), .val (.ref t), .val (.int (4 : Int32))] []))
  refine Go.st (fun t' k' => XS.aloadN X161.here hx rfl (hb hby d13_122) rfl rfl k') ?_
  show Go p e below _ (T161.setTop (mkF m 123 #[.val (.ref a), .val (.ref li), .val (.long q), .second, .val (.int g), .val (.long ((0 : Int64) + s2)), .second, .val (.ref b_109), .val (.ref t), .val (.int (4 : Int32))] [(.ref a)]))
  refine Go.st (fun t' k' => XS.iload X161.here hx rfl (hb hby d13_123) rfl k') ?_
  show Go p e below _ (T161.setTop (mkF m 125 #[.val (.ref a), .val (.ref li), .val (.long q), .second, .val (.int g), .val (.long ((0 : Int64) + s2)), .second, .val (.ref b_109), .val (.ref t), .val (.int (4 : Int32))] [(.int g), (.ref a)]))
  obtain ⟨T163, h163, X163, e163, W163, st163⟩ := putF X161 hx hZ hown (host := "") (Or.inl (hw _ (List.mem_of_getElem? (i := 36) rfl))) Via.refl e161 Ff_h162 Ea_h162 (Or.inr ⟨(hw _ (List.mem_of_getElem? (i := 37) rfl)), rfl, hnm⟩) (hw _ (List.mem_of_getElem? (i := 1) rfl)) (ty := .int) (by decide) rfl rfl (g := (mkF m 125 #[.val (.ref a), .val (.ref li), .val (.long q), .second, .val (.int g), .val (.long ((0 : Int64) + s2)), .second, .val (.ref b_109), .val (.ref t), .val (.int (4 : Int32))] [(.int g), (.ref a)])) rfl rfl (hb hby d13_125)
  refine Go.st st163 ?_
  have Fw163 : Fld Z h163 a "com/example/kertyma/kertyma/LoadCounts" "finishedPartitions" "I" (.int g) := Ff_h162.same W163
  have Ea_h164 := Ea_h162.wr W163
  have El_h164 := El_h162.wr W163
  have Fm_h164 := Fm_h162.other W163 (Or.inl Nla)
  have Fz_h164 := Fz_h162.other W163 (Or.inl Nla)
  have Fe_h164 := Fe_h162.other W163 (Or.inl Nla)
  have Vd_h164 := Vd_h162.other W163 Nda
  have Et_h164 := Et_h162.wr W163
  have Hc_h164 := Hc_h162.other W163 (Or.inl Nta)
  have Hj_h164 := Hj_h162.other W163 (Or.inl Nta)
  have Hs_h164 := Hs_h162.other W163 (Or.inl Nta)
  have V2_h164 := V2_h162.other W163 N2a
  have Vb_102_h164 := Vb_102_h162.other W163 (Ne.symm ne_a_b_102)
  have Fw107_h164 := Fw107_h162.other W163 (Or.inr (slot_ne (Or.inr (hw _ (List.mem_of_getElem? (i := 31) rfl))) (Or.inr (hw _ (List.mem_of_getElem? (i := 37) rfl))) (by decide) (t := (.array .long)) (t' := .int) (by decide) (by decide)))
  have Eb_109_h164 := Eb_109_h162.wr W163
  have Pt_112_h164 := Pt_112_h162.other W163 (Or.inl (Ne.symm ne_a_b_109))
  have Pc_112_h164 := Pc_112_h162.other W163 (Or.inl (Ne.symm ne_a_b_109))
  have Plr_112_h164 := Plr_112_h162.other W163 (Or.inl (Ne.symm ne_a_b_109))
  have Px_112_h164 := Px_112_h162.other W163 (Or.inl (Ne.symm ne_a_b_109))
  have V_b105_149_h164 := V_b105_149_h162.other W163 (Ne.symm ne_a_b105)
  have Fw155_h164 := Fw155_h162.other W163 (Or.inr (slot_ne (Or.inl (hw _ (List.mem_of_getElem? (i := 154) rfl))) (Or.inr (hw _ (List.mem_of_getElem? (i := 37) rfl))) (by decide) (t := .long) (t' := .int) (by decide) (by decide)))
  have Fw159_h164 := Fw159_h162.other W163 (Or.inr (slot_ne (Or.inr (hw _ (List.mem_of_getElem? (i := 33) rfl))) (Or.inr (hw _ (List.mem_of_getElem? (i := 37) rfl))) (by decide) (t := .long) (t' := .int) (by decide) (by decide)))
  have Fw161_h164 := Fw161.other W163 (Or.inr (slot_ne (Or.inr (hw _ (List.mem_of_getElem? (i := 35) rfl))) (Or.inr (hw _ (List.mem_of_getElem? (i := 37) rfl))) (by decide) (t := .long) (t' := .int) (by decide) (by decide)))
  have O163 := own_ext_wr O161 W163 Ga
  have K163 := K161.wr W163 (Or.inl (List.mem_of_getElem? (i := 0) rfl))
  have N163 := Fr.snoc X163 N161 Ga
  show Go p e below _ (T163.setTop (mkF m 128 #[.val (.ref a), .val (.ref li), .val (.long q), .second, .val (.int g), .val (.long ((0 : Int64) + s2)), .second, .val (.ref b_109), .val (.ref t), .val (.int (4 : Int32))] []))
  exact Go.outU X163 hx hlk hret (hb hby d13_128) (Q := Q_rmLC1 Z a li q g w_VALUES k_VALUES w_NEW w_CHANGED w_UNCHANGED w_CANCELLED mm t d kd b2 k2 j2 s2 c0 c1 c2 c3 h0) (by rw [e163]; exact ⟨rfl, N163, O163, K163, Fw163⟩) (by decide) (by decide)
theorem ef_rm0 (m : MethodId) (x0 : Int32) (x1 : Int64) (x2 : Int32) : entryFrame m #[(.int x0), (.long x1), (.int x2)] maxLocals = mkF m 0 #[.val (.int x0), .val (.long x1), .second, .val (.int x2), .unset, .unset, .unset, .unset] [] := by first | (simp [entryFrame, mkF, argsToLocals, Value.category, maxLocals]; done) | rfl
def Q_rm0 (Z : State) (g : Int32) (q : Int64) (fl : Int32) (w_VALUES : Addr) (k_VALUES : ClassId) (w_NEW : Addr) (w_CHANGED : Addr) (w_UNCHANGED : Addr) (w_CANCELLED : Addr) (w_DEF : Addr) (k_DEF : ClassId) (h0 : Heap) (v : Option Value) (h : Heap) (L : List Loc) : Prop := v = some (.int (1 : Int32)) ∧ Fr Z.heap.size L
theorem pn_com_example_kertyma_kertyma_LoadCountsResumedPinLaw : plainName "com/example/kertyma/kertyma/LoadCountsResumedPinLaw" = true := by first | (simp [plainName, overriddenIn]; done) | decide +kernel
theorem pd__Ljava_util_List_JI_V : parseMethodDescriptor "(Ljava/util/List;JI)V" = some ⟨[(.object "java/util/List"), .long, .int], none⟩ := by decide +kernel
theorem pd__Ljava_lang_Object__Z : parseMethodDescriptor "(Ljava/lang/Object;)Z" = some ⟨[(.object "java/lang/Object")], some .boolean⟩ := by decide +kernel
set_option maxRecDepth 65536 in
set_option maxHeartbeats 40000000 in
theorem rm0 (l : Launch) (Z : State) (a0 : Array Value) (hw : ∀ d ∈ tables_1, d.before a0 Z = true) (ws : List Jvm.Cond) (g : Int32) (q : Int64) (fl : Int32) (w_VALUES : Addr) (k_VALUES : ClassId) (w_NEW : Addr) (w_CHANGED : Addr) (w_UNCHANGED : Addr) (w_CANCELLED : Addr) (w_DEF : Addr) (k_DEF : ClassId) (h0 : Heap) (O0 : Ext Z.heap h0) (S_VALUES : Sta Z Z.heap "com/example/kertyma/kertyma/RowOutcome" "$VALUES" "[Lcom/example/kertyma/kertyma/RowOutcome;" (.ref w_VALUES)) (A_VALUES : Arv Z Z.heap w_VALUES k_VALUES (.object "com/example/kertyma/kertyma/RowOutcome") (4 : Int32) [(.ref w_NEW), (.ref w_CHANGED), (.ref w_UNCHANGED), (.ref w_CANCELLED)] .null) (E_VALUES : Exa Z Z.heap w_VALUES "[Lcom/example/kertyma/kertyma/RowOutcome;") (S_DEF : Sta Z Z.heap "java/util/ArrayList" "DEFAULTCAPACITY_EMPTY_ELEMENTDATA" "[Ljava/lang/Object;" (.ref w_DEF)) (A_DEF : Arv Z Z.heap w_DEF k_DEF (.object "java/lang/Object") (0 : Int32) [] .null) :
    MetFree l x (head1 (Jvm.Cond.code x code maxLocals ret :: ws) room_1) (fun av' U => av' = #[(.int g), (.long q), (.int fl)] ∧ Z.Warmed39 U.vm ∧ U.heap = h0) (fun _ _ _ _ _ => True) (fun _ U o U' => ∃ v L, o = .returned v ∧ Q_rm0 Z g q fl w_VALUES k_VALUES w_NEW w_CHANGED w_UNCHANGED w_CANCELLED w_DEF k_DEF h0 v U'.heap L ∧ FrameEnd U o U' L room_1.cells room_1.slots) := by
  refine MetFree.of_bodySF (plainFor_of_name pn_com_example_kertyma_kertyma_LoadCountsResumedPinLaw) hisR ?_
  intro p e s m args below meth c s₁ Bd hml0 hP hK
  obtain ⟨rfl, hZ, hh⟩ := hP
  have hx := Bd.exec
  have hby := Bd.bytes
  have hret := Bd.returns
  have hlk : meth.locks = false := Bd.notSynchronized
  have hml : c.maxLocals = 8 := hml0
  have hown : s.vm.findClass "com/example/kertyma/kertyma/LoadCountsResumedPinLaw" = some m.cls := findClass_of_methodNamed Bd.named
  have hnm := (name_of_methodNamed Bd.named Bd.method).1
  have X0 : Stand p l e room_1 s m #[(.int g), (.long q), (.int fl)] below meth c s₁ [] 0 0 := Stand.of_body Bd
  -- the walk
  have e0 : s₁.heap = h0 := by rw [← hh, Bd.state]; rfl
  have N0 := Fr.nil Z.heap.size
  show Go p e below (GO s (Q_rm0 Z g q fl w_VALUES k_VALUES w_NEW w_CHANGED w_UNCHANGED w_CANCELLED w_DEF k_DEF h0) room_1.cells room_1.slots) (s₁.setTop (entryFrame m #[(.int g), (.long q), (.int fl)] maxLocals))
  refine Go.st (fun t' k' => castTop (ef_rm0 m g q fl) k') ?_
  show Go p e below _ (s₁.setTop (mkF m 0 #[.val (.int g), .val (.long q), .second, .val (.int fl), .unset, .unset, .unset, .unset] []))
  obtain ⟨T101, h101, X101, e101, E101, A101, D101, -, st101⟩ := newO X0 hx hZ hown (hw _ (List.mem_of_getElem? (i := 0) rfl)) (hw _ (List.mem_of_getElem? (i := 1) rfl)) (hw _ (List.mem_of_getElem? (i := 2) rfl)) e0 (g := (mkF m 0 #[.val (.int g), .val (.long q), .second, .val (.int fl), .unset, .unset, .unset, .unset] [])) rfl (hb hby at_0) (by decide) (by decide)
  obtain ⟨b101, g101⟩ : ∃ z, z = h0.size := ⟨_, rfl⟩
  rw [← g101] at A101 D101 st101
  refine Go.st st101 ?_
  have ne_w_VALUES_b101 : w_VALUES ≠ b101 := Nat.ne_of_lt (Nat.lt_of_lt_of_le (A_VALUES.ext O0).lt (Nat.le_of_eq g101.symm))
  have ne_w_DEF_b101 : w_DEF ≠ b101 := Nat.ne_of_lt (Nat.lt_of_lt_of_le (A_DEF.ext O0).lt (Nat.le_of_eq g101.symm))
  have g_b101 : Z.heap.size ≤ b101 := Nat.le_trans O0.1 (Nat.le_of_eq g101.symm)
  have O101 := own_ext_trans O0 E101
  have F_counts_b101 : Fld Z h101 b101 "com/example/kertyma/kertyma/LoadCounts" "counts" "[J" .null := D101 (Or.inr (hw _ (List.mem_of_getElem? (i := 31) rfl))) (ty := (.array .long)) (by decide)
  have F_resumedAfter_b101 : Fld Z h101 b101 "com/example/kertyma/kertyma/LoadCounts" "resumedAfter" "J" (.long (0 : Int64)) := D101 (Or.inr (hw _ (List.mem_of_getElem? (i := 33) rfl))) (ty := .long) (by decide)
  have F_restartedAfter_b101 : Fld Z h101 b101 "com/example/kertyma/kertyma/LoadCounts" "restartedAfter" "J" (.long (0 : Int64)) := D101 (Or.inr (hw _ (List.mem_of_getElem? (i := 35) rfl))) (ty := .long) (by decide)
  have F_finishedPartitions_b101 : Fld Z h101 b101 "com/example/kertyma/kertyma/LoadCounts" "finishedPartitions" "I" (.int (0 : Int32)) := D101 (Or.inr (hw _ (List.mem_of_getElem? (i := 37) rfl))) (ty := .int) (by decide)
  have F_rejected_b101 : Fld Z h101 b101 "com/example/kertyma/kertyma/LoadCounts" "rejected" "J" (.long (0 : Int64)) := D101 (Or.inl (hw _ (List.mem_of_getElem? (i := 154) rfl))) (ty := .long) (by decide)
  show Go p e below _ (T101.setTop (mkF m 3 #[.val (.int g), .val (.long q), .second, .val (.int fl), .unset, .unset, .unset, .unset] [(.ref b101)]))
  refine Go.st (fun t' k' => XS.dup X101.here hx rfl (hb hby at_3) rfl rfl k') ?_
  show Go p e below _ (T101.setTop (mkF m 4 #[.val (.int g), .val (.long q), .second, .val (.int fl), .unset, .unset, .unset, .unset] [(.ref b101), (.ref b101)]))
  obtain ⟨_, _, ⟨T103, L103, k103, n103⟩, -, X103, ⟨Lc103, hQ103, l103, y103, z103⟩, st103⟩ := X101.specialBack hx (y := (⟨"com/example/kertyma/kertyma/LoadCounts", "<init>", "()V"⟩ : MethodName)) rfl hown (mvT hZ (hw _ (List.mem_of_getElem? (i := 3) rfl))) (mvT hZ (hw _ (List.mem_of_getElem? (i := 4) rfl))) (mvT hZ (hw _ (List.mem_of_getElem? (i := 5) rfl))) (by decide) (backOf (W := 1) (rmInit l Z a0 hw [] b101 w_VALUES k_VALUES w_NEW w_CHANGED w_UNCHANGED w_CANCELLED h101 O101 S_VALUES A_VALUES E_VALUES A101 g_b101 F_counts_b101 F_rejected_b101 F_resumedAfter_b101 F_restartedAfter_b101 F_finishedPartitions_b101) hZ (hw _ (List.mem_of_getElem? (i := 5) rfl)) (hw _ (List.mem_of_getElem? (i := 2) rfl)) (by decide) (by decide)) (g := (mkF m 4 #[.val (.int g), .val (.long q), .second, .val (.int fl), .unset, .unset, .unset, .unset] [(.ref b101), (.ref b101)])) rfl (by rw [hml]; rfl) (Steps.refl _) (a := b101) (argsL := []) (rest := [(.ref b101)]) (lenOf pd___V rfl) rfl (by show 2 * 0 + _ ≤ _; exact Nat.le_of_eq rfl) (hb hby at_4) (fun _ _ => ⟨rfl, e101, (by decide : 1 + 2 ≤ _), (by decide : 5 + 8 ≤ _)⟩)
  dsimp only [Pt.U, Pt.locs, Pt.cells, Pt.slots] at X103 l103 y103 z103 st103 hQ103
  subst l103 y103 z103
  obtain ⟨b_103, kb_103, rfl, N103q, O103, Kc103, Pc_103, Vb_103, Gb_103, Sb_103, Nab_103, Pr_103, Pf_103, Ps_103⟩ := hQ103
  have N103 := Fr.app N0 N103q
  refine Go.tr st103 ?_
  have A101_h104 := A101.keep Kc103
  have ne_w_VALUES_b_103 : w_VALUES ≠ b_103 := Nat.ne_of_lt (Nat.lt_of_lt_of_le (A_VALUES.ext O101).lt Sb_103)
  have ne_w_DEF_b_103 : w_DEF ≠ b_103 := Nat.ne_of_lt (Nat.lt_of_lt_of_le (A_DEF.ext O101).lt Sb_103)
  show Go p e below _ (T103.setTop (mkF m 7 #[.val (.int g), .val (.long q), .second, .val (.int fl), .unset, .unset, .unset, .unset] [(.ref b101)]))
  refine Go.st (fun t' k' => XS.astore X103.here hx rfl (hb hby at_7) rfl rfl (l' := #[.val (.int g), .val (.long q), .second, .val (.int fl), .val (.ref b101), .unset, .unset, .unset]) rfl k') ?_
  show Go p e below _ (T103.setTop (mkF m 9 #[.val (.int g), .val (.long q), .second, .val (.int fl), .val (.ref b101), .unset, .unset, .unset] []))
  refine Go.st (fun t' k' => XS.aload X103.here hx rfl (hb hby at_9) rfl rfl k') ?_
  show Go p e below _ (T103.setTop (mkF m 11 #[.val (.int g), .val (.long q), .second, .val (.int fl), .val (.ref b101), .unset, .unset, .unset] [(.ref b101)]))
  obtain ⟨cq105, kq105, q105a, q105b, q105c⟩ := isOf hZ rfl A101_h104
  obtain ⟨_, _, ⟨T105, L105, k105, n105⟩, -, X105, ⟨Lc105, hQ105, l105, y105, z105⟩, st105⟩ := X103.virtualBack hx (y := (⟨"com/example/kertyma/kertyma/LoadCounts", "resumed", "()Z"⟩ : MethodName)) (z := (⟨"com/example/kertyma/kertyma/LoadCounts", "resumed", "()Z"⟩ : MethodName)) hown (mvT hZ (hw _ (List.mem_of_getElem? (i := 38) rfl))) (mvT hZ (hw _ (List.mem_of_getElem? (i := 39) rfl))) (notFace_of_selects (args := #[]) (mvT hZ (hw _ (List.mem_of_getElem? (i := 41) rfl)))) (mvT hZ (hw _ (List.mem_of_getElem? (i := 41) rfl))) (mvT hZ (hw _ (List.mem_of_getElem? (i := 40) rfl))) (by decide) (backOf (W := 0) (rmRes l Z a0 hw [] b101 ((-1 : Int32)) T103.heap O103 Pf_103) hZ (hw _ (List.mem_of_getElem? (i := 42) rfl)) (hw _ (List.mem_of_getElem? (i := 2) rfl)) (by decide) (by decide)) q105a q105c (g := (mkF m 11 #[.val (.int g), .val (.long q), .second, .val (.int fl), .val (.ref b101), .unset, .unset, .unset] [(.ref b101)])) rfl (by rw [hml]; rfl) (Steps.refl _) (argsL := []) (rest := []) (lenOf pd___Z rfl) rfl (by show 2 * 0 + _ ≤ _; exact Nat.le_of_eq rfl) (hb hby at_11) (fun _ _ => ⟨rfl, rfl, (by decide : 3 + 0 ≤ _), (by decide : 13 + 0 ≤ _)⟩)
  dsimp only [Pt.U, Pt.locs, Pt.cells, Pt.slots] at X105 l105 y105 z105 st105 hQ105
  subst l105 y105 z105
  obtain ⟨rfl, rfl, e105⟩ := hQ105
  have N105 := Fr.app N103 (Fr.nil _)
  refine Go.tr st105 ?_
  show Go p e below _ (T105.setTop (mkF m 14 #[.val (.int g), .val (.long q), .second, .val (.int fl), .val (.ref b101), .unset, .unset, .unset] [(.int (if (-1 : Int32) < 0 then (0 : Int32) else 1))]))
  refine Go.st (fun t' k' => XS.ifYes X105.here hx rfl (pc0 := 14) (pc' := 19) rfl (hb hby at_14) rfl ((if0 _ _).trans (teq (by decide)).1) (by decide) (by decide) k') ?_
  show Go p e below _ (T105.setTop (mkF m 19 #[.val (.int g), .val (.long q), .second, .val (.int fl), .val (.ref b101), .unset, .unset, .unset] []))
  obtain ⟨T106, h106, X106, e106, E106, A106, D106, -, st106⟩ := newO X105 hx hZ hown (hw _ (List.mem_of_getElem? (i := 43) rfl)) (hw _ (List.mem_of_getElem? (i := 44) rfl)) (hw _ (List.mem_of_getElem? (i := 45) rfl)) e105 (g := (mkF m 19 #[.val (.int g), .val (.long q), .second, .val (.int fl), .val (.ref b101), .unset, .unset, .unset] [])) rfl (hb hby at_19) (by decide) (by decide)
  obtain ⟨b106, g106⟩ : ∃ z, z = T103.heap.size := ⟨_, rfl⟩
  rw [← g106] at A106 D106 st106
  refine Go.st st106 ?_
  have ne_w_VALUES_b106 : w_VALUES ≠ b106 := Nat.ne_of_lt (Nat.lt_of_lt_of_le (A_VALUES.ext O103).lt (Nat.le_of_eq g106.symm))
  have ne_w_DEF_b106 : w_DEF ≠ b106 := Nat.ne_of_lt (Nat.lt_of_lt_of_le (A_DEF.ext O103).lt (Nat.le_of_eq g106.symm))
  have ne_b101_b106 : b101 ≠ b106 := Nat.ne_of_lt (Nat.lt_of_lt_of_le A101_h104.lt (Nat.le_of_eq g106.symm))
  have ne_b_103_b106 : b_103 ≠ b106 := Nat.ne_of_lt (Nat.lt_of_lt_of_le Vb_103.lt (Nat.le_of_eq g106.symm))
  have g_b106 : Z.heap.size ≤ b106 := Nat.le_trans O103.1 (Nat.le_of_eq g106.symm)
  have A101_h107 := A101_h104.ext E106
  have Pc_103_h107 := Pc_103.ext E106
  have Vb_103_h107 := Vb_103.ext E106
  have Pr_103_h107 := Pr_103.ext E106
  have Pf_103_h107 := Pf_103.ext E106
  have Ps_103_h107 := Ps_103.ext E106
  have O106 := own_ext_trans O103 E106
  have F_modCount_b106 : Fld Z h106 b106 "java/util/AbstractList" "modCount" "I" (.int (0 : Int32)) := D106 (Or.inl (hw _ (List.mem_of_getElem? (i := 63) rfl))) (ty := .int) (by decide)
  have F_elementData_b106 : Fld Z h106 b106 "java/util/ArrayList" "elementData" "[Ljava/lang/Object;" .null := D106 (Or.inl (hw _ (List.mem_of_getElem? (i := 66) rfl))) (ty := (.array (.object "java/lang/Object"))) (by decide)
  have F_size_b106 : Fld Z h106 b106 "java/util/ArrayList" "size" "I" (.int (0 : Int32)) := D106 (Or.inl (hw _ (List.mem_of_getElem? (i := 75) rfl))) (ty := .int) (by decide)
  show Go p e below _ (T106.setTop (mkF m 22 #[.val (.int g), .val (.long q), .second, .val (.int fl), .val (.ref b101), .unset, .unset, .unset] [(.ref b106)]))
  refine Go.st (fun t' k' => XS.dup X106.here hx rfl (hb hby at_22) rfl rfl k') ?_
  show Go p e below _ (T106.setTop (mkF m 23 #[.val (.int g), .val (.long q), .second, .val (.int fl), .val (.ref b101), .unset, .unset, .unset] [(.ref b106), (.ref b106)]))
  obtain ⟨_, _, ⟨T108, L108, k108, n108⟩, -, X108, ⟨Lc108, hQ108, l108, y108, z108⟩, st108⟩ := X106.specialBack hx (y := (⟨"java/util/ArrayList", "<init>", "()V"⟩ : MethodName)) rfl hown (mvT hZ (hw _ (List.mem_of_getElem? (i := 46) rfl))) (mvT hZ (hw _ (List.mem_of_getElem? (i := 47) rfl))) (mvT hZ (hw _ (List.mem_of_getElem? (i := 48) rfl))) (by decide) (backOf (W := 1) (rmALI l Z a0 hw [] b106 w_DEF h106 O106 S_DEF A106 g_b106 F_elementData_b106 F_size_b106 F_modCount_b106) hZ (hw _ (List.mem_of_getElem? (i := 48) rfl)) (hw _ (List.mem_of_getElem? (i := 45) rfl)) (by decide) (by decide)) (g := (mkF m 23 #[.val (.int g), .val (.long q), .second, .val (.int fl), .val (.ref b101), .unset, .unset, .unset] [(.ref b106), (.ref b106)])) rfl (by rw [hml]; rfl) (Steps.refl _) (a := b106) (argsL := []) (rest := [(.ref b106)]) (lenOf pd___V rfl) rfl (by show 2 * 0 + _ ≤ _; exact Nat.le_of_eq rfl) (hb hby at_23) (fun _ _ => ⟨rfl, e106, (by decide : 4 + 0 ≤ _), (by decide : 16 + 0 ≤ _)⟩)
  dsimp only [Pt.U, Pt.locs, Pt.cells, Pt.slots] at X108 l108 y108 z108 st108 hQ108
  subst l108 y108 z108
  obtain ⟨rfl, N108q, O108, Kc108, Pe_108, Ps_108, Pm_108⟩ := hQ108
  have N108 := Fr.app N105 N108q
  refine Go.tr st108 ?_
  have A101_h109 := A101_h107.keep Kc108
  have Pc_103_h109 := Pc_103_h107.keep Kc108 (ninS ne_b101_b106 nin0)
  have Vb_103_h109 := Vb_103_h107.keep Kc108 (ninS ne_b_103_b106 nin0)
  have Pr_103_h109 := Pr_103_h107.keep Kc108 (ninS ne_b101_b106 nin0)
  have Pf_103_h109 := Pf_103_h107.keep Kc108 (ninS ne_b101_b106 nin0)
  have Ps_103_h109 := Ps_103_h107.keep Kc108 (ninS ne_b101_b106 nin0)
  have A106_h109 := A106.keep Kc108
  show Go p e below _ (T108.setTop (mkF m 26 #[.val (.int g), .val (.long q), .second, .val (.int fl), .val (.ref b101), .unset, .unset, .unset] [(.ref b106)]))
  refine Go.st (fun t' k' => XS.astore X108.here hx rfl (hb hby at_26) rfl rfl (l' := #[.val (.int g), .val (.long q), .second, .val (.int fl), .val (.ref b101), .val (.ref b106), .unset, .unset]) rfl k') ?_
  show Go p e below _ (T108.setTop (mkF m 28 #[.val (.int g), .val (.long q), .second, .val (.int fl), .val (.ref b101), .val (.ref b106), .unset, .unset] []))
  refine Go.st (fun t' k' => XS.iloadN X108.here hx rfl (hb hby at_28) rfl k') ?_
  show Go p e below _ (T108.setTop (mkF m 29 #[.val (.int g), .val (.long q), .second, .val (.int fl), .val (.ref b101), .val (.ref b106), .unset, .unset] [(.int fl)]))
  refine Go.st (fun t' k' => XS.iconst X108.here hx rfl (hb hby at_29) k') ?_
  show Go p e below _ (T108.setTop (mkF m 30 #[.val (.int g), .val (.long q), .second, .val (.int fl), .val (.ref b101), .val (.ref b106), .unset, .unset] [(.int (1 : Int32)), (.int fl)]))
  refine Go.st (fun t' k' => XS.iand X108.here hx rfl (hb hby at_30) rfl k') ?_
  show Go p e below _ (T108.setTop (mkF m 31 #[.val (.int g), .val (.long q), .second, .val (.int fl), .val (.ref b101), .val (.ref b106), .unset, .unset] [(.int (fl &&& (1 : Int32)))]))
  by_cases hc31_110 : (fl &&& (1 : Int32)) = (0 : Int32)
  · refine Go.st (fun t' k' => XS.ifYes X108.here hx rfl (pc0 := 31) (pc' := 42) rfl (hb hby at_31) rfl ((if0 _ _).trans (teq hc31_110).1) (by decide) (by decide) k') ?_
    show Go p e below _ (T108.setTop (mkF m 42 #[.val (.int g), .val (.long q), .second, .val (.int fl), .val (.ref b101), .val (.ref b106), .unset, .unset] []))
    obtain ⟨T111, h111, X111, e111, E111, A111, D111, -, st111⟩ := newO X108 hx hZ hown (hw _ (List.mem_of_getElem? (i := 0) rfl)) (hw _ (List.mem_of_getElem? (i := 1) rfl)) (hw _ (List.mem_of_getElem? (i := 2) rfl)) rfl (g := (mkF m 42 #[.val (.int g), .val (.long q), .second, .val (.int fl), .val (.ref b101), .val (.ref b106), .unset, .unset] [])) rfl (hb hby at_42) (by decide) (by decide)
    obtain ⟨b111, g111⟩ : ∃ z, z = T108.heap.size := ⟨_, rfl⟩
    rw [← g111] at A111 D111 st111
    refine Go.st st111 ?_
    have ne_w_VALUES_b111 : w_VALUES ≠ b111 := Nat.ne_of_lt (Nat.lt_of_lt_of_le (A_VALUES.ext O108).lt (Nat.le_of_eq g111.symm))
    have ne_w_DEF_b111 : w_DEF ≠ b111 := Nat.ne_of_lt (Nat.lt_of_lt_of_le (A_DEF.ext O108).lt (Nat.le_of_eq g111.symm))
    have ne_b101_b111 : b101 ≠ b111 := Nat.ne_of_lt (Nat.lt_of_lt_of_le A101_h109.lt (Nat.le_of_eq g111.symm))
    have ne_b_103_b111 : b_103 ≠ b111 := Nat.ne_of_lt (Nat.lt_of_lt_of_le Vb_103_h109.lt (Nat.le_of_eq g111.symm))
    have ne_b106_b111 : b106 ≠ b111 := Nat.ne_of_lt (Nat.lt_of_lt_of_le A106_h109.lt (Nat.le_of_eq g111.symm))
    have g_b111 : Z.heap.size ≤ b111 := Nat.le_trans O108.1 (Nat.le_of_eq g111.symm)
    have A101_h112 := A101_h109.ext E111
    have Pc_103_h112 := Pc_103_h109.ext E111
    have Vb_103_h112 := Vb_103_h109.ext E111
    have Pr_103_h112 := Pr_103_h109.ext E111
    have Pf_103_h112 := Pf_103_h109.ext E111
    have Ps_103_h112 := Ps_103_h109.ext E111
    have A106_h112 := A106_h109.ext E111
    have Pe_108_h112 := Pe_108.ext E111
    have Ps_108_h112 := Ps_108.ext E111
    have Pm_108_h112 := Pm_108.ext E111
    have O111 := own_ext_trans O108 E111
    have F_counts_b111 : Fld Z h111 b111 "com/example/kertyma/kertyma/LoadCounts" "counts" "[J" .null := D111 (Or.inr (hw _ (List.mem_of_getElem? (i := 31) rfl))) (ty := (.array .long)) (by decide)
    have F_resumedAfter_b111 : Fld Z h111 b111 "com/example/kertyma/kertyma/LoadCounts" "resumedAfter" "J" (.long (0 : Int64)) := D111 (Or.inr (hw _ (List.mem_of_getElem? (i := 33) rfl))) (ty := .long) (by decide)
    have F_restartedAfter_b111 : Fld Z h111 b111 "com/example/kertyma/kertyma/LoadCounts" "restartedAfter" "J" (.long (0 : Int64)) := D111 (Or.inr (hw _ (List.mem_of_getElem? (i := 35) rfl))) (ty := .long) (by decide)
    have F_finishedPartitions_b111 : Fld Z h111 b111 "com/example/kertyma/kertyma/LoadCounts" "finishedPartitions" "I" (.int (0 : Int32)) := D111 (Or.inr (hw _ (List.mem_of_getElem? (i := 37) rfl))) (ty := .int) (by decide)
    have F_rejected_b111 : Fld Z h111 b111 "com/example/kertyma/kertyma/LoadCounts" "rejected" "J" (.long (0 : Int64)) := D111 (Or.inl (hw _ (List.mem_of_getElem? (i := 154) rfl))) (ty := .long) (by decide)
    show Go p e below _ (T111.setTop (mkF m 45 #[.val (.int g), .val (.long q), .second, .val (.int fl), .val (.ref b101), .val (.ref b106), .unset, .unset] [(.ref b111)]))
    refine Go.st (fun t' k' => XS.dup X111.here hx rfl (hb hby at_45) rfl rfl k') ?_
    show Go p e below _ (T111.setTop (mkF m 46 #[.val (.int g), .val (.long q), .second, .val (.int fl), .val (.ref b101), .val (.ref b106), .unset, .unset] [(.ref b111), (.ref b111)]))
    refine Go.st (fun t' k' => XS.aload X111.here hx rfl (hb hby at_46) rfl rfl k') ?_
    show Go p e below _ (T111.setTop (mkF m 48 #[.val (.int g), .val (.long q), .second, .val (.int fl), .val (.ref b101), .val (.ref b106), .unset, .unset] [(.ref b106), (.ref b111), (.ref b111)]))
    refine Go.st (fun t' k' => XS.lloadN X111.here hx rfl (hb hby at_48) rfl k') ?_
    show Go p e below _ (T111.setTop (mkF m 49 #[.val (.int g), .val (.long q), .second, .val (.int fl), .val (.ref b101), .val (.ref b106), .unset, .unset] [(.long q), (.ref b106), (.ref b111), (.ref b111)]))
    refine Go.st (fun t' k' => XS.iloadN X111.here hx rfl (hb hby at_49) rfl k') ?_
    show Go p e below _ (T111.setTop (mkF m 50 #[.val (.int g), .val (.long q), .second, .val (.int fl), .val (.ref b101), .val (.ref b106), .unset, .unset] [(.int g), (.long q), (.ref b106), (.ref b111), (.ref b111)]))
    obtain ⟨_, _, ⟨T113, L113, k113, n113⟩, -, X113, ⟨Lc113, hQ113, l113, y113, z113⟩, st113⟩ := X111.specialBack hx (y := (⟨"com/example/kertyma/kertyma/LoadCounts", "<init>", "(Ljava/util/List;JI)V"⟩ : MethodName)) rfl hown (mvT hZ (hw _ (List.mem_of_getElem? (i := 98) rfl))) (mvT hZ (hw _ (List.mem_of_getElem? (i := 99) rfl))) (mvT hZ (hw _ (List.mem_of_getElem? (i := 100) rfl))) (by decide) (backOf (W := 1) (rmLCE l Z a0 hw [] b111 b106 q g w_VALUES k_VALUES w_NEW w_CHANGED w_UNCHANGED w_CANCELLED ((0 : Int32)) h111 O111 S_VALUES A_VALUES E_VALUES A111 g_b111 F_counts_b111 F_rejected_b111 F_resumedAfter_b111 F_restartedAfter_b111 F_finishedPartitions_b111 A106_h112 ne_b106_b111 Pm_108_h112 Ps_108_h112) hZ (hw _ (List.mem_of_getElem? (i := 100) rfl)) (hw _ (List.mem_of_getElem? (i := 2) rfl)) (by decide) (by decide)) (g := (mkF m 50 #[.val (.int g), .val (.long q), .second, .val (.int fl), .val (.ref b101), .val (.ref b106), .unset, .unset] [(.int g), (.long q), (.ref b106), (.ref b111), (.ref b111)])) rfl (by rw [hml]; rfl) (Steps.refl _) (a := b111) (argsL := [(.ref b106), (.long q), (.int g)]) (rest := [(.ref b111)]) (lenOf pd__Ljava_util_List_JI_V rfl) rfl (by show 2 * 0 + _ ≤ _; exact Nat.le_of_eq rfl) (hb hby at_50) (fun _ _ => ⟨rfl, e111, (by decide : 5 + 3 ≤ _), (by decide : 21 + 12 ≤ _)⟩)
    dsimp only [Pt.U, Pt.locs, Pt.cells, Pt.slots] at X113 l113 y113 z113 st113 hQ113
    subst l113 y113 z113
    obtain ⟨rfl, N113q, O113, Kc113, Pf_113⟩ := hQ113
    have N113 := Fr.app N108 N113q
    refine Go.tr st113 ?_
    have A101_h114 := A101_h112.keep Kc113
    have Pc_103_h114 := Pc_103_h112.keep Kc113 (ninS ne_b101_b111 nin0)
    have Vb_103_h114 := Vb_103_h112.keep Kc113 (ninS ne_b_103_b111 nin0)
    have Pr_103_h114 := Pr_103_h112.keep Kc113 (ninS ne_b101_b111 nin0)
    have Pf_103_h114 := Pf_103_h112.keep Kc113 (ninS ne_b101_b111 nin0)
    have Ps_103_h114 := Ps_103_h112.keep Kc113 (ninS ne_b101_b111 nin0)
    have A106_h114 := A106_h112.keep Kc113
    have Pe_108_h114 := Pe_108_h112.keep Kc113 (ninS ne_b106_b111 nin0)
    have Ps_108_h114 := Ps_108_h112.keep Kc113 (ninS ne_b106_b111 nin0)
    have Pm_108_h114 := Pm_108_h112.keep Kc113 (ninS ne_b106_b111 nin0)
    have A111_h114 := A111.keep Kc113
    show Go p e below _ (T113.setTop (mkF m 53 #[.val (.int g), .val (.long q), .second, .val (.int fl), .val (.ref b101), .val (.ref b106), .unset, .unset] [(.ref b111)]))
    refine Go.st (fun t' k' => XS.astore X113.here hx rfl (hb hby at_53) rfl rfl (l' := #[.val (.int g), .val (.long q), .second, .val (.int fl), .val (.ref b101), .val (.ref b106), .val (.ref b111), .unset]) rfl k') ?_
    show Go p e below _ (T113.setTop (mkF m 55 #[.val (.int g), .val (.long q), .second, .val (.int fl), .val (.ref b101), .val (.ref b106), .val (.ref b111), .unset] []))
    refine Go.st (fun t' k' => XS.iloadN X113.here hx rfl (hb hby at_55) rfl k') ?_
    show Go p e below _ (T113.setTop (mkF m 56 #[.val (.int g), .val (.long q), .second, .val (.int fl), .val (.ref b101), .val (.ref b106), .val (.ref b111), .unset] [(.int g)]))
    by_cases hc56_115 : g < (0 : Int32)
    · refine Go.st (fun t' k' => XS.ifYes X113.here hx rfl (pc0 := 56) (pc' := 63) rfl (hb hby at_56) rfl ((if0 _ _).trans (tlt hc56_115).1) (by decide) (by decide) k') ?_
      show Go p e below _ (T113.setTop (mkF m 63 #[.val (.int g), .val (.long q), .second, .val (.int fl), .val (.ref b101), .val (.ref b106), .val (.ref b111), .unset] []))
      refine Go.st (fun t' k' => XS.iconst X113.here hx rfl (hb hby at_63) k') ?_
      show Go p e below _ (T113.setTop (mkF m 64 #[.val (.int g), .val (.long q), .second, .val (.int fl), .val (.ref b101), .val (.ref b106), .val (.ref b111), .unset] [(.int (0 : Int32))]))
      refine Go.st (fun t' k' => XS.istore X113.here hx rfl (hb hby at_64) rfl (l' := #[.val (.int g), .val (.long q), .second, .val (.int fl), .val (.ref b101), .val (.ref b106), .val (.ref b111), .val (.int (0 : Int32))]) rfl k') ?_
      show Go p e below _ (T113.setTop (mkF m 66 #[.val (.int g), .val (.long q), .second, .val (.int fl), .val (.ref b101), .val (.ref b106), .val (.ref b111), .val (.int (0 : Int32))] []))
      refine Go.st (fun t' k' => XS.aload X113.here hx rfl (hb hby at_66) rfl rfl k') ?_
      show Go p e below _ (T113.setTop (mkF m 68 #[.val (.int g), .val (.long q), .second, .val (.int fl), .val (.ref b101), .val (.ref b106), .val (.ref b111), .val (.int (0 : Int32))] [(.ref b111)]))
      obtain ⟨cq116, kq116, q116a, q116b, q116c⟩ := isOf hZ rfl A111_h114
      obtain ⟨_, _, ⟨T116, L116, k116, n116⟩, -, X116, ⟨Lc116, hQ116, l116, y116, z116⟩, st116⟩ := X113.virtualBack hx (y := (⟨"com/example/kertyma/kertyma/LoadCounts", "resumed", "()Z"⟩ : MethodName)) (z := (⟨"com/example/kertyma/kertyma/LoadCounts", "resumed", "()Z"⟩ : MethodName)) hown (mvT hZ (hw _ (List.mem_of_getElem? (i := 38) rfl))) (mvT hZ (hw _ (List.mem_of_getElem? (i := 39) rfl))) (notFace_of_selects (args := #[]) (mvT hZ (hw _ (List.mem_of_getElem? (i := 41) rfl)))) (mvT hZ (hw _ (List.mem_of_getElem? (i := 41) rfl))) (mvT hZ (hw _ (List.mem_of_getElem? (i := 40) rfl))) (by decide) (backOf (W := 0) (rmRes l Z a0 hw [] b111 g T113.heap O113 Pf_113) hZ (hw _ (List.mem_of_getElem? (i := 42) rfl)) (hw _ (List.mem_of_getElem? (i := 2) rfl)) (by decide) (by decide)) q116a q116c (g := (mkF m 68 #[.val (.int g), .val (.long q), .second, .val (.int fl), .val (.ref b101), .val (.ref b106), .val (.ref b111), .val (.int (0 : Int32))] [(.ref b111)])) rfl (by rw [hml]; rfl) (Steps.refl _) (argsL := []) (rest := []) (lenOf pd___Z rfl) rfl (by show 2 * 0 + _ ≤ _; exact Nat.le_of_eq rfl) (hb hby at_68) (fun _ _ => ⟨rfl, rfl, (by decide : 8 + 0 ≤ _), (by decide : 33 + 0 ≤ _)⟩)
      dsimp only [Pt.U, Pt.locs, Pt.cells, Pt.slots] at X116 l116 y116 z116 st116 hQ116
      subst l116 y116 z116
      obtain ⟨rfl, rfl, e116⟩ := hQ116
      have N116 := Fr.app N113 (Fr.nil _)
      refine Go.tr st116 ?_
      show Go p e below _ (T116.setTop (mkF m 71 #[.val (.int g), .val (.long q), .second, .val (.int fl), .val (.ref b101), .val (.ref b106), .val (.ref b111), .val (.int (0 : Int32))] [(.int (if g < 0 then (0 : Int32) else 1))]))
      refine Go.st (fun t' k' => XS.iload X116.here hx rfl (hb hby at_71) rfl k') ?_
      show Go p e below _ (T116.setTop (mkF m 73 #[.val (.int g), .val (.long q), .second, .val (.int fl), .val (.ref b101), .val (.ref b106), .val (.ref b111), .val (.int (0 : Int32))] [(.int (0 : Int32)), (.int (if g < 0 then (0 : Int32) else 1))]))
      refine Go.st (fun t' k' => XS.icmpNo X116.here hx rfl (hb hby at_73) rfl (teq (by simp [hc56_115])).2 k') ?_
      show Go p e below _ (T116.setTop (mkF m 76 #[.val (.int g), .val (.long q), .second, .val (.int fl), .val (.ref b101), .val (.ref b106), .val (.ref b111), .val (.int (0 : Int32))] []))
      refine Go.st (fun t' k' => XS.iconst X116.here hx rfl (hb hby at_76) k') ?_
      show Go p e below _ (T116.setTop (mkF m 77 #[.val (.int g), .val (.long q), .second, .val (.int fl), .val (.ref b101), .val (.ref b106), .val (.ref b111), .val (.int (0 : Int32))] [(.int (1 : Int32))]))
      refine Go.st (fun t' k' => XS.goto X116.here hx rfl (pc0 := 77) (pc' := 81) rfl (hb hby at_77) (by decide) (by decide) k') ?_
      show Go p e below _ (T116.setTop (mkF m 81 #[.val (.int g), .val (.long q), .second, .val (.int fl), .val (.ref b101), .val (.ref b106), .val (.ref b111), .val (.int (0 : Int32))] [(.int (1 : Int32))]))
      exact Go.outN X116 hx hlk (t := .boolean) hret (by simp) (hb hby at_81) (Q := Q_rm0 Z g q fl w_VALUES k_VALUES w_NEW w_CHANGED w_UNCHANGED w_CANCELLED w_DEF k_DEF h0) (by rw [e116]; exact ⟨rfl, N116⟩) (by decide) (by decide)
    · refine Go.st (fun t' k' => XS.ifNo X113.here hx rfl (hb hby at_56) rfl ((if0 _ _).trans (flt hc56_115).1) k') ?_
      show Go p e below _ (T113.setTop (mkF m 59 #[.val (.int g), .val (.long q), .second, .val (.int fl), .val (.ref b101), .val (.ref b106), .val (.ref b111), .unset] []))
      refine Go.st (fun t' k' => XS.iconst X113.here hx rfl (hb hby at_59) k') ?_
      show Go p e below _ (T113.setTop (mkF m 60 #[.val (.int g), .val (.long q), .second, .val (.int fl), .val (.ref b101), .val (.ref b106), .val (.ref b111), .unset] [(.int (1 : Int32))]))
      refine Go.st (fun t' k' => XS.goto X113.here hx rfl (pc0 := 60) (pc' := 64) rfl (hb hby at_60) (by decide) (by decide) k') ?_
      show Go p e below _ (T113.setTop (mkF m 64 #[.val (.int g), .val (.long q), .second, .val (.int fl), .val (.ref b101), .val (.ref b106), .val (.ref b111), .unset] [(.int (1 : Int32))]))
      refine Go.st (fun t' k' => XS.istore X113.here hx rfl (hb hby at_64) rfl (l' := #[.val (.int g), .val (.long q), .second, .val (.int fl), .val (.ref b101), .val (.ref b106), .val (.ref b111), .val (.int (1 : Int32))]) rfl k') ?_
      show Go p e below _ (T113.setTop (mkF m 66 #[.val (.int g), .val (.long q), .second, .val (.int fl), .val (.ref b101), .val (.ref b106), .val (.ref b111), .val (.int (1 : Int32))] []))
      refine Go.st (fun t' k' => XS.aload X113.here hx rfl (hb hby at_66) rfl rfl k') ?_
      show Go p e below _ (T113.setTop (mkF m 68 #[.val (.int g), .val (.long q), .second, .val (.int fl), .val (.ref b101), .val (.ref b106), .val (.ref b111), .val (.int (1 : Int32))] [(.ref b111)]))
      obtain ⟨cq117, kq117, q117a, q117b, q117c⟩ := isOf hZ rfl A111_h114
      obtain ⟨_, _, ⟨T117, L117, k117, n117⟩, -, X117, ⟨Lc117, hQ117, l117, y117, z117⟩, st117⟩ := X113.virtualBack hx (y := (⟨"com/example/kertyma/kertyma/LoadCounts", "resumed", "()Z"⟩ : MethodName)) (z := (⟨"com/example/kertyma/kertyma/LoadCounts", "resumed", "()Z"⟩ : MethodName)) hown (mvT hZ (hw _ (List.mem_of_getElem? (i := 38) rfl))) (mvT hZ (hw _ (List.mem_of_getElem? (i := 39) rfl))) (notFace_of_selects (args := #[]) (mvT hZ (hw _ (List.mem_of_getElem? (i := 41) rfl)))) (mvT hZ (hw _ (List.mem_of_getElem? (i := 41) rfl))) (mvT hZ (hw _ (List.mem_of_getElem? (i := 40) rfl))) (by decide) (backOf (W := 0) (rmRes l Z a0 hw [] b111 g T113.heap O113 Pf_113) hZ (hw _ (List.mem_of_getElem? (i := 42) rfl)) (hw _ (List.mem_of_getElem? (i := 2) rfl)) (by decide) (by decide)) q117a q117c (g := (mkF m 68 #[.val (.int g), .val (.long q), .second, .val (.int fl), .val (.ref b101), .val (.ref b106), .val (.ref b111), .val (.int (1 : Int32))] [(.ref b111)])) rfl (by rw [hml]; rfl) (Steps.refl _) (argsL := []) (rest := []) (lenOf pd___Z rfl) rfl (by show 2 * 0 + _ ≤ _; exact Nat.le_of_eq rfl) (hb hby at_68) (fun _ _ => ⟨rfl, rfl, (by decide : 8 + 0 ≤ _), (by decide : 33 + 0 ≤ _)⟩)
      dsimp only [Pt.U, Pt.locs, Pt.cells, Pt.slots] at X117 l117 y117 z117 st117 hQ117
      subst l117 y117 z117
      obtain ⟨rfl, rfl, e117⟩ := hQ117
      have N117 := Fr.app N113 (Fr.nil _)
      refine Go.tr st117 ?_
      show Go p e below _ (T117.setTop (mkF m 71 #[.val (.int g), .val (.long q), .second, .val (.int fl), .val (.ref b101), .val (.ref b106), .val (.ref b111), .val (.int (1 : Int32))] [(.int (if g < 0 then (0 : Int32) else 1))]))
      refine Go.st (fun t' k' => XS.iload X117.here hx rfl (hb hby at_71) rfl k') ?_
      show Go p e below _ (T117.setTop (mkF m 73 #[.val (.int g), .val (.long q), .second, .val (.int fl), .val (.ref b101), .val (.ref b106), .val (.ref b111), .val (.int (1 : Int32))] [(.int (1 : Int32)), (.int (if g < 0 then (0 : Int32) else 1))]))
      refine Go.st (fun t' k' => XS.icmpNo X117.here hx rfl (hb hby at_73) rfl (teq (by simp [hc56_115])).2 k') ?_
      show Go p e below _ (T117.setTop (mkF m 76 #[.val (.int g), .val (.long q), .second, .val (.int fl), .val (.ref b101), .val (.ref b106), .val (.ref b111), .val (.int (1 : Int32))] []))
      refine Go.st (fun t' k' => XS.iconst X117.here hx rfl (hb hby at_76) k') ?_
      show Go p e below _ (T117.setTop (mkF m 77 #[.val (.int g), .val (.long q), .second, .val (.int fl), .val (.ref b101), .val (.ref b106), .val (.ref b111), .val (.int (1 : Int32))] [(.int (1 : Int32))]))
      refine Go.st (fun t' k' => XS.goto X117.here hx rfl (pc0 := 77) (pc' := 81) rfl (hb hby at_77) (by decide) (by decide) k') ?_
      show Go p e below _ (T117.setTop (mkF m 81 #[.val (.int g), .val (.long q), .second, .val (.int fl), .val (.ref b101), .val (.ref b106), .val (.ref b111), .val (.int (1 : Int32))] [(.int (1 : Int32))]))
      exact Go.outN X117 hx hlk (t := .boolean) hret (by simp) (hb hby at_81) (Q := Q_rm0 Z g q fl w_VALUES k_VALUES w_NEW w_CHANGED w_UNCHANGED w_CANCELLED w_DEF k_DEF h0) (by rw [e117]; exact ⟨rfl, N117⟩) (by decide) (by decide)
  · refine Go.st (fun t' k' => XS.ifNo X108.here hx rfl (hb hby at_31) rfl ((if0 _ _).trans (feq hc31_110).1) k') ?_
    show Go p e below _ (T108.setTop (mkF m 34 #[.val (.int g), .val (.long q), .second, .val (.int fl), .val (.ref b101), .val (.ref b106), .unset, .unset] []))
    refine Go.st (fun t' k' => XS.aload X108.here hx rfl (hb hby at_34) rfl rfl k') ?_
    show Go p e below _ (T108.setTop (mkF m 36 #[.val (.int g), .val (.long q), .second, .val (.int fl), .val (.ref b101), .val (.ref b106), .unset, .unset] [(.ref b106)]))
    refine Go.st (fun t' k' => XS.aload X108.here hx rfl (hb hby at_36) rfl rfl k') ?_
    show Go p e below _ (T108.setTop (mkF m 38 #[.val (.int g), .val (.long q), .second, .val (.int fl), .val (.ref b101), .val (.ref b106), .unset, .unset] [(.ref b101), (.ref b106)]))
    obtain ⟨cq118, kq118, q118a, q118b, q118c⟩ := isOf hZ rfl A106_h109
    obtain ⟨_, _, ⟨T118, L118, k118, n118⟩, -, X118, ⟨Lc118, hQ118, l118, y118, z118⟩, st118⟩ := X108.virtualBack hx (y := (⟨"java/util/ArrayList", "add", "(Ljava/lang/Object;)Z"⟩ : MethodName)) (z := (⟨"java/util/ArrayList", "add", "(Ljava/lang/Object;)Z"⟩ : MethodName)) hown (mvT hZ (hw _ (List.mem_of_getElem? (i := 67) rfl))) (mvT hZ (hw _ (List.mem_of_getElem? (i := 68) rfl))) (notFace_of_selects (args := #[]) (mvT hZ (hw _ (List.mem_of_getElem? (i := 70) rfl)))) (mvT hZ (hw _ (List.mem_of_getElem? (i := 70) rfl))) (mvT hZ (hw _ (List.mem_of_getElem? (i := 69) rfl))) (by decide) (backOf (W := 0) (rmAdd1 l Z a0 hw [] b106 b101 w_DEF k_DEF T108.heap O108 S_DEF A_DEF A106_h109 g_b106 A101_h109 ne_b101_b106 Pe_108 Ps_108 Pm_108) hZ (hw _ (List.mem_of_getElem? (i := 71) rfl)) (hw _ (List.mem_of_getElem? (i := 45) rfl)) (by decide) (by decide)) q118a q118c (g := (mkF m 38 #[.val (.int g), .val (.long q), .second, .val (.int fl), .val (.ref b101), .val (.ref b106), .unset, .unset] [(.ref b101), (.ref b106)])) rfl (by rw [hml]; rfl) (Steps.refl _) (argsL := [(.ref b101)]) (rest := []) (lenOf pd__Ljava_lang_Object__Z rfl) rfl (by show 2 * 0 + _ ≤ _; exact Nat.le_of_eq rfl) (hb hby at_38) (fun _ _ => ⟨rfl, rfl, (by decide : 4 + 1 ≤ _), (by decide : 16 + 10 ≤ _)⟩)
    dsimp only [Pt.U, Pt.locs, Pt.cells, Pt.slots] at X118 l118 y118 z118 st118 hQ118
    subst l118 y118 z118
    obtain ⟨b_118, kb_118, rfl, N118q, O118, Kc118, Pe_118, Ps_118, Pm_118, Vb_118, Gb_118, Sb_118, Nab_118⟩ := hQ118
    have N118 := Fr.app N108 N118q
    refine Go.tr st118 ?_
    have A101_h119 := A101_h109.keep Kc118
    have Pc_103_h119 := Pc_103_h109.keep Kc118 (ninS ne_b101_b106 nin0)
    have Vb_103_h119 := Vb_103_h109.keep Kc118 (ninS ne_b_103_b106 nin0)
    have Pr_103_h119 := Pr_103_h109.keep Kc118 (ninS ne_b101_b106 nin0)
    have Pf_103_h119 := Pf_103_h109.keep Kc118 (ninS ne_b101_b106 nin0)
    have Ps_103_h119 := Ps_103_h109.keep Kc118 (ninS ne_b101_b106 nin0)
    have A106_h119 := A106_h109.keep Kc118
    have ne_w_VALUES_b_118 : w_VALUES ≠ b_118 := Nat.ne_of_lt (Nat.lt_of_lt_of_le (A_VALUES.ext O108).lt Sb_118)
    have ne_w_DEF_b_118 : w_DEF ≠ b_118 := Nat.ne_of_lt (Nat.lt_of_lt_of_le (A_DEF.ext O108).lt Sb_118)
    have ne_b101_b_118 : b101 ≠ b_118 := Nat.ne_of_lt (Nat.lt_of_lt_of_le A101_h109.lt Sb_118)
    have ne_b_103_b_118 : b_103 ≠ b_118 := Nat.ne_of_lt (Nat.lt_of_lt_of_le Vb_103_h109.lt Sb_118)
    show Go p e below _ (T118.setTop (mkF m 41 #[.val (.int g), .val (.long q), .second, .val (.int fl), .val (.ref b101), .val (.ref b106), .unset, .unset] [(.int (1 : Int32))]))
    refine Go.st (fun t' k' => XS.pop X118.here hx rfl (hb hby at_41) rfl rfl k') ?_
    show Go p e below _ (T118.setTop (mkF m 42 #[.val (.int g), .val (.long q), .second, .val (.int fl), .val (.ref b101), .val (.ref b106), .unset, .unset] []))
    obtain ⟨T120, h120, X120, e120, E120, A120, D120, -, st120⟩ := newO X118 hx hZ hown (hw _ (List.mem_of_getElem? (i := 0) rfl)) (hw _ (List.mem_of_getElem? (i := 1) rfl)) (hw _ (List.mem_of_getElem? (i := 2) rfl)) rfl (g := (mkF m 42 #[.val (.int g), .val (.long q), .second, .val (.int fl), .val (.ref b101), .val (.ref b106), .unset, .unset] [])) rfl (hb hby at_42) (by decide) (by decide)
    obtain ⟨b120, g120⟩ : ∃ z, z = T118.heap.size := ⟨_, rfl⟩
    rw [← g120] at A120 D120 st120
    refine Go.st st120 ?_
    have ne_w_VALUES_b120 : w_VALUES ≠ b120 := Nat.ne_of_lt (Nat.lt_of_lt_of_le (A_VALUES.ext O118).lt (Nat.le_of_eq g120.symm))
    have ne_w_DEF_b120 : w_DEF ≠ b120 := Nat.ne_of_lt (Nat.lt_of_lt_of_le (A_DEF.ext O118).lt (Nat.le_of_eq g120.symm))
    have ne_b101_b120 : b101 ≠ b120 := Nat.ne_of_lt (Nat.lt_of_lt_of_le A101_h119.lt (Nat.le_of_eq g120.symm))
    have ne_b_103_b120 : b_103 ≠ b120 := Nat.ne_of_lt (Nat.lt_of_lt_of_le Vb_103_h119.lt (Nat.le_of_eq g120.symm))
    have ne_b106_b120 : b106 ≠ b120 := Nat.ne_of_lt (Nat.lt_of_lt_of_le A106_h119.lt (Nat.le_of_eq g120.symm))
    have ne_b_118_b120 : b_118 ≠ b120 := Nat.ne_of_lt (Nat.lt_of_lt_of_le Vb_118.lt (Nat.le_of_eq g120.symm))
    have g_b120 : Z.heap.size ≤ b120 := Nat.le_trans O118.1 (Nat.le_of_eq g120.symm)
    have A101_h121 := A101_h119.ext E120
    have Pc_103_h121 := Pc_103_h119.ext E120
    have Vb_103_h121 := Vb_103_h119.ext E120
    have Pr_103_h121 := Pr_103_h119.ext E120
    have Pf_103_h121 := Pf_103_h119.ext E120
    have Ps_103_h121 := Ps_103_h119.ext E120
    have A106_h121 := A106_h119.ext E120
    have Pe_118_h121 := Pe_118.ext E120
    have Ps_118_h121 := Ps_118.ext E120
    have Pm_118_h121 := Pm_118.ext E120
    have Vb_118_h121 := Vb_118.ext E120
    have O120 := own_ext_trans O118 E120
    have F_counts_b120 : Fld Z h120 b120 "com/example/kertyma/kertyma/LoadCounts" "counts" "[J" .null := D120 (Or.inr (hw _ (List.mem_of_getElem? (i := 31) rfl))) (ty := (.array .long)) (by decide)
    have F_resumedAfter_b120 : Fld Z h120 b120 "com/example/kertyma/kertyma/LoadCounts" "resumedAfter" "J" (.long (0 : Int64)) := D120 (Or.inr (hw _ (List.mem_of_getElem? (i := 33) rfl))) (ty := .long) (by decide)
    have F_restartedAfter_b120 : Fld Z h120 b120 "com/example/kertyma/kertyma/LoadCounts" "restartedAfter" "J" (.long (0 : Int64)) := D120 (Or.inr (hw _ (List.mem_of_getElem? (i := 35) rfl))) (ty := .long) (by decide)
    have F_finishedPartitions_b120 : Fld Z h120 b120 "com/example/kertyma/kertyma/LoadCounts" "finishedPartitions" "I" (.int (0 : Int32)) := D120 (Or.inr (hw _ (List.mem_of_getElem? (i := 37) rfl))) (ty := .int) (by decide)
    have F_rejected_b120 : Fld Z h120 b120 "com/example/kertyma/kertyma/LoadCounts" "rejected" "J" (.long (0 : Int64)) := D120 (Or.inl (hw _ (List.mem_of_getElem? (i := 154) rfl))) (ty := .long) (by decide)
    show Go p e below _ (T120.setTop (mkF m 45 #[.val (.int g), .val (.long q), .second, .val (.int fl), .val (.ref b101), .val (.ref b106), .unset, .unset] [(.ref b120)]))
    refine Go.st (fun t' k' => XS.dup X120.here hx rfl (hb hby at_45) rfl rfl k') ?_
    show Go p e below _ (T120.setTop (mkF m 46 #[.val (.int g), .val (.long q), .second, .val (.int fl), .val (.ref b101), .val (.ref b106), .unset, .unset] [(.ref b120), (.ref b120)]))
    refine Go.st (fun t' k' => XS.aload X120.here hx rfl (hb hby at_46) rfl rfl k') ?_
    show Go p e below _ (T120.setTop (mkF m 48 #[.val (.int g), .val (.long q), .second, .val (.int fl), .val (.ref b101), .val (.ref b106), .unset, .unset] [(.ref b106), (.ref b120), (.ref b120)]))
    refine Go.st (fun t' k' => XS.lloadN X120.here hx rfl (hb hby at_48) rfl k') ?_
    show Go p e below _ (T120.setTop (mkF m 49 #[.val (.int g), .val (.long q), .second, .val (.int fl), .val (.ref b101), .val (.ref b106), .unset, .unset] [(.long q), (.ref b106), (.ref b120), (.ref b120)]))
    refine Go.st (fun t' k' => XS.iloadN X120.here hx rfl (hb hby at_49) rfl k') ?_
    show Go p e below _ (T120.setTop (mkF m 50 #[.val (.int g), .val (.long q), .second, .val (.int fl), .val (.ref b101), .val (.ref b106), .unset, .unset] [(.int g), (.long q), (.ref b106), (.ref b120), (.ref b120)]))
    obtain ⟨_, _, ⟨T122, L122, k122, n122⟩, -, X122, ⟨Lc122, hQ122, l122, y122, z122⟩, st122⟩ := X120.specialBack hx (y := (⟨"com/example/kertyma/kertyma/LoadCounts", "<init>", "(Ljava/util/List;JI)V"⟩ : MethodName)) rfl hown (mvT hZ (hw _ (List.mem_of_getElem? (i := 98) rfl))) (mvT hZ (hw _ (List.mem_of_getElem? (i := 99) rfl))) (mvT hZ (hw _ (List.mem_of_getElem? (i := 100) rfl))) (by decide) (backOf (W := 1) (rmLC1 l Z a0 hw [] b120 b106 q g w_VALUES k_VALUES w_NEW w_CHANGED w_UNCHANGED w_CANCELLED ((1 : Int32)) b101 b_118 kb_118 b_103 kb_103 ((0 : Int64)) ((0 : Int64)) ((0 : Int64)) ((0 : Int64)) ((0 : Int64)) ((0 : Int64)) h120 O120 S_VALUES A_VALUES E_VALUES A120 g_b120 F_counts_b120 F_rejected_b120 F_resumedAfter_b120 F_restartedAfter_b120 F_finishedPartitions_b120 A106_h121 ne_b106_b120 Pm_118_h121 Ps_118_h121 Pe_118_h121 Vb_118_h121 A101_h121 Pc_103_h121 Pr_103_h121 Ps_103_h121 Vb_103_h121 ne_b101_b120 ne_b_118_b120 ne_b_103_b120) hZ (hw _ (List.mem_of_getElem? (i := 100) rfl)) (hw _ (List.mem_of_getElem? (i := 2) rfl)) (by decide) (by decide)) (g := (mkF m 50 #[.val (.int g), .val (.long q), .second, .val (.int fl), .val (.ref b101), .val (.ref b106), .unset, .unset] [(.int g), (.long q), (.ref b106), (.ref b120), (.ref b120)])) rfl (by rw [hml]; rfl) (Steps.refl _) (a := b120) (argsL := [(.ref b106), (.long q), (.int g)]) (rest := [(.ref b120)]) (lenOf pd__Ljava_util_List_JI_V rfl) rfl (by show 2 * 0 + _ ≤ _; exact Nat.le_of_eq rfl) (hb hby at_50) (fun _ _ => ⟨rfl, e120, (by decide : 6 + 3 ≤ _), (by decide : 31 + 12 ≤ _)⟩)
    dsimp only [Pt.U, Pt.locs, Pt.cells, Pt.slots] at X122 l122 y122 z122 st122 hQ122
    subst l122 y122 z122
    obtain ⟨rfl, N122q, O122, Kc122, Pf_122⟩ := hQ122
    have N122 := Fr.app N118 N122q
    refine Go.tr st122 ?_
    have A101_h123 := A101_h121.keep Kc122
    have Pc_103_h123 := Pc_103_h121.keep Kc122 (ninS ne_b101_b120 nin0)
    have Vb_103_h123 := Vb_103_h121.keep Kc122 (ninS ne_b_103_b120 nin0)
    have Pr_103_h123 := Pr_103_h121.keep Kc122 (ninS ne_b101_b120 nin0)
    have Pf_103_h123 := Pf_103_h121.keep Kc122 (ninS ne_b101_b120 nin0)
    have Ps_103_h123 := Ps_103_h121.keep Kc122 (ninS ne_b101_b120 nin0)
    have A106_h123 := A106_h121.keep Kc122
    have Pe_118_h123 := Pe_118_h121.keep Kc122 (ninS ne_b106_b120 nin0)
    have Ps_118_h123 := Ps_118_h121.keep Kc122 (ninS ne_b106_b120 nin0)
    have Pm_118_h123 := Pm_118_h121.keep Kc122 (ninS ne_b106_b120 nin0)
    have Vb_118_h123 := Vb_118_h121.keep Kc122 (ninS ne_b_118_b120 nin0)
    have A120_h123 := A120.keep Kc122
    show Go p e below _ (T122.setTop (mkF m 53 #[.val (.int g), .val (.long q), .second, .val (.int fl), .val (.ref b101), .val (.ref b106), .unset, .unset] [(.ref b120)]))
    refine Go.st (fun t' k' => XS.astore X122.here hx rfl (hb hby at_53) rfl rfl (l' := #[.val (.int g), .val (.long q), .second, .val (.int fl), .val (.ref b101), .val (.ref b106), .val (.ref b120), .unset]) rfl k') ?_
    show Go p e below _ (T122.setTop (mkF m 55 #[.val (.int g), .val (.long q), .second, .val (.int fl), .val (.ref b101), .val (.ref b106), .val (.ref b120), .unset] []))
    refine Go.st (fun t' k' => XS.iloadN X122.here hx rfl (hb hby at_55) rfl k') ?_
    show Go p e below _ (T122.setTop (mkF m 56 #[.val (.int g), .val (.long q), .second, .val (.int fl), .val (.ref b101), .val (.ref b106), .val (.ref b120), .unset] [(.int g)]))
    by_cases hc56_124 : g < (0 : Int32)
    · refine Go.st (fun t' k' => XS.ifYes X122.here hx rfl (pc0 := 56) (pc' := 63) rfl (hb hby at_56) rfl ((if0 _ _).trans (tlt hc56_124).1) (by decide) (by decide) k') ?_
      show Go p e below _ (T122.setTop (mkF m 63 #[.val (.int g), .val (.long q), .second, .val (.int fl), .val (.ref b101), .val (.ref b106), .val (.ref b120), .unset] []))
      refine Go.st (fun t' k' => XS.iconst X122.here hx rfl (hb hby at_63) k') ?_
      show Go p e below _ (T122.setTop (mkF m 64 #[.val (.int g), .val (.long q), .second, .val (.int fl), .val (.ref b101), .val (.ref b106), .val (.ref b120), .unset] [(.int (0 : Int32))]))
      refine Go.st (fun t' k' => XS.istore X122.here hx rfl (hb hby at_64) rfl (l' := #[.val (.int g), .val (.long q), .second, .val (.int fl), .val (.ref b101), .val (.ref b106), .val (.ref b120), .val (.int (0 : Int32))]) rfl k') ?_
      show Go p e below _ (T122.setTop (mkF m 66 #[.val (.int g), .val (.long q), .second, .val (.int fl), .val (.ref b101), .val (.ref b106), .val (.ref b120), .val (.int (0 : Int32))] []))
      refine Go.st (fun t' k' => XS.aload X122.here hx rfl (hb hby at_66) rfl rfl k') ?_
      show Go p e below _ (T122.setTop (mkF m 68 #[.val (.int g), .val (.long q), .second, .val (.int fl), .val (.ref b101), .val (.ref b106), .val (.ref b120), .val (.int (0 : Int32))] [(.ref b120)]))
      obtain ⟨cq125, kq125, q125a, q125b, q125c⟩ := isOf hZ rfl A120_h123
      obtain ⟨_, _, ⟨T125, L125, k125, n125⟩, -, X125, ⟨Lc125, hQ125, l125, y125, z125⟩, st125⟩ := X122.virtualBack hx (y := (⟨"com/example/kertyma/kertyma/LoadCounts", "resumed", "()Z"⟩ : MethodName)) (z := (⟨"com/example/kertyma/kertyma/LoadCounts", "resumed", "()Z"⟩ : MethodName)) hown (mvT hZ (hw _ (List.mem_of_getElem? (i := 38) rfl))) (mvT hZ (hw _ (List.mem_of_getElem? (i := 39) rfl))) (notFace_of_selects (args := #[]) (mvT hZ (hw _ (List.mem_of_getElem? (i := 41) rfl)))) (mvT hZ (hw _ (List.mem_of_getElem? (i := 41) rfl))) (mvT hZ (hw _ (List.mem_of_getElem? (i := 40) rfl))) (by decide) (backOf (W := 0) (rmRes l Z a0 hw [] b120 g T122.heap O122 Pf_122) hZ (hw _ (List.mem_of_getElem? (i := 42) rfl)) (hw _ (List.mem_of_getElem? (i := 2) rfl)) (by decide) (by decide)) q125a q125c (g := (mkF m 68 #[.val (.int g), .val (.long q), .second, .val (.int fl), .val (.ref b101), .val (.ref b106), .val (.ref b120), .val (.int (0 : Int32))] [(.ref b120)])) rfl (by rw [hml]; rfl) (Steps.refl _) (argsL := []) (rest := []) (lenOf pd___Z rfl) rfl (by show 2 * 0 + _ ≤ _; exact Nat.le_of_eq rfl) (hb hby at_68) (fun _ _ => ⟨rfl, rfl, (by decide : 9 + 0 ≤ _), (by decide : 43 + 0 ≤ _)⟩)
      dsimp only [Pt.U, Pt.locs, Pt.cells, Pt.slots] at X125 l125 y125 z125 st125 hQ125
      subst l125 y125 z125
      obtain ⟨rfl, rfl, e125⟩ := hQ125
      have N125 := Fr.app N122 (Fr.nil _)
      refine Go.tr st125 ?_
      show Go p e below _ (T125.setTop (mkF m 71 #[.val (.int g), .val (.long q), .second, .val (.int fl), .val (.ref b101), .val (.ref b106), .val (.ref b120), .val (.int (0 : Int32))] [(.int (if g < 0 then (0 : Int32) else 1))]))
      refine Go.st (fun t' k' => XS.iload X125.here hx rfl (hb hby at_71) rfl k') ?_
      show Go p e below _ (T125.setTop (mkF m 73 #[.val (.int g), .val (.long q), .second, .val (.int fl), .val (.ref b101), .val (.ref b106), .val (.ref b120), .val (.int (0 : Int32))] [(.int (0 : Int32)), (.int (if g < 0 then (0 : Int32) else 1))]))
      refine Go.st (fun t' k' => XS.icmpNo X125.here hx rfl (hb hby at_73) rfl (teq (by simp [hc56_124])).2 k') ?_
      show Go p e below _ (T125.setTop (mkF m 76 #[.val (.int g), .val (.long q), .second, .val (.int fl), .val (.ref b101), .val (.ref b106), .val (.ref b120), .val (.int (0 : Int32))] []))
      refine Go.st (fun t' k' => XS.iconst X125.here hx rfl (hb hby at_76) k') ?_
      show Go p e below _ (T125.setTop (mkF m 77 #[.val (.int g), .val (.long q), .second, .val (.int fl), .val (.ref b101), .val (.ref b106), .val (.ref b120), .val (.int (0 : Int32))] [(.int (1 : Int32))]))
      refine Go.st (fun t' k' => XS.goto X125.here hx rfl (pc0 := 77) (pc' := 81) rfl (hb hby at_77) (by decide) (by decide) k') ?_
      show Go p e below _ (T125.setTop (mkF m 81 #[.val (.int g), .val (.long q), .second, .val (.int fl), .val (.ref b101), .val (.ref b106), .val (.ref b120), .val (.int (0 : Int32))] [(.int (1 : Int32))]))
      exact Go.outN X125 hx hlk (t := .boolean) hret (by simp) (hb hby at_81) (Q := Q_rm0 Z g q fl w_VALUES k_VALUES w_NEW w_CHANGED w_UNCHANGED w_CANCELLED w_DEF k_DEF h0) (by rw [e125]; exact ⟨rfl, N125⟩) (by decide) (by decide)
    · refine Go.st (fun t' k' => XS.ifNo X122.here hx rfl (hb hby at_56) rfl ((if0 _ _).trans (flt hc56_124).1) k') ?_
      show Go p e below _ (T122.setTop (mkF m 59 #[.val (.int g), .val (.long q), .second, .val (.int fl), .val (.ref b101), .val (.ref b106), .val (.ref b120), .unset] []))
      refine Go.st (fun t' k' => XS.iconst X122.here hx rfl (hb hby at_59) k') ?_
      show Go p e below _ (T122.setTop (mkF m 60 #[.val (.int g), .val (.long q), .second, .val (.int fl), .val (.ref b101), .val (.ref b106), .val (.ref b120), .unset] [(.int (1 : Int32))]))
      refine Go.st (fun t' k' => XS.goto X122.here hx rfl (pc0 := 60) (pc' := 64) rfl (hb hby at_60) (by decide) (by decide) k') ?_
      show Go p e below _ (T122.setTop (mkF m 64 #[.val (.int g), .val (.long q), .second, .val (.int fl), .val (.ref b101), .val (.ref b106), .val (.ref b120), .unset] [(.int (1 : Int32))]))
      refine Go.st (fun t' k' => XS.istore X122.here hx rfl (hb hby at_64) rfl (l' := #[.val (.int g), .val (.long q), .second, .val (.int fl), .val (.ref b101), .val (.ref b106), .val (.ref b120), .val (.int (1 : Int32))]) rfl k') ?_
      show Go p e below _ (T122.setTop (mkF m 66 #[.val (.int g), .val (.long q), .second, .val (.int fl), .val (.ref b101), .val (.ref b106), .val (.ref b120), .val (.int (1 : Int32))] []))
      refine Go.st (fun t' k' => XS.aload X122.here hx rfl (hb hby at_66) rfl rfl k') ?_
      show Go p e below _ (T122.setTop (mkF m 68 #[.val (.int g), .val (.long q), .second, .val (.int fl), .val (.ref b101), .val (.ref b106), .val (.ref b120), .val (.int (1 : Int32))] [(.ref b120)]))
      obtain ⟨cq126, kq126, q126a, q126b, q126c⟩ := isOf hZ rfl A120_h123
      obtain ⟨_, _, ⟨T126, L126, k126, n126⟩, -, X126, ⟨Lc126, hQ126, l126, y126, z126⟩, st126⟩ := X122.virtualBack hx (y := (⟨"com/example/kertyma/kertyma/LoadCounts", "resumed", "()Z"⟩ : MethodName)) (z := (⟨"com/example/kertyma/kertyma/LoadCounts", "resumed", "()Z"⟩ : MethodName)) hown (mvT hZ (hw _ (List.mem_of_getElem? (i := 38) rfl))) (mvT hZ (hw _ (List.mem_of_getElem? (i := 39) rfl))) (notFace_of_selects (args := #[]) (mvT hZ (hw _ (List.mem_of_getElem? (i := 41) rfl)))) (mvT hZ (hw _ (List.mem_of_getElem? (i := 41) rfl))) (mvT hZ (hw _ (List.mem_of_getElem? (i := 40) rfl))) (by decide) (backOf (W := 0) (rmRes l Z a0 hw [] b120 g T122.heap O122 Pf_122) hZ (hw _ (List.mem_of_getElem? (i := 42) rfl)) (hw _ (List.mem_of_getElem? (i := 2) rfl)) (by decide) (by decide)) q126a q126c (g := (mkF m 68 #[.val (.int g), .val (.long q), .second, .val (.int fl), .val (.ref b101), .val (.ref b106), .val (.ref b120), .val (.int (1 : Int32))] [(.ref b120)])) rfl (by rw [hml]; rfl) (Steps.refl _) (argsL := []) (rest := []) (lenOf pd___Z rfl) rfl (by show 2 * 0 + _ ≤ _; exact Nat.le_of_eq rfl) (hb hby at_68) (fun _ _ => ⟨rfl, rfl, (by decide : 9 + 0 ≤ _), (by decide : 43 + 0 ≤ _)⟩)
      dsimp only [Pt.U, Pt.locs, Pt.cells, Pt.slots] at X126 l126 y126 z126 st126 hQ126
      subst l126 y126 z126
      obtain ⟨rfl, rfl, e126⟩ := hQ126
      have N126 := Fr.app N122 (Fr.nil _)
      refine Go.tr st126 ?_
      show Go p e below _ (T126.setTop (mkF m 71 #[.val (.int g), .val (.long q), .second, .val (.int fl), .val (.ref b101), .val (.ref b106), .val (.ref b120), .val (.int (1 : Int32))] [(.int (if g < 0 then (0 : Int32) else 1))]))
      refine Go.st (fun t' k' => XS.iload X126.here hx rfl (hb hby at_71) rfl k') ?_
      show Go p e below _ (T126.setTop (mkF m 73 #[.val (.int g), .val (.long q), .second, .val (.int fl), .val (.ref b101), .val (.ref b106), .val (.ref b120), .val (.int (1 : Int32))] [(.int (1 : Int32)), (.int (if g < 0 then (0 : Int32) else 1))]))
      refine Go.st (fun t' k' => XS.icmpNo X126.here hx rfl (hb hby at_73) rfl (teq (by simp [hc56_124])).2 k') ?_
      show Go p e below _ (T126.setTop (mkF m 76 #[.val (.int g), .val (.long q), .second, .val (.int fl), .val (.ref b101), .val (.ref b106), .val (.ref b120), .val (.int (1 : Int32))] []))
      refine Go.st (fun t' k' => XS.iconst X126.here hx rfl (hb hby at_76) k') ?_
      show Go p e below _ (T126.setTop (mkF m 77 #[.val (.int g), .val (.long q), .second, .val (.int fl), .val (.ref b101), .val (.ref b106), .val (.ref b120), .val (.int (1 : Int32))] [(.int (1 : Int32))]))
      refine Go.st (fun t' k' => XS.goto X126.here hx rfl (pc0 := 77) (pc' := 81) rfl (hb hby at_77) (by decide) (by decide) k') ?_
      show Go p e below _ (T126.setTop (mkF m 81 #[.val (.int g), .val (.long q), .second, .val (.int fl), .val (.ref b101), .val (.ref b106), .val (.ref b120), .val (.int (1 : Int32))] [(.int (1 : Int32))]))
      exact Go.outN X126 hx hlk (t := .boolean) hret (by simp) (hb hby at_81) (Q := Q_rm0 Z g q fl w_VALUES k_VALUES w_NEW w_CHANGED w_UNCHANGED w_CANCELLED w_DEF k_DEF h0) (by rw [e126]; exact ⟨rfl, N126⟩) (by decide) (by decide)
set_option maxRecDepth 65536 in
set_option maxHeartbeats 40000000 in
theorem comes_1 {Post : Tables → Env → Array Value → State → Outcome → State → Prop} (hpost : ∀ tb e args s v u, (limb_1_1.after args s (.returned v) u = true ∧ limb_1_2.after args s (.returned v) u = true ∧ True) → FrameEnd s (.returned v) u (Jvm.fieldLocs frame_1_writes args s ++ Jvm.arrayLocs frame_1_arrays args s ++ Jvm.staticLocs frame_1_statics s) 32 192 → Post tb e args s (.returned v) u) :
    ArmFor flags0 classFile x code maxLocals ret World_1 tables_1 room_1 Calls_1 rest_1 Pre_1 Post := by
  intro l hfl _ _ p e ha hc hk s m args below hf hA hF happ hP
  obtain ⟨hcalls, hrest, hpre⟩ := hP
  obtain ⟨-, -, -, hnamed, -, -, -, hat⟩ := (Spec.applies_iff hf).mp happ
  obtain ⟨hg, hn⟩ := and_e (Cond.before_iff.mp (show (Jvm.Cond.and given_1 narrow_1).before args s = true from hpre))
  obtain ⟨c1, c2⟩ := and_e hg
  obtain ⟨c3, c4⟩ := and_e c2
  obtain ⟨c5, c6⟩ := and_e c4
  obtain ⟨w0, w1, w2, rfl⟩ : ∃ w0 w1 w2 : Value, args = #[w0, w1, w2] := by
    have hs : args.size = 3 := by simpa [Cond.value, given_1] using c1
    obtain ⟨L⟩ := args
    match L, hs with
    | [w0, w1, w2], _ => exact ⟨w0, w1, w2, rfl⟩
  have hw := fun d (hd : d ∈ tables_1) => atoms_spec (ws := Jvm.Cond.code x code maxLocals ret :: tables_1) hat d (List.mem_cons_of_mem _ hd)
  have hfit : Fit s := fun {y c} hc i hi => by
    obtain ⟨ha, rfl⟩ := Array.getElem?_eq_some_iff.mp hc
    have q := List.all_eq_true.mp ((Array.all_eq_true_iff_forall_mem.mp hF) _ (Array.getElem_mem ha)) i (List.mem_range.mpr hi)
    simpa [Array.getElem?_eq_getElem hi] using q
  obtain ⟨i0, ei0⟩ := is_v c3
  obtain rfl : w0 = (.int i0) := Option.some.inj ei0
  obtain ⟨i1, ei1⟩ := isL_v c5
  obtain rfl : w1 = (.long i1) := Option.some.inj ei1
  obtain ⟨i2, ei2⟩ := is_v c6
  obtain rfl : w2 = (.int i2) := Option.some.inj ei2
  obtain ⟨c7, c8⟩ := and_e hn
  obtain ⟨c9, c10⟩ := and_e c8
  obtain ⟨c11, c12⟩ := and_e c10
  obtain ⟨c13, c14⟩ := and_e c12
  obtain ⟨c15, c16⟩ := and_e c14
  obtain ⟨c17, c18⟩ := and_e c16
  obtain ⟨c19, c20⟩ := and_e c18
  obtain ⟨c21, c22⟩ := and_e c20
  obtain ⟨c23, c24⟩ := and_e c22
  obtain ⟨c25, c26⟩ := and_e c24
  obtain ⟨hsets, hown0⟩ := atoms_of _ (rest_1_c_eq ▸ (show rest_1_c.before _ s = true from hrest))
  have hr0 := Cond.before_iff.mp hown0
  obtain ⟨w__VALUES, ev__VALUES⟩ := exa_v c9
  have S__VALUES := Sta.start ev__VALUES (Or.inr ⟨(hw _ (List.mem_of_getElem? (i := 11) rfl)), (hw _ (List.mem_of_getElem? (i := 14) rfl))⟩)
  have E__VALUES := Exa.start ev__VALUES c9
  obtain ⟨w_NEW, ev_NEW⟩ := exa_v c13
  have S_NEW := Sta.start ev_NEW (Or.inr ⟨(hw _ (List.mem_of_getElem? (i := 11) rfl)), (hw _ (List.mem_of_getElem? (i := 22) rfl))⟩)
  have E_NEW := Exa.start ev_NEW c13
  obtain ⟨w_CHANGED, ev_CHANGED⟩ := exa_v c17
  have S_CHANGED := Sta.start ev_CHANGED (Or.inr ⟨(hw _ (List.mem_of_getElem? (i := 11) rfl)), (hw _ (List.mem_of_getElem? (i := 23) rfl))⟩)
  have E_CHANGED := Exa.start ev_CHANGED c17
  obtain ⟨w_UNCHANGED, ev_UNCHANGED⟩ := exa_v c21
  have S_UNCHANGED := Sta.start ev_UNCHANGED (Or.inr ⟨(hw _ (List.mem_of_getElem? (i := 11) rfl)), (hw _ (List.mem_of_getElem? (i := 24) rfl))⟩)
  have E_UNCHANGED := Exa.start ev_UNCHANGED c21
  obtain ⟨w_CANCELLED, ev_CANCELLED⟩ := exa_v c25
  have S_CANCELLED := Sta.start ev_CANCELLED (Or.inr ⟨(hw _ (List.mem_of_getElem? (i := 11) rfl)), (hw _ (List.mem_of_getElem? (i := 25) rfl))⟩)
  have E_CANCELLED := Exa.start ev_CANCELLED c25
  obtain ⟨w_EMPTY_ELEMENTDATA, ev_EMPTY_ELEMENTDATA⟩ := exa_v (Cond.before_iff.mp (hsets _ (List.mem_of_getElem? (i := 4) rfl)))
  have S_EMPTY_ELEMENTDATA := Sta.start ev_EMPTY_ELEMENTDATA (Or.inr ⟨(hw _ (List.mem_of_getElem? (i := 45) rfl)), hsets _ (List.mem_of_getElem? (i := 0) rfl)⟩)
  have E_EMPTY_ELEMENTDATA := Exa.start ev_EMPTY_ELEMENTDATA (Cond.before_iff.mp (hsets _ (List.mem_of_getElem? (i := 4) rfl)))
  obtain ⟨w_DEFAULTCAPACITY_EMPTY_ELEMENTDATA, ev_DEFAULTCAPACITY_EMPTY_ELEMENTDATA⟩ := exa_v (Cond.before_iff.mp (hsets _ (List.mem_of_getElem? (i := 7) rfl)))
  have S_DEFAULTCAPACITY_EMPTY_ELEMENTDATA := Sta.start ev_DEFAULTCAPACITY_EMPTY_ELEMENTDATA (Or.inr ⟨(hw _ (List.mem_of_getElem? (i := 45) rfl)), hsets _ (List.mem_of_getElem? (i := 2) rfl)⟩)
  have E_DEFAULTCAPACITY_EMPTY_ELEMENTDATA := Exa.start ev_DEFAULTCAPACITY_EMPTY_ELEMENTDATA (Cond.before_iff.mp (hsets _ (List.mem_of_getElem? (i := 7) rfl)))
  obtain ⟨cl_V, Ar_V⟩ := Arr.start ev__VALUES c7
  obtain ⟨lt_V, len_V⟩ := own_len ev__VALUES Ar_V c11
  have el_0 := own_elem ev__VALUES Ar_V ev_NEW c15
  have el_1 := own_elem ev__VALUES Ar_V ev_CHANGED c19
  have el_2 := own_elem ev__VALUES Ar_V ev_UNCHANGED c23
  have el_3 := own_elem ev__VALUES Ar_V ev_CANCELLED c26
  have A_VALUES : Arv s s.heap w__VALUES cl_V.cls (.object "com/example/kertyma/kertyma/RowOutcome") 4 [(.ref w_NEW), (.ref w_CHANGED), (.ref w_UNCHANGED), (.ref w_CANCELLED)] .null := Arv.start hfit Ar_V lt_V len_V (by decide) rfl ⟨el_0, el_1, el_2, el_3, trivial⟩
  obtain ⟨cl_D, Ar_D⟩ := Arr.start ev_DEFAULTCAPACITY_EMPTY_ELEMENTDATA (Cond.before_iff.mp (hsets _ (List.mem_of_getElem? (i := 6) rfl)))
  obtain ⟨lt_D, len_D⟩ := own_len ev_DEFAULTCAPACITY_EMPTY_ELEMENTDATA Ar_D (Cond.before_iff.mp (hsets _ (List.mem_of_getElem? (i := 8) rfl)))
  have A_DEF : Arv s s.heap w_DEFAULTCAPACITY_EMPTY_ELEMENTDATA cl_D.cls (.object "java/lang/Object") 0 [] .null := Arv.start hfit Ar_D lt_D len_D (by decide) rfl trivial
  obtain ⟨n, o, h1, h2, h3, _, L, rfl, ⟨rfl, N⟩, hq⟩ := rm0 l s _ hw tables_1 i0 i1 i2 w__VALUES cl_V.cls w_NEW w_CHANGED w_UNCHANGED w_CANCELLED w_DEFAULTCAPACITY_EMPTY_ELEMENTDATA cl_D.cls s.heap (own_ext_refl _) S__VALUES A_VALUES E__VALUES S_DEFAULTCAPACITY_EMPTY_ELEMENTDATA A_DEF p e ha hc hk s m _ below hf ((Spec.applies_iff_loose hf).mp happ).1 ⟨rfl, State.Warmed39.refl s, rfl⟩ trivial
  refine ⟨n, _, h1, h2, h3, hpost _ _ _ _ _ _ ⟨Cond.after_iff.mpr rfl, Cond.after_iff.mpr (eq_i res_at (Term.int_eval (1)) rfl), trivial⟩ ⟨hq.1, hq.2.1, (hq.2.2.sift fun y hy => Or.inr (N y hy)).mono (by decide) (by decide)⟩⟩
theorem main_1_1 : Claimed_1_1 := comes_1 fun _ _ _ _ _ _ h hF => ⟨h.1, hF⟩
theorem main_1_2 : Claimed_1_2 := comes_1 fun _ _ _ _ _ _ h hF => ⟨h.2.1, hF⟩
end Jvm.Pilot.@@N@@
namespace Jvm.Pilot.@@N@@
open Jvm Jvm.ClassFile Sem Op Lib Jvm.Free Jvm.Stand Jvm.Pilot.@@N@@.Jvm.D
/-! MADE BY PROGRAM (witnessworld.py) out of the Statement's table words and the real class files: 28 classes; the members and pool entries that the words name. The judged class is class 1, her method 1. -/
namespace start1
open Jvm.ClassFile
def u (s : String) : CpInfo := .utf8 (stringToUtf16 s)
/-- a pool by its gaps: so many unusable entries, then the entry; so many at the end -/
def gap : Nat → List CpInfo → List CpInfo
  | 0, r => r
  | n + 1, r => .unusable :: gap n r
def poolList (es : List (Nat × CpInfo)) (last : Nat) : List CpInfo := es.foldr (fun e r => gap e.1 (e.2 :: r)) (gap last [])
def pool (es : List (Nat × CpInfo)) (last : Nat) : Array CpInfo := ⟨poolList es last⟩
def fileOf (pool : Array CpInfo) (this : Nat) (attrs : Array Attribute := #[]) (ms : Array MethodInfo := #[]) (fl : Nat := 33) (sup : Nat := 0) (ifs : Array Nat := #[]) (fds : Array FieldInfo := #[]) : ClassFile where
  minorVersion := 0
  majorVersion := 65
  constantPool := pool
  accessFlags := fl
  thisClass := this
  superClass := sup
  interfaces := ifs
  fields := fds
  methods := ms
  attributes := attrs
def plain (name : String) (sup : Option ClassId) : Class where
  name := name
  kind := .ordinary
  loader := none
  accessFlags := 33
  super := sup
  interfaces := #[]
  cf := none
  fields := #[]
  methods := #[]
  instanceTypes := #[]
  staticTypes := #[]
  resolved := #[]
  callSites := []
  init := .initialized
  statics := none
  mirror := none

def pool0 : Array CpInfo := pool [(5, u "<init>"), (0, u "()V"), (1, .class_ 10), (1, u "java/lang/Object"), (85, u "clone"), (0, u "()Ljava/lang/Object;")] 26

def k0c0 : Code := { maxStack := 0, maxLocals := 1, code := object_method_1_code, exceptionTable := #[], attributes := #[] }
def k0m0 : Method := { name := "<init>", desc := "()V", sig := { parameters := [], returnType := none }, accessFlags := 1, code := some k0c0 }
def k0m1 : Method := { name := "clone", desc := "()Ljava/lang/Object;", sig := { parameters := [], returnType := some (.object "java/lang/Object") }, accessFlags := 260, code := none }
/-- java/lang/Object -/
def k0 : Class := { plain "java/lang/Object" none with
  accessFlags := 33
  interfaces := #[]
  cf := some (fileOf pool0 8 #[] #[{ accessFlags := 1, nameIndex := 5, descriptorIndex := 6, attributes := #[] }, { accessFlags := 260, nameIndex := 96, descriptorIndex := 97, attributes := #[] }] 33 0 #[] #[])
  fields := #[]
  methods := #[k0m0, k0m1]
  instanceTypes := #[]
  staticTypes := #[]
  resolved := Array.replicate 124 none
  statics := none }

def pool1 : Array CpInfo := pool [(2, .class_ 4), (0, .nameAndType 5 6), (0, u "java/lang/Object"), (0, u "<init>"), (0, u "()V"), (0, .class_ 8), (0, u "com/example/kertyma/kertyma/LoadCounts"), (0, .methodref 7 3), (0, .methodref 7 11), (0, .nameAndType 12 13), (0, u "resumed"), (0, u "()Z"), (0, .class_ 15), (0, u "java/util/ArrayList"), (0, .methodref 14 3), (0, .methodref 14 18), (0, .nameAndType 19 20), (0, u "add"), (0, u "(Ljava/lang/Object;)Z"), (0, .methodref 7 22), (0, .nameAndType 5 23), (0, u "(Ljava/util/List;JI)V"), (0, .class_ 25), (0, u "com/example/kertyma/kertyma/LoadCountsResumedPinLaw"), (2, u "law"), (0, u "(IJI)Z")] 3

def k1m0 : Method := { name := "<init>", desc := "()V", sig := { parameters := [], returnType := none }, accessFlags := 1, code := none }
def k1c1 : Code := { maxStack := 6, maxLocals := 8, code := code, exceptionTable := #[], attributes := #[] }
def k1m1 : Method := { name := "law", desc := "(IJI)Z", sig := { parameters := [.int, .long, .int], returnType := some .boolean }, accessFlags := 9, code := some k1c1 }
/-- com/example/kertyma/kertyma/LoadCountsResumedPinLaw -/
def k1 : Class := { plain "com/example/kertyma/kertyma/LoadCountsResumedPinLaw" (some 0) with
  accessFlags := 49
  interfaces := #[]
  cf := some (fileOf pool1 24 #[] #[{ accessFlags := 1, nameIndex := 5, descriptorIndex := 6, attributes := #[] }, { accessFlags := 9, nameIndex := 28, descriptorIndex := 29, attributes := #[] }] 49 2 #[] #[])
  fields := #[]
  methods := #[k1m0, k1m1]
  instanceTypes := #[]
  staticTypes := #[]
  resolved := Array.replicate 33 none
  statics := none }

def pool2 : Array CpInfo := pool [(1, .methodref 2 3), (0, .class_ 4), (0, .nameAndType 5 6), (0, u "java/lang/Object"), (0, u "<init>"), (0, u "()V"), (0, .methodref 8 9), (0, .class_ 10), (0, .nameAndType 11 12), (0, u "com/example/kertyma/kertyma/RowOutcome"), (0, u "values"), (0, u "()[Lcom/example/kertyma/kertyma/RowOutcome;"), (0, .fieldref 14 15), (0, .class_ 16), (0, .nameAndType 17 18), (0, u "com/example/kertyma/kertyma/LoadCounts"), (0, u "counts"), (0, u "[J"), (0, .fieldref 14 20), (0, .nameAndType 21 22), (0, u "resumedAfter"), (0, u "J"), (0, .fieldref 14 24), (0, .nameAndType 25 22), (0, u "restartedAfter"), (0, .fieldref 14 27), (0, .nameAndType 28 29), (0, u "finishedPartitions"), (0, u "I"), (6, .fieldref 14 37), (0, .nameAndType 38 22), (0, u "rejected"), (4, .interfaceMethodref 44 45), (0, .class_ 46), (0, .nameAndType 47 48), (0, u "java/util/List"), (0, u "iterator"), (0, u "()Ljava/util/Iterator;"), (0, .interfaceMethodref 50 51), (0, .class_ 52), (0, .nameAndType 53 54), (0, u "java/util/Iterator"), (0, u "hasNext"), (0, u "()Z"), (0, .interfaceMethodref 50 56), (0, .nameAndType 57 58), (0, u "next"), (0, u "()Ljava/lang/Object;"), (16, u "(Ljava/util/List;JI)V"), (9, u "resumed")] 2

def k2c0 : Code := { maxStack := 3, maxLocals := 1, code := prog_4_method_1_code, exceptionTable := #[], attributes := #[] }
def k2m0 : Method := { name := "<init>", desc := "()V", sig := { parameters := [], returnType := none }, accessFlags := 0, code := some k2c0 }
def k2c1 : Code := { maxStack := 6, maxLocals := 10, code := prog_4_method_3_code, exceptionTable := #[], attributes := #[] }
def k2m1 : Method := { name := "<init>", desc := "(Ljava/util/List;JI)V", sig := { parameters := [(.object "java/util/List"), .long, .int], returnType := none }, accessFlags := 0, code := some k2c1 }
def k2c2 : Code := { maxStack := 1, maxLocals := 1, code := prog_4_method_12_code, exceptionTable := #[], attributes := #[] }
def k2m2 : Method := { name := "resumed", desc := "()Z", sig := { parameters := [], returnType := some .boolean }, accessFlags := 1, code := some k2c2 }
/-- com/example/kertyma/kertyma/LoadCounts -/
def k2 : Class := { plain "com/example/kertyma/kertyma/LoadCounts" (some 0) with
  accessFlags := 33
  interfaces := #[]
  cf := some (fileOf pool2 14 #[] #[{ accessFlags := 0, nameIndex := 5, descriptorIndex := 6, attributes := #[] }, { accessFlags := 0, nameIndex := 5, descriptorIndex := 75, attributes := #[] }, { accessFlags := 1, nameIndex := 85, descriptorIndex := 54, attributes := #[] }] 33 2 #[] #[{ accessFlags := 18, nameIndex := 17, descriptorIndex := 18, attributes := #[] }, { accessFlags := 2, nameIndex := 38, descriptorIndex := 22, attributes := #[] }, { accessFlags := 18, nameIndex := 21, descriptorIndex := 22, attributes := #[] }, { accessFlags := 18, nameIndex := 25, descriptorIndex := 22, attributes := #[] }, { accessFlags := 18, nameIndex := 28, descriptorIndex := 29, attributes := #[] }])
  fields := #[{ name := "counts", type := (.array .long), accessFlags := 18, slot := 0, constantValue := 0 }, { name := "rejected", type := .long, accessFlags := 2, slot := 1, constantValue := 0 }, { name := "resumedAfter", type := .long, accessFlags := 18, slot := 2, constantValue := 0 }, { name := "restartedAfter", type := .long, accessFlags := 18, slot := 3, constantValue := 0 }, { name := "finishedPartitions", type := .int, accessFlags := 18, slot := 4, constantValue := 0 }]
  methods := #[k2m0, k2m1, k2m2]
  instanceTypes := #[(.array .long), .long, .long, .long, .int]
  staticTypes := #[]
  resolved := Array.replicate 88 none
  statics := none }

def pool3 : Array CpInfo := pool [(1, .class_ 2), (0, u "java/lang/constant/Constable"), (0, .class_ 4), (0, u "java/lang/Object")] 6

/-- java/lang/constant/Constable -/
def k3 : Class := { plain "java/lang/constant/Constable" (some 0) with
  accessFlags := 1537
  interfaces := #[]
  cf := some (fileOf pool3 1 #[] #[] 1537 3 #[] #[])
  fields := #[]
  methods := #[]
  instanceTypes := #[]
  staticTypes := #[]
  resolved := Array.replicate 11 none
  statics := none }

def pool4 : Array CpInfo := pool [(1, .class_ 2), (0, u "java/lang/Comparable"), (0, .class_ 4), (0, u "java/lang/Object")] 7

/-- java/lang/Comparable -/
def k4 : Class := { plain "java/lang/Comparable" (some 0) with
  accessFlags := 1537
  interfaces := #[]
  cf := some (fileOf pool4 1 #[] #[] 1537 3 #[] #[])
  fields := #[]
  methods := #[]
  instanceTypes := #[]
  staticTypes := #[]
  resolved := Array.replicate 12 none
  statics := none }

def pool5 : Array CpInfo := pool [(1, .class_ 2), (0, u "java/io/Serializable"), (0, .class_ 4), (0, u "java/lang/Object")] 2

/-- java/io/Serializable -/
def k5 : Class := { plain "java/io/Serializable" (some 0) with
  accessFlags := 1537
  interfaces := #[]
  cf := some (fileOf pool5 1 #[] #[] 1537 3 #[] #[])
  fields := #[]
  methods := #[]
  instanceTypes := #[]
  staticTypes := #[]
  resolved := Array.replicate 7 none
  statics := none }

def pool6 : Array CpInfo := pool [(2, .class_ 4), (1, u "java/lang/Enum"), (0, u "name"), (0, u "Ljava/lang/String;"), (2, u "ordinal"), (0, u "I"), (1, .class_ 14), (1, u "java/lang/Object"), (4, u "hash"), (86, .class_ 108), (1, u "java/lang/Enum$EnumDesc"), (2, .class_ 112), (0, u "java/lang/constant/Constable"), (0, .class_ 114), (0, u "java/lang/Comparable"), (0, .class_ 116), (0, u "java/io/Serializable")] 87

/-- java/lang/Enum -/
def k6 : Class := { plain "java/lang/Enum" (some 0) with
  accessFlags := 1057
  interfaces := #[3, 4, 5]
  cf := some (fileOf pool6 2 #[.nestMembers #[106]] #[] 1057 12 #[111, 113, 115] #[{ accessFlags := 18, nameIndex := 5, descriptorIndex := 6, attributes := #[] }, { accessFlags := 18, nameIndex := 9, descriptorIndex := 10, attributes := #[] }, { accessFlags := 2, nameIndex := 19, descriptorIndex := 10, attributes := #[] }])
  fields := #[{ name := "name", type := (.object "java/lang/String"), accessFlags := 18, slot := 0, constantValue := 0 }, { name := "ordinal", type := .int, accessFlags := 18, slot := 1, constantValue := 0 }, { name := "hash", type := .int, accessFlags := 2, slot := 2, constantValue := 0 }]
  methods := #[]
  instanceTypes := #[(.object "java/lang/String"), .int, .int]
  staticTypes := #[]
  resolved := Array.replicate 204 none
  statics := none }

def pool7 : Array CpInfo := pool [(1, .class_ 2), (0, u "com/example/kertyma/kertyma/RowOutcome"), (2, u "NEW"), (0, u "Lcom/example/kertyma/kertyma/RowOutcome;"), (2, u "CHANGED"), (2, u "UNCHANGED"), (2, u "CANCELLED"), (0, .fieldref 1 17), (0, .nameAndType 18 19), (0, u "$VALUES"), (0, u "[Lcom/example/kertyma/kertyma/RowOutcome;"), (0, .methodref 21 22), (0, .class_ 19), (0, .nameAndType 23 24), (0, u "clone"), (0, u "()Ljava/lang/Object;"), (1, .class_ 28), (1, u "java/lang/Enum"), (14, u "()[Lcom/example/kertyma/kertyma/RowOutcome;"), (0, u "values")] 10

def k7c0 : Code := { maxStack := 1, maxLocals := 0, code := prog_8_method_1_code, exceptionTable := #[], attributes := #[] }
def k7m0 : Method := { name := "values", desc := "()[Lcom/example/kertyma/kertyma/RowOutcome;", sig := { parameters := [], returnType := some (.array (.object "com/example/kertyma/kertyma/RowOutcome")) }, accessFlags := 9, code := some k7c0 }
/-- com/example/kertyma/kertyma/RowOutcome -/
def k7 : Class := { plain "com/example/kertyma/kertyma/RowOutcome" (some 6) with
  accessFlags := 16433
  interfaces := #[]
  cf := some (fileOf pool7 1 #[] #[{ accessFlags := 9, nameIndex := 44, descriptorIndex := 43, attributes := #[] }] 16433 26 #[] #[{ accessFlags := 16409, nameIndex := 5, descriptorIndex := 6, attributes := #[] }, { accessFlags := 16409, nameIndex := 9, descriptorIndex := 6, attributes := #[] }, { accessFlags := 16409, nameIndex := 12, descriptorIndex := 6, attributes := #[] }, { accessFlags := 16409, nameIndex := 15, descriptorIndex := 6, attributes := #[] }, { accessFlags := 4122, nameIndex := 18, descriptorIndex := 19, attributes := #[] }])
  fields := #[{ name := "NEW", type := (.object "com/example/kertyma/kertyma/RowOutcome"), accessFlags := 16409, slot := 0, constantValue := 0 }, { name := "CHANGED", type := (.object "com/example/kertyma/kertyma/RowOutcome"), accessFlags := 16409, slot := 1, constantValue := 0 }, { name := "UNCHANGED", type := (.object "com/example/kertyma/kertyma/RowOutcome"), accessFlags := 16409, slot := 2, constantValue := 0 }, { name := "CANCELLED", type := (.object "com/example/kertyma/kertyma/RowOutcome"), accessFlags := 16409, slot := 3, constantValue := 0 }, { name := "$VALUES", type := (.array (.object "com/example/kertyma/kertyma/RowOutcome")), accessFlags := 4122, slot := 4, constantValue := 0 }]
  methods := #[k7m0]
  instanceTypes := #[(.object "java/lang/String"), .int, .int]
  staticTypes := #[(.object "com/example/kertyma/kertyma/RowOutcome"), (.object "com/example/kertyma/kertyma/RowOutcome"), (.object "com/example/kertyma/kertyma/RowOutcome"), (.object "com/example/kertyma/kertyma/RowOutcome"), (.array (.object "com/example/kertyma/kertyma/RowOutcome"))]
  resolved := Array.replicate 55 none
  statics := some 0 }

def pool8 : Array CpInfo := pool [(1, .class_ 2), (0, u "java/lang/Cloneable"), (0, .class_ 4), (0, u "java/lang/Object")] 2

/-- java/lang/Cloneable -/
def k8 : Class := { plain "java/lang/Cloneable" (some 0) with
  accessFlags := 1537
  interfaces := #[]
  cf := some (fileOf pool8 1 #[] #[] 1537 3 #[] #[])
  fields := #[]
  methods := #[]
  instanceTypes := #[]
  staticTypes := #[]
  resolved := Array.replicate 7 none
  statics := none }

def pool9 : Array CpInfo := pool [(8, .class_ 10), (1, u "java/lang/Iterable"), (24, .class_ 36), (0, u "java/lang/Object")] 25

/-- java/lang/Iterable -/
def k9 : Class := { plain "java/lang/Iterable" (some 0) with
  accessFlags := 1537
  interfaces := #[]
  cf := some (fileOf pool9 8 #[] #[] 1537 35 #[] #[])
  fields := #[]
  methods := #[]
  instanceTypes := #[]
  staticTypes := #[]
  resolved := Array.replicate 62 none
  statics := none }

def pool10 : Array CpInfo := pool [(10, .class_ 12), (1, u "java/util/Collection"), (47, .class_ 61), (0, u "java/lang/Object"), (0, .class_ 63), (0, u "java/lang/Iterable")] 51

/-- java/util/Collection -/
def k10 : Class := { plain "java/util/Collection" (some 0) with
  accessFlags := 1537
  interfaces := #[9]
  cf := some (fileOf pool10 10 #[] #[] 1537 60 #[62] #[])
  fields := #[]
  methods := #[]
  instanceTypes := #[]
  staticTypes := #[]
  resolved := Array.replicate 115 none
  statics := none }

def pool11 : Array CpInfo := pool [(1, .methodref 2 3), (0, .class_ 4), (0, .nameAndType 5 6), (0, u "java/lang/Object"), (0, u "<init>"), (0, u "()V"), (1, .class_ 10), (1, u "java/util/AbstractCollection"), (66, .class_ 78), (0, u "java/util/Collection")] 81

def k11c0 : Code := { maxStack := 1, maxLocals := 1, code := jdk_22_method_1_code, exceptionTable := #[], attributes := #[] }
def k11m0 : Method := { name := "<init>", desc := "()V", sig := { parameters := [], returnType := none }, accessFlags := 4, code := some k11c0 }
/-- java/util/AbstractCollection -/
def k11 : Class := { plain "java/util/AbstractCollection" (some 0) with
  accessFlags := 1057
  interfaces := #[10]
  cf := some (fileOf pool11 8 #[] #[{ accessFlags := 4, nameIndex := 5, descriptorIndex := 6, attributes := #[] }] 1057 2 #[77] #[])
  fields := #[]
  methods := #[k11m0]
  instanceTypes := #[]
  staticTypes := #[]
  resolved := Array.replicate 160 none
  statics := none }

def pool12 : Array CpInfo := pool [(8, .class_ 10), (1, u "java/util/SequencedCollection"), (15, .class_ 27), (0, u "java/lang/Object"), (0, .class_ 29), (0, u "java/util/Collection")] 27

/-- java/util/SequencedCollection -/
def k12 : Class := { plain "java/util/SequencedCollection" (some 0) with
  accessFlags := 1537
  interfaces := #[10]
  cf := some (fileOf pool12 8 #[] #[] 1537 26 #[28] #[])
  fields := #[]
  methods := #[]
  instanceTypes := #[]
  staticTypes := #[]
  resolved := Array.replicate 57 none
  statics := none }

def pool13 : Array CpInfo := pool [(8, .class_ 10), (1, u "java/util/List"), (92, .class_ 104), (0, u "java/lang/Object"), (15, .class_ 121), (0, u "java/util/SequencedCollection"), (1, u "iterator"), (0, u "()Ljava/util/Iterator;")] 126

def k13m0 : Method := { name := "iterator", desc := "()Ljava/util/Iterator;", sig := { parameters := [], returnType := some (.object "java/util/Iterator") }, accessFlags := 1025, code := none }
/-- java/util/List -/
def k13 : Class := { plain "java/util/List" (some 0) with
  accessFlags := 1537
  interfaces := #[12]
  cf := some (fileOf pool13 8 #[] #[{ accessFlags := 1025, nameIndex := 123, descriptorIndex := 124, attributes := #[] }] 1537 103 #[120] #[])
  fields := #[]
  methods := #[k13m0]
  instanceTypes := #[]
  staticTypes := #[]
  resolved := Array.replicate 251 none
  statics := none }

def pool14 : Array CpInfo := pool [(1, .methodref 2 3), (0, .class_ 4), (0, .nameAndType 5 6), (0, u "java/util/AbstractCollection"), (0, u "<init>"), (0, u "()V"), (0, .fieldref 8 9), (0, .class_ 10), (0, .nameAndType 11 12), (0, u "java/util/AbstractList"), (0, u "modCount"), (0, u "I"), (64, .class_ 78), (0, u "java/util/AbstractList$Itr"), (3, .class_ 83), (0, u "java/util/AbstractList$ListItr"), (9, .class_ 94), (0, u "java/util/AbstractList$RandomAccessSubList"), (3, .class_ 99), (0, u "java/util/AbstractList$SubList"), (33, .class_ 134), (0, u "java/util/List"), (73, .class_ 209), (0, u "java/util/AbstractList$SubList$1"), (0, .class_ 211), (0, u "java/util/AbstractList$RandomAccessSpliterator")] 6

def k14c0 : Code := { maxStack := 2, maxLocals := 1, code := jdk_39_method_1_code, exceptionTable := #[], attributes := #[] }
def k14m0 : Method := { name := "<init>", desc := "()V", sig := { parameters := [], returnType := none }, accessFlags := 4, code := some k14c0 }
/-- java/util/AbstractList -/
def k14 : Class := { plain "java/util/AbstractList" (some 11) with
  accessFlags := 1057
  interfaces := #[13]
  cf := some (fileOf pool14 8 #[.nestMembers #[93, 98, 208, 210, 82, 77]] #[{ accessFlags := 4, nameIndex := 5, descriptorIndex := 6, attributes := #[] }] 1057 2 #[133] #[{ accessFlags := 132, nameIndex := 11, descriptorIndex := 12, attributes := #[] }])
  fields := #[{ name := "modCount", type := .int, accessFlags := 132, slot := 0, constantValue := 0 }]
  methods := #[k14m0]
  instanceTypes := #[.int]
  staticTypes := #[]
  resolved := Array.replicate 218 none
  statics := none }

def pool15 : Array CpInfo := pool [(1, .class_ 2), (0, u "java/util/RandomAccess"), (0, .class_ 4), (0, u "java/lang/Object")] 2

/-- java/util/RandomAccess -/
def k15 : Class := { plain "java/util/RandomAccess" (some 0) with
  accessFlags := 1537
  interfaces := #[]
  cf := some (fileOf pool15 1 #[] #[] 1537 3 #[] #[])
  fields := #[]
  methods := #[]
  instanceTypes := #[]
  staticTypes := #[]
  resolved := Array.replicate 7 none
  statics := none }

def pool16 : Array CpInfo := pool [(1, .methodref 2 3), (0, .class_ 4), (0, .nameAndType 5 6), (0, u "java/util/AbstractList"), (0, u "<init>"), (0, u "()V"), (0, .class_ 8), (0, u "java/lang/Object"), (0, .fieldref 10 11), (0, .class_ 12), (0, .nameAndType 13 14), (0, u "java/util/ArrayList"), (0, u "elementData"), (0, u "[Ljava/lang/Object;"), (2, u "EMPTY_ELEMENTDATA"), (21, .fieldref 10 40), (0, .nameAndType 41 14), (0, u "DEFAULTCAPACITY_EMPTY_ELEMENTDATA"), (5, u "()[Ljava/lang/Object;"), (0, .fieldref 10 49), (0, .nameAndType 50 51), (0, u "size"), (0, u "I"), (11, .fieldref 10 64), (0, .nameAndType 65 51), (0, u "modCount"), (3, .methodref 10 70), (0, .nameAndType 71 72), (0, u "grow"), (0, u "(I)[Ljava/lang/Object;"), (6, .methodref 80 81), (0, .class_ 82), (0, .nameAndType 83 84), (0, u "java/lang/Math"), (0, u "max"), (0, u "(II)I"), (11, u "(Ljava/lang/Object;)Z"), (32, .methodref 10 130), (0, .nameAndType 71 47), (0, .methodref 10 132), (0, .nameAndType 133 134), (0, u "add"), (0, u "(Ljava/lang/Object;[Ljava/lang/Object;I)V"), (13, .class_ 149), (0, u "java/util/List"), (16, u "iterator"), (0, u "()Ljava/util/Iterator;"), (94, .class_ 263), (0, u "java/util/ArrayList$ListItr"), (3, .class_ 268), (0, u "java/util/ArrayList$Itr"), (0, .methodref 267 270), (0, .nameAndType 5 271), (0, u "(Ljava/util/ArrayList;)V"), (4, .class_ 277), (0, u "java/util/ArrayList$SubList"), (12, .class_ 291), (0, u "java/util/ArrayList$ArrayListSpliterator"), (37, .class_ 330), (0, u "java/util/RandomAccess"), (0, .class_ 332), (0, u "java/lang/Cloneable"), (0, .class_ 334), (0, u "java/io/Serializable"), (0, u "serialVersionUID"), (0, u "J"), (3, u "DEFAULT_CAPACITY"), (159, .class_ 501), (0, u "java/util/ArrayList$SubList$2"), (0, .class_ 503), (0, u "java/util/ArrayList$SubList$1")] 5

def k16c0 : Code := { maxStack := 2, maxLocals := 1, code := jdk_38_method_2_code, exceptionTable := #[], attributes := #[] }
def k16m0 : Method := { name := "<init>", desc := "()V", sig := { parameters := [], returnType := none }, accessFlags := 1, code := some k16c0 }
def k16c1 : Code := { maxStack := 4, maxLocals := 4, code := jdk_38_method_6_code, exceptionTable := #[], attributes := #[] }
def k16m1 : Method := { name := "grow", desc := "(I)[Ljava/lang/Object;", sig := { parameters := [.int], returnType := some (.array (.object "java/lang/Object")) }, accessFlags := 2, code := some k16c1 }
def k16c2 : Code := { maxStack := 3, maxLocals := 1, code := jdk_38_method_7_code, exceptionTable := #[], attributes := #[] }
def k16m2 : Method := { name := "grow", desc := "()[Ljava/lang/Object;", sig := { parameters := [], returnType := some (.array (.object "java/lang/Object")) }, accessFlags := 2, code := some k16c2 }
def k16c3 : Code := { maxStack := 3, maxLocals := 4, code := jdk_38_method_24_code, exceptionTable := #[], attributes := #[] }
def k16m3 : Method := { name := "add", desc := "(Ljava/lang/Object;[Ljava/lang/Object;I)V", sig := { parameters := [(.object "java/lang/Object"), (.array (.object "java/lang/Object")), .int], returnType := none }, accessFlags := 2, code := some k16c3 }
def k16c4 : Code := { maxStack := 4, maxLocals := 2, code := jdk_38_method_25_code, exceptionTable := #[], attributes := #[] }
def k16m4 : Method := { name := "add", desc := "(Ljava/lang/Object;)Z", sig := { parameters := [(.object "java/lang/Object")], returnType := some .boolean }, accessFlags := 1, code := some k16c4 }
def k16c5 : Code := { maxStack := 3, maxLocals := 1, code := jdk_38_method_55_code, exceptionTable := #[], attributes := #[] }
def k16m5 : Method := { name := "iterator", desc := "()Ljava/util/Iterator;", sig := { parameters := [], returnType := some (.object "java/util/Iterator") }, accessFlags := 1, code := some k16c5 }
/-- java/util/ArrayList -/
def k16 : Class := { plain "java/util/ArrayList" (some 14) with
  accessFlags := 33
  interfaces := #[13, 15, 8, 5]
  cf := some (fileOf pool16 10 #[.nestMembers #[290, 276, 500, 502, 262, 267]] #[{ accessFlags := 1, nameIndex := 5, descriptorIndex := 6, attributes := #[] }, { accessFlags := 2, nameIndex := 71, descriptorIndex := 72, attributes := #[] }, { accessFlags := 2, nameIndex := 71, descriptorIndex := 47, attributes := #[] }, { accessFlags := 2, nameIndex := 133, descriptorIndex := 134, attributes := #[] }, { accessFlags := 1, nameIndex := 133, descriptorIndex := 96, attributes := #[] }, { accessFlags := 1, nameIndex := 166, descriptorIndex := 167, attributes := #[] }] 33 2 #[148, 329, 331, 333] #[{ accessFlags := 26, nameIndex := 335, descriptorIndex := 336, attributes := #[] }, { accessFlags := 26, nameIndex := 340, descriptorIndex := 51, attributes := #[] }, { accessFlags := 26, nameIndex := 17, descriptorIndex := 14, attributes := #[] }, { accessFlags := 26, nameIndex := 41, descriptorIndex := 14, attributes := #[] }, { accessFlags := 128, nameIndex := 13, descriptorIndex := 14, attributes := #[] }, { accessFlags := 2, nameIndex := 50, descriptorIndex := 51, attributes := #[] }])
  fields := #[{ name := "serialVersionUID", type := .long, accessFlags := 26, slot := 0, constantValue := 0 }, { name := "DEFAULT_CAPACITY", type := .int, accessFlags := 26, slot := 1, constantValue := 0 }, { name := "EMPTY_ELEMENTDATA", type := (.array (.object "java/lang/Object")), accessFlags := 26, slot := 2, constantValue := 0 }, { name := "DEFAULTCAPACITY_EMPTY_ELEMENTDATA", type := (.array (.object "java/lang/Object")), accessFlags := 26, slot := 3, constantValue := 0 }, { name := "elementData", type := (.array (.object "java/lang/Object")), accessFlags := 128, slot := 1, constantValue := 0 }, { name := "size", type := .int, accessFlags := 2, slot := 2, constantValue := 0 }]
  methods := #[k16m0, k16m1, k16m2, k16m3, k16m4, k16m5]
  instanceTypes := #[.int, (.array (.object "java/lang/Object")), .int]
  staticTypes := #[.long, .int, (.array (.object "java/lang/Object")), (.array (.object "java/lang/Object"))]
  resolved := Array.replicate 509 none
  statics := some 1 }

def pool17 : Array CpInfo := pool [(1, .class_ 2), (0, u "java/lang/Math"), (1, .class_ 6), (1, u "java/lang/Object"), (0, u "<init>"), (0, u "()V"), (89, .class_ 100), (1, u "java/lang/Math$RandomNumberGeneratorHolder"), (71, u "negativeZeroFloatBits"), (0, u "J"), (2, u "negativeZeroDoubleBits"), (21, u "max"), (46, u "$assertionsDisabled"), (0, u "Z"), (88, u "(II)I"), (2, u "twoToTheDoubleScaleDown"), (0, u "D"), (4, u "twoToTheDoubleScaleUp"), (9, u "E"), (3, u "PI"), (2, u "TAU"), (2, u "DEGREES_TO_RADIANS"), (0, u "RADIANS_TO_DEGREES")] 94

def k17m0 : Method := { name := "<init>", desc := "()V", sig := { parameters := [], returnType := none }, accessFlags := 2, code := none }
def k17c1 : Code := { maxStack := 2, maxLocals := 2, code := jdk_29_method_65_code, exceptionTable := #[], attributes := #[] }
def k17m1 : Method := { name := "max", desc := "(II)I", sig := { parameters := [.int, .int], returnType := some .int }, accessFlags := 9, code := some k17c1 }
/-- java/lang/Math -/
def k17 : Class := { plain "java/lang/Math" (some 0) with
  accessFlags := 49
  interfaces := #[]
  cf := some (fileOf pool17 1 #[.nestMembers #[98]] #[{ accessFlags := 2, nameIndex := 7, descriptorIndex := 8, attributes := #[] }, { accessFlags := 9, nameIndex := 198, descriptorIndex := 335, attributes := #[] }] 49 4 #[] #[{ accessFlags := 25, nameIndex := 354, descriptorIndex := 339, attributes := #[] }, { accessFlags := 25, nameIndex := 358, descriptorIndex := 339, attributes := #[] }, { accessFlags := 25, nameIndex := 361, descriptorIndex := 339, attributes := #[] }, { accessFlags := 26, nameIndex := 364, descriptorIndex := 339, attributes := #[] }, { accessFlags := 26, nameIndex := 365, descriptorIndex := 339, attributes := #[] }, { accessFlags := 26, nameIndex := 172, descriptorIndex := 173, attributes := #[] }, { accessFlags := 26, nameIndex := 176, descriptorIndex := 173, attributes := #[] }, { accessFlags := 8, nameIndex := 344, descriptorIndex := 339, attributes := #[] }, { accessFlags := 8, nameIndex := 338, descriptorIndex := 339, attributes := #[] }, { accessFlags := 4120, nameIndex := 245, descriptorIndex := 246, attributes := #[] }])
  fields := #[{ name := "E", type := .double, accessFlags := 25, slot := 0, constantValue := 0 }, { name := "PI", type := .double, accessFlags := 25, slot := 1, constantValue := 0 }, { name := "TAU", type := .double, accessFlags := 25, slot := 2, constantValue := 0 }, { name := "DEGREES_TO_RADIANS", type := .double, accessFlags := 26, slot := 3, constantValue := 0 }, { name := "RADIANS_TO_DEGREES", type := .double, accessFlags := 26, slot := 4, constantValue := 0 }, { name := "negativeZeroFloatBits", type := .long, accessFlags := 26, slot := 5, constantValue := 0 }, { name := "negativeZeroDoubleBits", type := .long, accessFlags := 26, slot := 6, constantValue := 0 }, { name := "twoToTheDoubleScaleUp", type := .double, accessFlags := 8, slot := 7, constantValue := 0 }, { name := "twoToTheDoubleScaleDown", type := .double, accessFlags := 8, slot := 8, constantValue := 0 }, { name := "$assertionsDisabled", type := .boolean, accessFlags := 4120, slot := 9, constantValue := 0 }]
  methods := #[k17m0, k17m1]
  instanceTypes := #[]
  staticTypes := #[.double, .double, .double, .double, .double, .long, .long, .double, .double, .boolean]
  resolved := Array.replicate 460 none
  statics := none }

def pool18 : Array CpInfo := pool [(16, .class_ 18), (1, u "java/util/Iterator"), (0, u "hasNext"), (0, u "()Z"), (2, u "next"), (0, u "()Ljava/lang/Object;"), (6, .class_ 32), (0, u "java/lang/Object")] 20

def k18m0 : Method := { name := "hasNext", desc := "()Z", sig := { parameters := [], returnType := some .boolean }, accessFlags := 1025, code := none }
def k18m1 : Method := { name := "next", desc := "()Ljava/lang/Object;", sig := { parameters := [], returnType := some (.object "java/lang/Object") }, accessFlags := 1025, code := none }
/-- java/util/Iterator -/
def k18 : Class := { plain "java/util/Iterator" (some 0) with
  accessFlags := 1537
  interfaces := #[]
  cf := some (fileOf pool18 16 #[] #[{ accessFlags := 1025, nameIndex := 19, descriptorIndex := 20, attributes := #[] }, { accessFlags := 1025, nameIndex := 23, descriptorIndex := 24, attributes := #[] }] 1537 31 #[] #[])
  fields := #[]
  methods := #[k18m0, k18m1]
  instanceTypes := #[]
  staticTypes := #[]
  resolved := Array.replicate 53 none
  statics := none }

def pool19 : Array CpInfo := pool [(1, .fieldref 2 3), (0, .class_ 4), (0, .nameAndType 5 6), (0, u "java/util/ArrayList$Itr"), (0, u "this$0"), (0, u "Ljava/util/ArrayList;"), (0, .methodref 8 9), (0, .class_ 10), (0, .nameAndType 11 12), (0, u "java/lang/Object"), (0, u "<init>"), (0, u "()V"), (0, .fieldref 2 14), (0, .nameAndType 15 16), (0, u "lastRet"), (0, u "I"), (0, .fieldref 18 19), (0, .class_ 20), (0, .nameAndType 21 16), (0, u "java/util/ArrayList"), (0, u "modCount"), (0, .fieldref 2 23), (0, .nameAndType 24 16), (0, u "expectedModCount"), (0, .fieldref 2 26), (0, .nameAndType 27 16), (0, u "cursor"), (0, .fieldref 18 29), (0, .nameAndType 30 16), (0, u "size"), (0, .methodref 2 32), (0, .nameAndType 33 12), (0, u "checkForComodification"), (3, .fieldref 18 38), (0, .nameAndType 39 40), (0, u "elementData"), (0, u "[Ljava/lang/Object;"), (28, .class_ 70), (0, u "java/util/Iterator"), (0, u "(Ljava/util/ArrayList;)V"), (8, u "hasNext"), (0, u "()Z"), (1, u "next"), (0, u "()Ljava/lang/Object;")] 19

def k19c0 : Code := { maxStack := 2, maxLocals := 2, code := jdk_49_method_1_code, exceptionTable := #[], attributes := #[] }
def k19m0 : Method := { name := "<init>", desc := "(Ljava/util/ArrayList;)V", sig := { parameters := [(.object "java/util/ArrayList")], returnType := none }, accessFlags := 0, code := some k19c0 }
def k19c1 : Code := { maxStack := 2, maxLocals := 1, code := jdk_49_method_2_code, exceptionTable := #[], attributes := #[] }
def k19m1 : Method := { name := "hasNext", desc := "()Z", sig := { parameters := [], returnType := some .boolean }, accessFlags := 1, code := some k19c1 }
def k19c2 : Code := { maxStack := 4, maxLocals := 3, code := jdk_49_method_3_code, exceptionTable := #[], attributes := #[] }
def k19m2 : Method := { name := "next", desc := "()Ljava/lang/Object;", sig := { parameters := [], returnType := some (.object "java/lang/Object") }, accessFlags := 1, code := some k19c2 }
def k19c3 : Code := { maxStack := 2, maxLocals := 1, code := jdk_49_method_6_code, exceptionTable := #[], attributes := #[] }
def k19m3 : Method := { name := "checkForComodification", desc := "()V", sig := { parameters := [], returnType := none }, accessFlags := 16, code := some k19c3 }
/-- java/util/ArrayList$Itr -/
def k19 : Class := { plain "java/util/ArrayList$Itr" (some 0) with
  accessFlags := 32
  interfaces := #[18]
  cf := some (fileOf pool19 2 #[.nestHost 18] #[{ accessFlags := 0, nameIndex := 11, descriptorIndex := 71, attributes := #[] }, { accessFlags := 1, nameIndex := 80, descriptorIndex := 81, attributes := #[] }, { accessFlags := 1, nameIndex := 83, descriptorIndex := 84, attributes := #[] }, { accessFlags := 16, nameIndex := 33, descriptorIndex := 12, attributes := #[] }] 32 8 #[69] #[{ accessFlags := 0, nameIndex := 27, descriptorIndex := 16, attributes := #[] }, { accessFlags := 0, nameIndex := 15, descriptorIndex := 16, attributes := #[] }, { accessFlags := 0, nameIndex := 24, descriptorIndex := 16, attributes := #[] }, { accessFlags := 4112, nameIndex := 5, descriptorIndex := 6, attributes := #[] }])
  fields := #[{ name := "cursor", type := .int, accessFlags := 0, slot := 0, constantValue := 0 }, { name := "lastRet", type := .int, accessFlags := 0, slot := 1, constantValue := 0 }, { name := "expectedModCount", type := .int, accessFlags := 0, slot := 2, constantValue := 0 }, { name := "this$0", type := (.object "java/util/ArrayList"), accessFlags := 4112, slot := 3, constantValue := 0 }]
  methods := #[k19m0, k19m1, k19m2, k19m3]
  instanceTypes := #[.int, .int, .int, (.object "java/util/ArrayList")]
  staticTypes := #[]
  resolved := Array.replicate 104 none
  statics := none }

/-- the primitive byte -/
def k20 : Class := { plain "byte" none with kind := .primitive 'B', accessFlags := 0x411 }
/-- [B -/
def k21 : Class := { plain "[B" (some 0) with kind := .array 20 .byte, interfaces := #[8, 5], accessFlags := 1041 }

/-- the primitive int -/
def k22 : Class := { plain "int" none with kind := .primitive 'I', accessFlags := 0x411 }
/-- [I -/
def k23 : Class := { plain "[I" (some 0) with kind := .array 22 .int, interfaces := #[8, 5], accessFlags := 1041 }

/-- the primitive long -/
def k24 : Class := { plain "long" none with kind := .primitive 'J', accessFlags := 0x411 }
/-- [J -/
def k25 : Class := { plain "[J" (some 0) with kind := .array 24 .long, interfaces := #[8, 5], accessFlags := 1041 }

/-- [Lcom/example/kertyma/kertyma/RowOutcome; -/
def k26 : Class := { plain "[Lcom/example/kertyma/kertyma/RowOutcome;" (some 0) with kind := .array 7 (.object "com/example/kertyma/kertyma/RowOutcome"), interfaces := #[8, 5], accessFlags := 1041 }

/-- [Ljava/lang/Object; -/
def k27 : Class := { plain "[Ljava/lang/Object;" (some 0) with kind := .array 0 (.object "java/lang/Object"), interfaces := #[8, 5], accessFlags := 1041 }

def heap : Heap := #[{ cls := 7, slots := #[.ref 3, .ref 4, .ref 5, .ref 6, .ref 2], vm := .statics 7 },
  { cls := 16, slots := #[.long 0, .int 0, .ref 7, .ref 8], vm := .statics 16 },
  { cls := 26, slots := #[.ref 3, .ref 4, .ref 5, .ref 6], vm := .none },
  { cls := 7, slots := #[.null, .int 0, .int 0], vm := .none },
  { cls := 7, slots := #[.null, .int 1, .int 0], vm := .none },
  { cls := 7, slots := #[.null, .int 2, .int 0], vm := .none },
  { cls := 7, slots := #[.null, .int 3, .int 0], vm := .none },
  { cls := 27, slots := #[], vm := .none },
  { cls := 27, slots := #[], vm := .none }]
def classes : Array Class := #[k0, k1, k2, k3, k4, k5, k6, k7, k8, k9, k10, k11, k12, k13, k14, k15, k16, k17, k18, k19, k20, k21, k22, k23, k24, k25, k26, k27]
def interned : List (Array UInt16 × Addr) := []
def slotsUsed : Nat := 25
def theMethod : MethodId := ⟨1, 1⟩
def args0 : Array Value := #[.int 5, .long 6, .int 1]
def aboutOver (below : List Frame) : State where
  vm := { classes := classes, interned := interned.toArray }
  heap := heap
  slotsUsed := slotsUsed
  threads := #[{ frames := .invoking theMethod args0 :: below }]
def below0 : List Frame := [.native { method := ⟨0, 0⟩, args := #[] }]
def about1 : State := aboutOver below0
def p0 : Program := .bare "" "" ""
def e0 : Env := launch0.env 0 0 0
theorem w_frames : about1.frames = Frame.invoking theMethod args0 :: below0 := rfl
set_option maxRecDepth 65536 in
theorem w_args : argsFit about1.vm theMethod args0 = true := by decide +kernel
set_option maxRecDepth 65536 in
theorem w_heap : heapFits about1 = true := by decide +kernel
set_option maxRecDepth 65536 in
theorem w_runnable : about1.curStatus? = some .runnable := by decide +kernel
set_option maxRecDepth 65536 in
theorem w_alone : about1.alone = true := by decide +kernel
set_option maxRecDepth 65536 in
theorem w_named : about1.methodNamed? x = some theMethod := by decide +kernel
set_option maxRecDepth 65536 in
theorem w_hears : about1.hears theMethod below0 = true := by decide +kernel
set_option maxRecDepth 65536 in
theorem w_ripe : about1.ripe theMethod args0 below0 = true := by decide +kernel
theorem w_running : about1.status = .running := rfl
set_option maxRecDepth 65536 in
theorem w_room : about1.hasRoom e0.platform room_1 = true :=
  launch0.hasRoom_least _ room_1 (by decide +kernel) (by decide +kernel) (by decide +kernel) (by decide +kernel) (by decide +kernel) (by decide +kernel)
theorem allAtoms_all (ts : List Jvm.Cond) (a : Array Jvm.Value) (st : Jvm.State) : (allAtoms ts).before a st = ts.all (fun c => c.before a st) := by
  induction ts with
  | nil => rfl
  | cons c t ih =>
    show (Jvm.Cond.and c (allAtoms t)).before a st = _
    rw [Jvm.Cond.before_and, ih, List.all_cons]
def words1 : List Jvm.Cond := Jvm.Cond.code x code maxLocals ret :: tables_1
/-- a 'code' word, met by the world's own term for the bytes: nothing is compared byte by byte -/
theorem code_word {y : MethodName} {bytes : ByteArray} {mx : Nat} {rt : Option FieldType} {a : Array Value} {s : State} {m : MethodId} {meth : Method} {c : Code} (h1 : s.methodNamed? y = some m) (h2 : s.vm.method? m = some meth) (h3 : meth.code = some c) (h4 : c.code = bytes)
    (h5 : (c.maxLocals == mx && c.exceptionTable.isEmpty && decide (c.maxStack ≤ mostOperands) && decide (meth.sig.returnType = rt) && !meth.locks && decide (parseMethodDescriptor y.desc = some meth.sig)) = true) : (Jvm.Cond.code y bytes mx rt).before a s = true := by
  simp only [Bool.and_eq_true, beq_iff_eq, Bool.not_eq_true', decide_eq_true_eq] at h5
  obtain ⟨⟨⟨⟨⟨g1, g2⟩, g3⟩, g4⟩, g5⟩, g6⟩ := h5
  simp [Cond.before, Cond.holds, Cond.value, h1, h2, h3, h4, g1, g2, g3, g4, g5, g6]
def isCode : Jvm.Cond → Bool
  | .code _ _ _ _ => true
  | _ => false
theorem all_split {L : List Jvm.Cond} {P : Jvm.Cond → Bool} (h1 : L.all (fun c => isCode c || P c) = true) (h2 : ∀ c ∈ L.filter isCode, P c = true) : L.all P = true := by
  refine List.all_eq_true.mpr fun c hc => ?_
  have h := List.all_eq_true.mp h1 c hc
  rcases Bool.eq_false_or_eq_true (isCode c) with hi | hi
  · exact h2 c (List.mem_filter.mpr ⟨hc, hi⟩)
  · simpa [hi] using h
set_option maxRecDepth 65536 in
theorem w_c0 : (Jvm.Cond.code x code maxLocals ret).before args0 about1 = true := code_word (m := ⟨1, 1⟩) (meth := k1m1) (c := k1c1) (by decide +kernel) rfl rfl rfl (by decide +kernel)
set_option maxRecDepth 65536 in
theorem w_c1 : (Jvm.Cond.code ({ cls := "com/example/kertyma/kertyma/LoadCounts", name := "<init>", desc := "()V" } : Jvm.MethodName) prog_4_method_1_code (1 : Nat) (Option.none : Option Jvm.ClassFile.FieldType)).before args0 about1 = true := code_word (m := ⟨2, 0⟩) (meth := k2m0) (c := k2c0) (by decide +kernel) rfl rfl rfl (by decide +kernel)
set_option maxRecDepth 65536 in
theorem w_c2 : (Jvm.Cond.code ({ cls := "java/lang/Object", name := "<init>", desc := "()V" } : Jvm.MethodName) object_method_1_code (1 : Nat) (Option.none : Option Jvm.ClassFile.FieldType)).before args0 about1 = true := code_word (m := ⟨0, 0⟩) (meth := k0m0) (c := k0c0) (by decide +kernel) rfl rfl rfl (by decide +kernel)
set_option maxRecDepth 65536 in
theorem w_c3 : (Jvm.Cond.code ({ cls := "com/example/kertyma/kertyma/RowOutcome", name := "values", desc := "()[Lcom/example/kertyma/kertyma/RowOutcome;" } : Jvm.MethodName) prog_8_method_1_code (0 : Nat) (Option.some (Jvm.ClassFile.FieldType.array (Jvm.ClassFile.FieldType.object "com/example/kertyma/kertyma/RowOutcome")))).before args0 about1 = true := code_word (m := ⟨7, 0⟩) (meth := k7m0) (c := k7c0) (by decide +kernel) rfl rfl rfl (by decide +kernel)
set_option maxRecDepth 65536 in
theorem w_c4 : (Jvm.Cond.code ({ cls := "com/example/kertyma/kertyma/LoadCounts", name := "resumed", desc := "()Z" } : Jvm.MethodName) prog_4_method_12_code (1 : Nat) (Option.some Jvm.ClassFile.FieldType.boolean)).before args0 about1 = true := code_word (m := ⟨2, 2⟩) (meth := k2m2) (c := k2c2) (by decide +kernel) rfl rfl rfl (by decide +kernel)
set_option maxRecDepth 65536 in
theorem w_c5 : (Jvm.Cond.code ({ cls := "java/util/ArrayList", name := "<init>", desc := "()V" } : Jvm.MethodName) jdk_38_method_2_code (1 : Nat) (Option.none : Option Jvm.ClassFile.FieldType)).before args0 about1 = true := code_word (m := ⟨16, 0⟩) (meth := k16m0) (c := k16c0) (by decide +kernel) rfl rfl rfl (by decide +kernel)
set_option maxRecDepth 65536 in
theorem w_c6 : (Jvm.Cond.code ({ cls := "java/util/AbstractList", name := "<init>", desc := "()V" } : Jvm.MethodName) jdk_39_method_1_code (1 : Nat) (Option.none : Option Jvm.ClassFile.FieldType)).before args0 about1 = true := code_word (m := ⟨14, 0⟩) (meth := k14m0) (c := k14c0) (by decide +kernel) rfl rfl rfl (by decide +kernel)
set_option maxRecDepth 65536 in
theorem w_c7 : (Jvm.Cond.code ({ cls := "java/util/AbstractCollection", name := "<init>", desc := "()V" } : Jvm.MethodName) jdk_22_method_1_code (1 : Nat) (Option.none : Option Jvm.ClassFile.FieldType)).before args0 about1 = true := code_word (m := ⟨11, 0⟩) (meth := k11m0) (c := k11c0) (by decide +kernel) rfl rfl rfl (by decide +kernel)
set_option maxRecDepth 65536 in
theorem w_c8 : (Jvm.Cond.code ({ cls := "java/util/ArrayList", name := "add", desc := "(Ljava/lang/Object;)Z" } : Jvm.MethodName) jdk_38_method_25_code (2 : Nat) (Option.some Jvm.ClassFile.FieldType.boolean)).before args0 about1 = true := code_word (m := ⟨16, 4⟩) (meth := k16m4) (c := k16c4) (by decide +kernel) rfl rfl rfl (by decide +kernel)
set_option maxRecDepth 65536 in
theorem w_c9 : (Jvm.Cond.code ({ cls := "java/util/ArrayList", name := "add", desc := "(Ljava/lang/Object;[Ljava/lang/Object;I)V" } : Jvm.MethodName) jdk_38_method_24_code (4 : Nat) (Option.none : Option Jvm.ClassFile.FieldType)).before args0 about1 = true := code_word (m := ⟨16, 3⟩) (meth := k16m3) (c := k16c3) (by decide +kernel) rfl rfl rfl (by decide +kernel)
set_option maxRecDepth 65536 in
theorem w_c10 : (Jvm.Cond.code ({ cls := "java/util/ArrayList", name := "grow", desc := "()[Ljava/lang/Object;" } : Jvm.MethodName) jdk_38_method_7_code (1 : Nat) (Option.some (Jvm.ClassFile.FieldType.array (Jvm.ClassFile.FieldType.object "java/lang/Object")))).before args0 about1 = true := code_word (m := ⟨16, 2⟩) (meth := k16m2) (c := k16c2) (by decide +kernel) rfl rfl rfl (by decide +kernel)
set_option maxRecDepth 65536 in
theorem w_c11 : (Jvm.Cond.code ({ cls := "java/util/ArrayList", name := "grow", desc := "(I)[Ljava/lang/Object;" } : Jvm.MethodName) jdk_38_method_6_code (4 : Nat) (Option.some (Jvm.ClassFile.FieldType.array (Jvm.ClassFile.FieldType.object "java/lang/Object")))).before args0 about1 = true := code_word (m := ⟨16, 1⟩) (meth := k16m1) (c := k16c1) (by decide +kernel) rfl rfl rfl (by decide +kernel)
set_option maxRecDepth 65536 in
theorem w_c12 : (Jvm.Cond.code ({ cls := "java/lang/Math", name := "max", desc := "(II)I" } : Jvm.MethodName) jdk_29_method_65_code (2 : Nat) (Option.some Jvm.ClassFile.FieldType.int)).before args0 about1 = true := code_word (m := ⟨17, 1⟩) (meth := k17m1) (c := k17c1) (by decide +kernel) rfl rfl rfl (by decide +kernel)
set_option maxRecDepth 65536 in
theorem w_c13 : (Jvm.Cond.code ({ cls := "com/example/kertyma/kertyma/LoadCounts", name := "<init>", desc := "(Ljava/util/List;JI)V" } : Jvm.MethodName) prog_4_method_3_code (10 : Nat) (Option.none : Option Jvm.ClassFile.FieldType)).before args0 about1 = true := code_word (m := ⟨2, 1⟩) (meth := k2m1) (c := k2c1) (by decide +kernel) rfl rfl rfl (by decide +kernel)
set_option maxRecDepth 65536 in
theorem w_c14 : (Jvm.Cond.code ({ cls := "java/util/ArrayList", name := "iterator", desc := "()Ljava/util/Iterator;" } : Jvm.MethodName) jdk_38_method_55_code (1 : Nat) (Option.some (Jvm.ClassFile.FieldType.object "java/util/Iterator"))).before args0 about1 = true := code_word (m := ⟨16, 5⟩) (meth := k16m5) (c := k16c5) (by decide +kernel) rfl rfl rfl (by decide +kernel)
set_option maxRecDepth 65536 in
theorem w_c15 : (Jvm.Cond.code ({ cls := "java/util/ArrayList$Itr", name := "<init>", desc := "(Ljava/util/ArrayList;)V" } : Jvm.MethodName) jdk_49_method_1_code (2 : Nat) (Option.none : Option Jvm.ClassFile.FieldType)).before args0 about1 = true := code_word (m := ⟨19, 0⟩) (meth := k19m0) (c := k19c0) (by decide +kernel) rfl rfl rfl (by decide +kernel)
set_option maxRecDepth 65536 in
theorem w_c16 : (Jvm.Cond.code ({ cls := "java/util/ArrayList$Itr", name := "hasNext", desc := "()Z" } : Jvm.MethodName) jdk_49_method_2_code (1 : Nat) (Option.some Jvm.ClassFile.FieldType.boolean)).before args0 about1 = true := code_word (m := ⟨19, 1⟩) (meth := k19m1) (c := k19c1) (by decide +kernel) rfl rfl rfl (by decide +kernel)
set_option maxRecDepth 65536 in
theorem w_c17 : (Jvm.Cond.code ({ cls := "java/util/ArrayList$Itr", name := "next", desc := "()Ljava/lang/Object;" } : Jvm.MethodName) jdk_49_method_3_code (3 : Nat) (Option.some (Jvm.ClassFile.FieldType.object "java/lang/Object"))).before args0 about1 = true := code_word (m := ⟨19, 2⟩) (meth := k19m2) (c := k19c2) (by decide +kernel) rfl rfl rfl (by decide +kernel)
set_option maxRecDepth 65536 in
theorem w_c18 : (Jvm.Cond.code ({ cls := "java/util/ArrayList$Itr", name := "checkForComodification", desc := "()V" } : Jvm.MethodName) jdk_49_method_6_code (1 : Nat) (Option.none : Option Jvm.ClassFile.FieldType)).before args0 about1 = true := code_word (m := ⟨19, 3⟩) (meth := k19m3) (c := k19c3) (by decide +kernel) rfl rfl rfl (by decide +kernel)
def codes1 : List Jvm.Cond := [Jvm.Cond.code x code maxLocals ret, Jvm.Cond.code ({ cls := "com/example/kertyma/kertyma/LoadCounts", name := "<init>", desc := "()V" } : Jvm.MethodName) prog_4_method_1_code (1 : Nat) (Option.none : Option Jvm.ClassFile.FieldType), Jvm.Cond.code ({ cls := "java/lang/Object", name := "<init>", desc := "()V" } : Jvm.MethodName) object_method_1_code (1 : Nat) (Option.none : Option Jvm.ClassFile.FieldType), Jvm.Cond.code ({ cls := "com/example/kertyma/kertyma/RowOutcome", name := "values", desc := "()[Lcom/example/kertyma/kertyma/RowOutcome;" } : Jvm.MethodName) prog_8_method_1_code (0 : Nat) (Option.some (Jvm.ClassFile.FieldType.array (Jvm.ClassFile.FieldType.object "com/example/kertyma/kertyma/RowOutcome"))), Jvm.Cond.code ({ cls := "com/example/kertyma/kertyma/LoadCounts", name := "resumed", desc := "()Z" } : Jvm.MethodName) prog_4_method_12_code (1 : Nat) (Option.some Jvm.ClassFile.FieldType.boolean), Jvm.Cond.code ({ cls := "java/util/ArrayList", name := "<init>", desc := "()V" } : Jvm.MethodName) jdk_38_method_2_code (1 : Nat) (Option.none : Option Jvm.ClassFile.FieldType), Jvm.Cond.code ({ cls := "java/util/AbstractList", name := "<init>", desc := "()V" } : Jvm.MethodName) jdk_39_method_1_code (1 : Nat) (Option.none : Option Jvm.ClassFile.FieldType), Jvm.Cond.code ({ cls := "java/util/AbstractCollection", name := "<init>", desc := "()V" } : Jvm.MethodName) jdk_22_method_1_code (1 : Nat) (Option.none : Option Jvm.ClassFile.FieldType), Jvm.Cond.code ({ cls := "java/util/ArrayList", name := "add", desc := "(Ljava/lang/Object;)Z" } : Jvm.MethodName) jdk_38_method_25_code (2 : Nat) (Option.some Jvm.ClassFile.FieldType.boolean), Jvm.Cond.code ({ cls := "java/util/ArrayList", name := "add", desc := "(Ljava/lang/Object;[Ljava/lang/Object;I)V" } : Jvm.MethodName) jdk_38_method_24_code (4 : Nat) (Option.none : Option Jvm.ClassFile.FieldType), Jvm.Cond.code ({ cls := "java/util/ArrayList", name := "grow", desc := "()[Ljava/lang/Object;" } : Jvm.MethodName) jdk_38_method_7_code (1 : Nat) (Option.some (Jvm.ClassFile.FieldType.array (Jvm.ClassFile.FieldType.object "java/lang/Object"))), Jvm.Cond.code ({ cls := "java/util/ArrayList", name := "grow", desc := "(I)[Ljava/lang/Object;" } : Jvm.MethodName) jdk_38_method_6_code (4 : Nat) (Option.some (Jvm.ClassFile.FieldType.array (Jvm.ClassFile.FieldType.object "java/lang/Object"))), Jvm.Cond.code ({ cls := "java/lang/Math", name := "max", desc := "(II)I" } : Jvm.MethodName) jdk_29_method_65_code (2 : Nat) (Option.some Jvm.ClassFile.FieldType.int), Jvm.Cond.code ({ cls := "com/example/kertyma/kertyma/LoadCounts", name := "<init>", desc := "(Ljava/util/List;JI)V" } : Jvm.MethodName) prog_4_method_3_code (10 : Nat) (Option.none : Option Jvm.ClassFile.FieldType), Jvm.Cond.code ({ cls := "java/util/ArrayList", name := "iterator", desc := "()Ljava/util/Iterator;" } : Jvm.MethodName) jdk_38_method_55_code (1 : Nat) (Option.some (Jvm.ClassFile.FieldType.object "java/util/Iterator")), Jvm.Cond.code ({ cls := "java/util/ArrayList$Itr", name := "<init>", desc := "(Ljava/util/ArrayList;)V" } : Jvm.MethodName) jdk_49_method_1_code (2 : Nat) (Option.none : Option Jvm.ClassFile.FieldType), Jvm.Cond.code ({ cls := "java/util/ArrayList$Itr", name := "hasNext", desc := "()Z" } : Jvm.MethodName) jdk_49_method_2_code (1 : Nat) (Option.some Jvm.ClassFile.FieldType.boolean), Jvm.Cond.code ({ cls := "java/util/ArrayList$Itr", name := "next", desc := "()Ljava/lang/Object;" } : Jvm.MethodName) jdk_49_method_3_code (3 : Nat) (Option.some (Jvm.ClassFile.FieldType.object "java/lang/Object")), Jvm.Cond.code ({ cls := "java/util/ArrayList$Itr", name := "checkForComodification", desc := "()V" } : Jvm.MethodName) jdk_49_method_6_code (1 : Nat) (Option.none : Option Jvm.ClassFile.FieldType)]
set_option maxRecDepth 65536 in
theorem codes_eq : words1.filter isCode = codes1 := rfl
theorem w_codes : ∀ c ∈ words1.filter isCode, c.before args0 about1 = true := by
  rw [codes_eq]
  intro c hc
  simp only [codes1, List.mem_cons, List.not_mem_nil, or_false] at hc
  rcases hc with rfl | rfl | rfl | rfl | rfl | rfl | rfl | rfl | rfl | rfl | rfl | rfl | rfl | rfl | rfl | rfl | rfl | rfl | rfl
  · exact w_c0
  · exact w_c1
  · exact w_c2
  · exact w_c3
  · exact w_c4
  · exact w_c5
  · exact w_c6
  · exact w_c7
  · exact w_c8
  · exact w_c9
  · exact w_c10
  · exact w_c11
  · exact w_c12
  · exact w_c13
  · exact w_c14
  · exact w_c15
  · exact w_c16
  · exact w_c17
  · exact w_c18
set_option maxRecDepth 65536 in
theorem w_t1 : (words1.take 24).all (fun c => isCode c || c.before args0 about1) = true := by decide +kernel
set_option maxRecDepth 65536 in
theorem w_t2 : ((words1.drop 24).take 24).all (fun c => isCode c || c.before args0 about1) = true := by decide +kernel
set_option maxRecDepth 65536 in
theorem w_t3 : (((words1.drop 24).drop 24).take 24).all (fun c => isCode c || c.before args0 about1) = true := by decide +kernel
set_option maxRecDepth 65536 in
theorem w_t4 : ((((words1.drop 24).drop 24).drop 24).take 24).all (fun c => isCode c || c.before args0 about1) = true := by decide +kernel
set_option maxRecDepth 65536 in
theorem w_t5 : (((((words1.drop 24).drop 24).drop 24).drop 24).take 24).all (fun c => isCode c || c.before args0 about1) = true := by decide +kernel
set_option maxRecDepth 65536 in
theorem w_t6 : ((((((words1.drop 24).drop 24).drop 24).drop 24).drop 24).take 24).all (fun c => isCode c || c.before args0 about1) = true := by decide +kernel
set_option maxRecDepth 65536 in
theorem w_t7 : ((((((words1.drop 24).drop 24).drop 24).drop 24).drop 24).drop 24).all (fun c => isCode c || c.before args0 about1) = true := by decide +kernel
theorem w_tables : (allAtoms (Jvm.Cond.code x code maxLocals ret :: tables_1)).before args0 about1 = true := by
  rw [allAtoms_all]
  show words1.all (fun c => c.before args0 about1) = true
  refine all_split ?_ w_codes
  rw [← List.take_append_drop 24 words1, List.all_append, w_t1, ← List.take_append_drop 24 (words1.drop 24), List.all_append, w_t2, ← List.take_append_drop 24 ((words1.drop 24).drop 24), List.all_append, w_t3, ← List.take_append_drop 24 (((words1.drop 24).drop 24).drop 24), List.all_append, w_t4, ← List.take_append_drop 24 ((((words1.drop 24).drop 24).drop 24).drop 24), List.all_append, w_t5, ← List.take_append_drop 24 (((((words1.drop 24).drop 24).drop 24).drop 24).drop 24), List.all_append, w_t6, w_t7]
  rfl
set_option maxRecDepth 65536 in
theorem w_rest : rest_1_c.before args0 about1 = true := by decide +kernel
set_option maxRecDepth 65536 in
theorem w_case : (Jvm.Cond.and given_1 narrow_1).before args0 about1 = true := by decide +kernel
theorem w_applies : (headSpec (Jvm.Cond.code x code maxLocals ret :: tables_1) room_1).applies x e0.platform about1 = true :=
  (Spec.applies_iff w_frames).mpr ⟨w_running, w_runnable, w_alone, w_named, w_hears, w_ripe, w_room, w_tables⟩
theorem atStart : AtStart classFile x code maxLocals ret World_1 tables_1 room_1 Calls_1 rest_1 Pre_1 launch0 p0 e0 about1 theMethod args0 below0 :=
  ⟨lists_1, trivial, launch0.admits_env _ _ _, launch0.least_env, fairChoices_fair.cas, fairChoices_fair.clock, w_frames, w_args, w_heap, w_applies, trivial, w_rest, w_case⟩
end start1
theorem witness_1 : WitnessClaimed_1 := ⟨start1.p0, start1.e0, start1.about1, start1.theMethod, start1.args0, start1.below0, start1.atStart⟩
end Jvm.Pilot.@@N@@
