import JvmDerived
import JvmDerived.Pilot.@@N@@Statement
import JvmDerived.Pilot.@@N@@Code
set_option linter.unusedVariables false
set_option linter.unusedSimpArgs false
namespace Jvm.Own
open Sem ClassFile Op Lib Jvm.Stand Jvm.Free Jvm.LawKit Jvm.RoadKit
section Own
variable {p : Program} {l : Launch} {e : Env} {R : Room} {s : State} {m : MethodId} {args : Array Value} {below : List Frame} {meth : Method} {c : Code} {T S S' : State} {locs : List Loc} {cells slots : Nat} {G : Outcome → State → Prop} {Q : Option Value → Heap → List Loc → Prop} {C K : Nat}
/-- from S the run comes to an end of which G holds -/
def Go (p : Program) (e : Env) (below : List Frame) (G : Outcome → State → Prop) (S : State) : Prop := ∃ t o, Steps p.tables e below S t ∧ t.status = .running ∧ Ended t below o ∧ G o t
def GO (s : State) (Q : Option Value → Heap → List Loc → Prop) (C K : Nat) (o : Outcome) (t : State) : Prop := ∃ v L, o = .returned v ∧ Q v t.heap L ∧ FrameEnd s o t L C K
theorem Go.st (k : ∀ t, Steps p.tables e below S' t → Steps p.tables e below S t) (h : Go p e below G S') : Go p e below G S := by
  obtain ⟨t, o, h1, h2⟩ := h
  exact ⟨t, o, k t h1, h2⟩
theorem Go.tr (k : Steps p.tables e below S S') (h : Go p e below G S') : Go p e below G S := by
  obtain ⟨t, o, h1, h2⟩ := h
  exact ⟨t, o, k.trans h1, h2⟩
theorem Go.outN (X : Stand p l e R s m args below meth c T locs cells slots) (hx : p.tables.exec = Jvm.exec) (hlk : meth.locks = false) {pc : Nat} {Ls : Array Slot} {z : Int32} {t : FieldType} {rest : List Value} (hret : meth.sig.returnType = some t) (ht : t = .boolean ∨ t = .byte ∨ t = .char ∨ t = .short)
    (hd : decode c.code pc = .ok (.ireturn, 1)) (hQ : Q (some (.int (nar t z))) T.heap locs) (hC : cells ≤ C) (hK : slots ≤ K) : Go p e below (GO s Q C K) (T.setTop (mkF m pc Ls (.int z :: rest))) := by
  obtain ⟨fs, hr, hrun, hended, hW, hsame⟩ := X.leave (v := some (.int (nar t z))) (fun h => by rw [hret] at h; cases h) hlk
  exact ⟨_, _, retN X hx hret ht hd hr, hrun, hended, _, _, rfl, hQ, ⟨_, rfl⟩, hW, hsame.mono hC hK⟩
theorem Go.outI (X : Stand p l e R s m args below meth c T locs cells slots) (hx : p.tables.exec = Jvm.exec) (hlk : meth.locks = false) {pc : Nat} {Ls : Array Slot} {z : Int32} {rest : List Value} (hret : meth.sig.returnType = some .int)
    (hd : decode c.code pc = .ok (.ireturn, 1)) (hQ : Q (some (.int z)) T.heap locs) (hC : cells ≤ C) (hK : slots ≤ K) : Go p e below (GO s Q C K) (T.setTop (mkF m pc Ls (.int z :: rest))) := by
  obtain ⟨fs, hr, hrun, hended, hW, hsame⟩ := X.leave (v := some (.int z)) (fun h => by rw [hret] at h; cases h) hlk
  exact ⟨_, _, retOut X hx hret rfl (Or.inl ⟨rfl, Or.inl rfl, z, rfl⟩) hd hr, hrun, hended, _, _, rfl, hQ, ⟨_, rfl⟩, hW, hsame.mono hC hK⟩
theorem Go.outJ (X : Stand p l e R s m args below meth c T locs cells slots) (hx : p.tables.exec = Jvm.exec) (hlk : meth.locks = false) {pc : Nat} {Ls : Array Slot} {z : Int64} {rest : List Value} (hret : meth.sig.returnType = some .long)
    (hd : decode c.code pc = .ok (.lreturn, 1)) (hQ : Q (some (.long z)) T.heap locs) (hC : cells ≤ C) (hK : slots ≤ K) : Go p e below (GO s Q C K) (T.setTop (mkF m pc Ls (.long z :: rest))) := by
  obtain ⟨fs, hr, hrun, hended, hW, hsame⟩ := X.leave (v := some (.long z)) (fun h => by rw [hret] at h; cases h) hlk
  exact ⟨_, _, retOut X hx hret rfl (Or.inr (Or.inl ⟨rfl, rfl, z, rfl⟩)) hd hr, hrun, hended, _, _, rfl, hQ, ⟨_, rfl⟩, hW, hsame.mono hC hK⟩
theorem own_narrow_ref (t : FieldType) {w : Value} (h : w.isRef = true) : narrow t w = w := by
  rcases ref_cases h with rfl | ⟨a, rfl⟩ <;> cases t <;> rfl
theorem own_fits_ref (t : FieldType) {w : Value} (h : w.isRef = true) (ht : t.isReference = true := by rfl) : fits t w = true := by
  rcases ref_cases h with rfl | ⟨a, rfl⟩ <;> cases t <;> first | rfl | (cases ht)
theorem own_cat_ref {w : Value} (h : w.isRef = true) : w.category = 1 := by
  rcases ref_cases h with rfl | ⟨a, rfl⟩ <;> rfl
theorem Go.outR (X : Stand p l e R s m args below meth c T locs cells slots) (hx : p.tables.exec = Jvm.exec) (hlk : meth.locks = false) {pc : Nat} {Ls : Array Slot} {w : Value} {t : FieldType} {rest : List Value} (hret : meth.sig.returnType = some t) (ht : t.isReference = true) (hw : w.isRef = true)
    (hd : decode c.code pc = .ok (.areturn, 1)) (hQ : Q (some w) T.heap locs) (hC : cells ≤ C) (hK : slots ≤ K) : Go p e below (GO s Q C K) (T.setTop (mkF m pc Ls (w :: rest))) := by
  obtain ⟨fs, hr, hrun, hended, hW, hsame⟩ := X.leave (v := some w) (fun h => by rw [hret] at h; cases h) hlk
  exact ⟨_, _, retOut X hx hret (own_narrow_ref t hw) (Or.inr (Or.inr (Or.inr (Or.inr ⟨rfl, ht, hw⟩)))) hd hr, hrun, hended, _, _, rfl, hQ, ⟨_, rfl⟩, hW, hsame.mono hC hK⟩
theorem Go.outU (X : Stand p l e R s m args below meth c T locs cells slots) (hx : p.tables.exec = Jvm.exec) (hlk : meth.locks = false) {pc : Nat} {Ls : Array Slot} (hret : meth.sig.returnType = none)
    (hd : decode c.code pc = .ok (.return_, 1)) (hQ : Q none T.heap locs) (hC : cells ≤ C) (hK : slots ≤ K) : Go p e below (GO s Q C K) (T.setTop (mkF m pc Ls [])) := by
  obtain ⟨fs, hr, hrun, hended, hW, hsame⟩ := X.leave (v := none) (fun _ => rfl) hlk
  exact ⟨_, _, X.returnOut hx hret hd hr, hrun, hended, _, _, rfl, hQ, ⟨_, rfl⟩, hW, hsame.mono hC hK⟩
def GOW (s : State) (Q : Option Value → Heap → List Loc → Prop) (C K : Nat) (o : Outcome) (t : State) : Prop := ∃ v L, o = .returned v ∧ Q v t.heap L ∧ ReturnedEndW s o t L C K
theorem Go.outW {vm₁ : Vm} {n : Nat} (X : Stand p l e R (s.setVm vm₁) m args below meth c T locs cells slots) (hS : s.Since vm₁ n) (hn : n ≤ T.heap.size) {v : Option Value} (hv : meth.sig.returnType = none → v = none) (hlk : meth.locks = false)
    (st : ∀ fs, (∀ (f : JFrame) (acts : List Action), f.method = m → f.locked = none → f.entered = [] → (doReturn e (T.setTop f) acts v).1 = T.setFrames fs) → Steps p.tables e below S (T.setFrames fs)) (hQ : Q v T.heap locs) (hC : cells ≤ C) (hK : slots ≤ K) : Go p e below (GOW s Q C K) S := by
  obtain ⟨fs, hr, hrun, hended, h1, h2, h3, h4⟩ := X.leaveW hS hn (v := v) hv hlk
  exact ⟨_, _, st fs hr, hrun, hended, _, _, rfl, hQ, h1, h2, h3, h4.mono hC hK⟩
theorem own_stand_mono {cells' slots' : Nat} (X : Stand p l e R s m args below meth c T locs cells slots) (h1 : cells ≤ cells') (h2 : slots ≤ slots') : Stand p l e R s m args below meth c T locs cells' slots' :=
  ⟨X.admits, X.cas, X.clock, X.frames, X.room, X.hears, X.method, X.code, X.here, X.tail, X.warmed, X.limits, X.bytes, X.same.mono h1 h2⟩
end Own
section Facts
variable {Z : State} {h h' h0 : Heap} {a b : Addr} {sl : Nat} {v : Value} {ws : List Addr}
theorem own_ext_refl (h : Heap) : Ext h h := ⟨Nat.le_refl _, fun _ _ q => q⟩
theorem own_ext_trans (O : Ext h0 h) (E : Ext h h') : Ext h0 h' := ⟨Nat.le_trans O.1 E.1, fun x c q => E.2 x c (O.2 x c q)⟩
theorem own_ext_keep (O : Ext h0 h) (K : Keep h h' ws) (g : ∀ x ∈ ws, h0.size ≤ x) : Ext h0 h' := ⟨Nat.le_trans O.1 K.1, fun x c q => K.2.1 x c (O.2 x c q) fun z => Nat.not_lt.mpr (g x z) (Array.getElem?_eq_some_iff.mp q).1⟩
theorem own_ext_wr (O : Ext h0 h) (W : Wr h h' a sl v) (g : h0.size ≤ a) : Ext h0 h' := own_ext_keep O (Keep.of_wr W) (allS g all0)
theorem own_irr (x : Int32) : ¬ x < x := fun h => Int32.lt_irrefl h
theorem own_fld {args : Array Value} {t : Term} {C n d : String} {k : Int32} (ev : t.eval args Z none [] Z = some (.ref a)) (hq : (Cond.eq (.field t C n d) (.int k)).value args Z none Z [] = some true) : Fld Z Z.heap a C n d (.int k) := by
  obtain ⟨x, y, h1, h2, h3, h4⟩ := cmp_v (Or.inl hq)
  have e2 : y = .int k := Option.some.inj (h2.symm.trans (Term.int_eval k))
  subst e2
  obtain ⟨z, rfl⟩ := h4
  have e3 : z = k := by simpa [Cond.value, h1, h2] using hq
  subst e3
  exact Fld.start ((fld_at ev).symm.trans h1)
theorem own_fldN {args : Array Value} {t : Term} {C n d : String} (ev : t.eval args Z none [] Z = some (.ref a)) (hq : (Cond.eq (.field t C n d) .null).value args Z none Z [] = some true) : Fld Z Z.heap a C n d .null :=
  Fld.start ((fld_at ev).symm.trans (null_v hq))
theorem own_len {args : Array Value} {t : Term} {z : Int32} {cl : Cell} {ty : FieldType} (ev : t.eval args Z none [] Z = some (.ref a)) (A : Arr Z Z.heap a cl ty) (hq : (Cond.eq (.length t) (.int z)).value args Z none Z [] = some true) : cl.slots.size < 2 ^ 31 ∧ cl.slots.size.toInt32 = z := by
  obtain ⟨x, y, h1, h2, h3, h4⟩ := cmp_v (Or.inl hq)
  have e2 : y = .int z := Option.some.inj (h2.symm.trans (Term.int_eval z))
  subst e2
  have ha : Z.arrayAt? a = some cl := A.fin (Vm.Alike.refl _)
  by_cases hl : cl.slots.size < 2 ^ 31
  · have e3 := Option.some.inj ((len_f ev ha hl).symm.trans h1)
    subst e3
    refine ⟨hl, ?_⟩
    simpa [Cond.value, h1, h2] using hq
  · exfalso
    simp [Term.eval, ev, ha] at h1
    exact hl h1.1
theorem own_elem {args : Array Value} {t u : Term} {i : Int32} {cl : Cell} {ty : FieldType} (ev : t.eval args Z none [] Z = some (.ref a)) (A : Arr Z Z.heap a cl ty) (eu : u.eval args Z none [] Z = some (.ref b)) (hq : (Cond.eq (.elem t (.int i)) u).value args Z none Z [] = some true) : cl.slots[i.toNatClampNeg]? = some (.ref b) := by
  obtain ⟨x, y, h1, h2, h3, h4⟩ := cmp_v (Or.inl hq)
  have e2 : y = .ref b := Option.some.inj (h2.symm.trans eu)
  subst e2
  have h5 := (elem_in h1 ev (Term.int_eval i) A.1).2
  have e3 : x = .ref b := gotT (eq_R h1 h2 h4.2 rfl) hq
  rw [← e3]
  exact h5
theorem own_and3 (k : Int32) : k &&& 3 = 0 ∨ k &&& 3 = 1 ∨ k &&& 3 = 2 ∨ k &&& 3 = 3 := by
  have h := c_mask k 3 2 (by decide) (by decide)
  simp only [← Int32.toInt_inj, Int32.reduceToInt]
  omega
theorem own_mod (x n : Int32) (hn : 0 < n.toInt) : 0 ≤ ((x &&& 2147483647) % n).toInt ∧ ((x &&& 2147483647) % n).toInt < n.toInt := by
  have h1 := (c_and x 2147483647 (by decide)).1
  have h2 := (c_iremV (x &&& 2147483647) n).1 h1 hn
  exact ⟨h2.1, h2.2.1⟩
theorem own_cp0 {p : Program} {l : Launch} {e : Env} {R : Room} {s : State} {m : MethodId} {args : Array Value} {below : List Frame} {meth : Method} {c : Code} {T : State} {locs : List Loc} {cells slots : Nat} {a0 : Array Value} {own : String} {index : Nat} (X : Stand p l e R s m args below meth c T locs cells slots) (hx : p.tables.exec = Jvm.exec) (hZ : Z.Warmed39 s.vm) (hown : s.vm.findClass own = some m.cls)
    (w1 : (Cond.methodLink own index Jvm.Stand.acN).before a0 Z = true) (w2 : (Cond.native Jvm.Stand.acN).before a0 Z = true) (w3 : (Cond.static Jvm.Stand.acN).before a0 Z = true) (w4 : (Cond.initialized "java/lang/System").before a0 Z = true) (eT : T.heap = h)
    {k k' : ClassId} {ty : FieldType} {z z' : Int32} {vs vd : List Value} {dv dd : Value} (A : Arv Z h a k ty z vs dv) (B : Arv Z h b k' ty z' vd dd) (hty : refKind ty = false) {nn : Int32} (hnn : nn = 0)
    {g : JFrame} (hg : g.method = m) (hsize : g.locals.size = c.maxLocals) {rest : List Value} (hs : g.stack = .int nn :: .int 0 :: .ref b :: .int 0 :: .ref a :: rest) (hd : decode c.code g.pc = .ok (.invokestatic index, 3))
    (hf : 1 ≤ R.frames) {W : Nat} (hW : 2 * g.monitorRoom + (rest.map fun v => v.category).sum ≤ W) (hlo : W + (nativeFrameWords "java/lang/System" "arraycopy" 5 + 11) ≤ R.locals) :
    ∃ T', Stand p l e R s m args below meth c T' locs cells slots ∧ T'.heap = h ∧ ∀ target, Steps p.tables e below (T'.setTop { g with pc := g.pc + 3, stack := rest }) target → Steps p.tables e below (T.setTop g) target := by
  subst hnn
  obtain ⟨cs, As, -, Ss, -, Hs, Gs⟩ := A
  obtain ⟨cd, Ad, qd, Sd, Nd, Hd, Gd⟩ := B
  obtain ⟨os, ks, hks, sc, hsk⟩ := State.isArrayOf_alike hZ.alike As.2.1
  obtain ⟨od, kd, hkd, dc, hdk⟩ := State.isArrayOf_alike hZ.alike Ad.2.1
  have z0 : (0 : Int32).toInt = 0 := rfl
  obtain ⟨vm₁, hW₁, X', st⟩ := X.arraycopyK (srcPos := 0) (destPos := 0) (n := 0) hx hown (mvT hZ w1) (mvT hZ w2) (mvT hZ w3) (mvT hZ w4) (by rw [eT]; exact As.1) (by rw [eT]; exact Ad.1) os od As.2.2 Ad.2.2 hks hkd hsk hdk
    (by simp [hty]) (by decide) (by decide) (by decide) (by rw [z0]; omega) (by rw [z0]; omega) (fun vm₁ hw i hi => absurd hi (Nat.not_lt_zero i)) hg hsize hs hd hf (by omega)
  have e1 : copied cs cd 0 0 0 = cd := rfl
  have e2 : copyLocs b (0 : Int32).toNatClampNeg (0 : Int32).toNatClampNeg = [] := rfl
  rw [e1] at X' st
  rw [e2, List.append_nil] at X'
  refine ⟨_, X', ?_, st⟩
  show (T.heap.setIfInBounds b cd) = h
  rw [eT]
  refine Array.ext_getElem? fun i => ?_
  by_cases q : b = i
  · subst q
    rw [Array.getElem?_setIfInBounds_self_of_lt (Array.getElem?_eq_some_iff.mp Ad.1).1]
    exact Ad.1.symm
  · rw [Array.getElem?_setIfInBounds_ne q]
/-- an array of which the length alone is said -/
def own_AL (Z : State) (h : Heap) (a : Addr) (ty : FieldType) (z : Int32) : Prop := ∃ k vs d, Arv Z h a k ty z vs d
theorem own_AL.of {k : ClassId} {ty : FieldType} {z : Int32} {vs : List Value} {d : Value} (F : Arv Z h a k ty z vs d) : own_AL Z h a ty z := ⟨k, vs, d, F⟩
theorem own_AL.lt {ty : FieldType} {z : Int32} (F : own_AL Z h a ty z) : a < h.size := by obtain ⟨k, vs, d, F⟩ := F; exact F.lt
theorem own_AL.ext {ty : FieldType} {z : Int32} (F : own_AL Z h a ty z) (E : Ext h h') : own_AL Z h' a ty z := by obtain ⟨k, vs, d, F⟩ := F; exact ⟨k, vs, d, F.ext E⟩
theorem own_AL.other {ty : FieldType} {z : Int32} (F : own_AL Z h b ty z) (W : Wr h h' a sl v) (q : b ≠ a) : own_AL Z h' b ty z := by obtain ⟨k, vs, d, F⟩ := F; exact ⟨k, vs, d, F.other W q⟩
theorem own_AL.keep {ty : FieldType} {z : Int32} (F : own_AL Z h a ty z) (K : Keep h h' ws) (q : a ∉ ws) : own_AL Z h' a ty z := by obtain ⟨k, vs, d, F⟩ := F; exact ⟨k, vs, d, F.keep K q⟩
theorem own_AL.len {ty : FieldType} {z : Int32} (F : own_AL Z h a ty z) (n : Nat) : ∃ k vs d, Arv Z h a k ty z vs d ∧ n ≤ vs.length := by
  obtain ⟨k, vs, d, F⟩ := F
  exact ⟨k, vs ++ List.replicate n d, d, F.pad (pad_rep vs d n), by simp⟩
theorem own_AL.nn {ty : FieldType} {z : Int32} (F : own_AL Z h a ty z) : 0 ≤ z.toInt := by
  obtain ⟨k, vs, d, c, A, q1, q2, q3, r⟩ := F
  rw [Int32.lt_iff_toInt_lt] at q3
  exact Int.not_lt.mp q3
/-- a copy into one array leaves every array's length -/
theorem own_AL.cp {k : ClassId} {ty ty' : FieldType} {z z' : Int32} {vs : List Value} {d : Value} (F : own_AL Z h a ty z) (B : own_AL Z h b ty' z') (K : Keep h h' [b]) (V : Arv Z h' b k ty' z' vs d) : own_AL Z h' a ty z := by
  by_cases q : a = b
  · subst q
    obtain ⟨k1, vs1, d1, c1, A1, e1, s1, n1, -⟩ := F
    obtain ⟨k2, vs2, d2, c2, A2, e2, s2, n2, -⟩ := B
    have ec : c1 = c2 := Option.some.inj (A1.1.symm.trans A2.1)
    subst ec
    obtain ⟨-, w1, g1, p1, g2⟩ := A1.2.1
    obtain ⟨-, w2, g3, p2, g4⟩ := A2.2.1
    have ew : w1 = w2 := Option.some.inj (g1.symm.trans g3)
    subst ew
    have et : ty = ty' := by rw [g2] at g4; cases g4; rfl
    have ez : z = z' := by rw [← (back32 n1).1, ← (back32 n2).1, ← s1, ← s2]
    subst et ez
    exact ⟨_, _, _, V⟩
  · exact F.keep K (ninS q nin0)
theorem own_IB {vm : Vm} (hint : vm.interned = Z.vm.interned) : IB Z vm [] := ⟨#[], by rw [hint]; simp, fun q hq => by simp at hq⟩
theorem own_backOfSI {p : Program} {l : Launch} {e : Env} {R : Room} {s : State} {args : Array Value} {below : List Frame} {a0 : Array Value} {y : MethodName} {bytes : ByteArray} {maxL : Nat} {ret : Option FieldType} {rm : Room} {len W : Nat} {as' : Array Value} {Q : Option Value → Heap → List Loc → Prop} (hint : s.vm.interned = Z.vm.interned)
    (hM : MetFree l y (head1 [Cond.code y bytes maxL ret] rm) (fun a U => a = as' ∧ Z.Warmed39 U.vm ∧ U.heap = h ∧ U.vm.interned = Z.vm.interned) (fun _ _ _ _ _ => True) (fun _ U o U' => ∃ v L, o = .returned v ∧ Q v U'.heap L ∧ ReturnedEndW U o U' L rm.cells rm.slots))
    (hZ : Z.Warmed39 s.vm) (wc : (Cond.code y bytes maxL ret).before a0 Z = true) (wz : (Cond.initialized y.cls).before a0 Z = true) (hf : rm.frames + 1 ≤ R.frames) (hl : W + (maxL + 11) + rm.locals ≤ R.locals) :
    BackS l R p e below s args y len W (fun A a => a = as' ∧ A.U.heap = h ∧ A.cells + rm.cells ≤ R.cells ∧ A.slots + rm.slots ≤ R.slots)
      (fun A _ v B => ∃ L, Q v B.U.heap L ∧ B.locs = A.locs ++ L ∧ B.cells = A.cells + rm.cells ∧ B.slots = A.slots + rm.slots) :=
  BackS.of_freeW (bytes := bytes) (maxL := maxL) (ret := ret) (E := fun _ _ o t L k n => k = rm.cells ∧ n = rm.slots ∧ ∃ v, o = .returned v ∧ Q v t.heap L) hM hf hl
    (fun m meth c A a Y hp => have hU : Z.Warmed39 A.U.vm := wtrans hZ Y.warmed
      ⟨by show (Cond.and _ .tt).before a A.U = true; rw [Cond.before_and, mv hU wc]; rfl, mv hU wc, mv hU wz, hp.2.2.1, hp.2.2.2⟩)
    (fun m meth c A a g mk Y hp => ⟨hp.1, wtrans hZ Y.warmed, hp.2.1, Y.warmed.interned_eq.trans hint⟩) (fun _ _ _ _ _ _ _ _ _ => trivial)
    (fun _ _ _ _ ⟨v, L, h1, h2, h3⟩ => ⟨L, _, _, h3, rfl, rfl, v, h1, h2⟩)
    (fun m meth c A a g mk v t L k n Y hp _ _ ⟨e1, e2, v', e3, e4⟩ => by cases e3; subst e1 e2; exact ⟨L, e4, rfl, rfl, rfl⟩)
end Facts
end Jvm.Own
namespace Jvm.Pilot.@@N@@
open Jvm Jvm.ClassFile Sem Op Lib Jvm.Free Jvm.Stand Jvm.LawKit Jvm.RoadKit Jvm.Own Bundle Jvm.Pilot.@@N@@.Jvm.D
def own_min (a b : Int32) : Int32 := if b < a then b else a
def own_max (a b : Int32) : Int32 := if a < b then b else a
def own_pr (k x lo mid hi : Int32) : Int32 := if (0 < k ∧ lo = x) ∨ (1 < k ∧ mid = x) ∨ (2 < k ∧ hi = x) then 0 else 1
theorem own_recopy {k : Int32} (hk : k = 0 ∨ k = 1 ∨ k = 2 ∨ k = 3) (a b c d : Value) : [a, b, c].take (0 : Int32).toNatClampNeg ++ ((List.range k.toNatClampNeg).map fun i => [a, b, c].getD ((0 : Int32).toNatClampNeg + i) d) ++ [a, b, c].drop ((0 : Int32).toNatClampNeg + k.toNatClampNeg) = [a, b, c] := by
  rcases hk with rfl | rfl | rfl | rfl <;> rfl
theorem own_k_nn {k : Int32} (hk : k = 0 ∨ k = 1 ∨ k = 2 ∨ k = 3) : ¬ k < 0 ∧ (0 : Int32).toNatClampNeg + k.toNatClampNeg ≤ (3 : Int32).toNatClampNeg ∧ (0 : Int32).toNatClampNeg + k.toNatClampNeg ≤ 3 := by
  rcases hk with rfl | rfl | rfl | rfl <;> decide
theorem ef_rmMin (m : MethodId) (x0 : Int32) (x1 : Int32) : entryFrame m #[(.int x0), (.int x1)] 2 = mkF m 0 #[.val (.int x0), .val (.int x1)] [] := by first | (simp [entryFrame, mkF, argsToLocals, Value.category]; done) | rfl
def Q_rmMin (Z : State) (a : Int32) (b : Int32) (h0 : Heap) (v : Option Value) (h : Heap) (L : List Loc) : Prop := v = some (.int (own_min a b)) ∧ L = [] ∧ h = h0
theorem d1_0 : decode jdk_29_method_69_code 0 = .ok (.iload_n 0, 1) := by decide +kernel
theorem d1_1 : decode jdk_29_method_69_code 1 = .ok (.iload_n 1, 1) := by decide +kernel
theorem d1_2 : decode jdk_29_method_69_code 2 = .ok (.if_icmp .gt 7, 3) := by decide +kernel
theorem d1_9 : decode jdk_29_method_69_code 9 = .ok (.iload_n 1, 1) := by decide +kernel
theorem d1_10 : decode jdk_29_method_69_code 10 = .ok (.ireturn, 1) := by decide +kernel
theorem d1_5 : decode jdk_29_method_69_code 5 = .ok (.iload_n 0, 1) := by decide +kernel
theorem d1_6 : decode jdk_29_method_69_code 6 = .ok (.goto 4, 3) := by decide +kernel
set_option maxRecDepth 65536 in
set_option maxHeartbeats 40000000 in
theorem rmMin (l : Launch) (Z : State) (a0 : Array Value) (hw : ∀ d ∈ tables_1, d.before a0 Z = true) (ws : List Jvm.Cond) (a : Int32) (b : Int32) (h0 : Heap) (O0 : Ext Z.heap h0) :
    MetFree l (⟨"java/lang/Math", "min", "(II)I"⟩ : MethodName) (head1 (Jvm.Cond.code (⟨"java/lang/Math", "min", "(II)I"⟩ : MethodName) jdk_29_method_69_code 2 (some .int) :: ws) ({ frames := 0, cells := 0, slots := 0, locals := 0 } : Room)) (fun av' U => av' = #[(.int a), (.int b)] ∧ Z.Warmed39 U.vm ∧ U.heap = h0) (fun _ _ _ _ _ => True) (fun _ U o U' => ∃ v L, o = .returned v ∧ Q_rmMin Z a b h0 v U'.heap L ∧ FrameEnd U o U' L ({ frames := 0, cells := 0, slots := 0, locals := 0 } : Room).cells ({ frames := 0, cells := 0, slots := 0, locals := 0 } : Room).slots) := by
  refine MetFree.of_bodySF (Jvm.Free.JP.mathPlain rfl (by decide +kernel)) hisR ?_
  intro p e s m args below meth c s₁ Bd hml0 hP hK
  obtain ⟨rfl, hZ, hh⟩ := hP
  have hx := Bd.exec
  have hby := Bd.bytes
  have hret := Bd.returns
  have hlk : meth.locks = false := Bd.notSynchronized
  have hml : c.maxLocals = 2 := hml0
  have hown : s.vm.findClass "java/lang/Math" = some m.cls := findClass_of_methodNamed Bd.named
  have hnm := (name_of_methodNamed Bd.named Bd.method).1
  have X0 : Stand p l e ({ frames := 0, cells := 0, slots := 0, locals := 0 } : Room) s m #[(.int a), (.int b)] below meth c s₁ [] 0 0 := Stand.of_body Bd
  -- the walk
  have e0 : s₁.heap = h0 := by rw [← hh, Bd.state]; rfl
  have N0 := Fr.nil Z.heap.size
  show Go p e below (GO s (Q_rmMin Z a b h0) ({ frames := 0, cells := 0, slots := 0, locals := 0 } : Room).cells ({ frames := 0, cells := 0, slots := 0, locals := 0 } : Room).slots) (s₁.setTop (entryFrame m #[(.int a), (.int b)] 2))
  refine Go.st (fun t' k' => castTop (ef_rmMin m a b) k') ?_
  show Go p e below _ (s₁.setTop (mkF m 0 #[.val (.int a), .val (.int b)] []))
  refine Go.st (fun t' k' => XS.iloadN X0.here hx rfl (hb hby d1_0) rfl k') ?_
  show Go p e below _ (s₁.setTop (mkF m 1 #[.val (.int a), .val (.int b)] [(.int a)]))
  refine Go.st (fun t' k' => XS.iloadN X0.here hx rfl (hb hby d1_1) rfl k') ?_
  show Go p e below _ (s₁.setTop (mkF m 2 #[.val (.int a), .val (.int b)] [(.int b), (.int a)]))
  by_cases hc2_101 : b < a
  · refine Go.st (fun t' k' => XS.icmpYes X0.here hx rfl (pc0 := 2) (pc' := 9) rfl (hb hby d1_2) rfl (tlt hc2_101).2.2.1 (by decide) (by decide) k') ?_
    show Go p e below _ (s₁.setTop (mkF m 9 #[.val (.int a), .val (.int b)] []))
    refine Go.st (fun t' k' => XS.iloadN X0.here hx rfl (hb hby d1_9) rfl k') ?_
    show Go p e below _ (s₁.setTop (mkF m 10 #[.val (.int a), .val (.int b)] [(.int b)]))
    exact Go.outI X0 hx hlk hret (hb hby d1_10) (Q := Q_rmMin Z a b h0) (by rw [e0]; exact ⟨(by simp [own_min, hc2_101]), rfl, rfl⟩) (by decide) (by decide)
  · refine Go.st (fun t' k' => XS.icmpNo X0.here hx rfl (hb hby d1_2) rfl (flt hc2_101).2.2.1 k') ?_
    show Go p e below _ (s₁.setTop (mkF m 5 #[.val (.int a), .val (.int b)] []))
    refine Go.st (fun t' k' => XS.iloadN X0.here hx rfl (hb hby d1_5) rfl k') ?_
    show Go p e below _ (s₁.setTop (mkF m 6 #[.val (.int a), .val (.int b)] [(.int a)]))
    refine Go.st (fun t' k' => XS.goto X0.here hx rfl (pc0 := 6) (pc' := 10) rfl (hb hby d1_6) (by decide) (by decide) k') ?_
    show Go p e below _ (s₁.setTop (mkF m 10 #[.val (.int a), .val (.int b)] [(.int a)]))
    exact Go.outI X0 hx hlk hret (hb hby d1_10) (Q := Q_rmMin Z a b h0) (by rw [e0]; exact ⟨(by simp [own_min, hc2_101]), rfl, rfl⟩) (by decide) (by decide)
theorem ef_rmMax (m : MethodId) (x0 : Int32) (x1 : Int32) : entryFrame m #[(.int x0), (.int x1)] 2 = mkF m 0 #[.val (.int x0), .val (.int x1)] [] := by first | (simp [entryFrame, mkF, argsToLocals, Value.category]; done) | rfl
def Q_rmMax (Z : State) (a : Int32) (b : Int32) (h0 : Heap) (v : Option Value) (h : Heap) (L : List Loc) : Prop := v = some (.int (own_max a b)) ∧ L = [] ∧ h = h0
theorem d2_0 : decode jdk_29_method_65_code 0 = .ok (.iload_n 0, 1) := by decide +kernel
theorem d2_1 : decode jdk_29_method_65_code 1 = .ok (.iload_n 1, 1) := by decide +kernel
theorem d2_2 : decode jdk_29_method_65_code 2 = .ok (.if_icmp .lt 7, 3) := by decide +kernel
theorem d2_9 : decode jdk_29_method_65_code 9 = .ok (.iload_n 1, 1) := by decide +kernel
theorem d2_10 : decode jdk_29_method_65_code 10 = .ok (.ireturn, 1) := by decide +kernel
theorem d2_5 : decode jdk_29_method_65_code 5 = .ok (.iload_n 0, 1) := by decide +kernel
theorem d2_6 : decode jdk_29_method_65_code 6 = .ok (.goto 4, 3) := by decide +kernel
set_option maxRecDepth 65536 in
set_option maxHeartbeats 40000000 in
theorem rmMax (l : Launch) (Z : State) (a0 : Array Value) (hw : ∀ d ∈ tables_1, d.before a0 Z = true) (ws : List Jvm.Cond) (a : Int32) (b : Int32) (h0 : Heap) (O0 : Ext Z.heap h0) :
    MetFree l (⟨"java/lang/Math", "max", "(II)I"⟩ : MethodName) (head1 (Jvm.Cond.code (⟨"java/lang/Math", "max", "(II)I"⟩ : MethodName) jdk_29_method_65_code 2 (some .int) :: ws) ({ frames := 0, cells := 0, slots := 0, locals := 0 } : Room)) (fun av' U => av' = #[(.int a), (.int b)] ∧ Z.Warmed39 U.vm ∧ U.heap = h0) (fun _ _ _ _ _ => True) (fun _ U o U' => ∃ v L, o = .returned v ∧ Q_rmMax Z a b h0 v U'.heap L ∧ FrameEnd U o U' L ({ frames := 0, cells := 0, slots := 0, locals := 0 } : Room).cells ({ frames := 0, cells := 0, slots := 0, locals := 0 } : Room).slots) := by
  refine MetFree.of_bodySF (Jvm.Free.JP.mathPlain rfl (by decide +kernel)) hisR ?_
  intro p e s m args below meth c s₁ Bd hml0 hP hK
  obtain ⟨rfl, hZ, hh⟩ := hP
  have hx := Bd.exec
  have hby := Bd.bytes
  have hret := Bd.returns
  have hlk : meth.locks = false := Bd.notSynchronized
  have hml : c.maxLocals = 2 := hml0
  have hown : s.vm.findClass "java/lang/Math" = some m.cls := findClass_of_methodNamed Bd.named
  have hnm := (name_of_methodNamed Bd.named Bd.method).1
  have X0 : Stand p l e ({ frames := 0, cells := 0, slots := 0, locals := 0 } : Room) s m #[(.int a), (.int b)] below meth c s₁ [] 0 0 := Stand.of_body Bd
  -- the walk
  have e0 : s₁.heap = h0 := by rw [← hh, Bd.state]; rfl
  have N0 := Fr.nil Z.heap.size
  show Go p e below (GO s (Q_rmMax Z a b h0) ({ frames := 0, cells := 0, slots := 0, locals := 0 } : Room).cells ({ frames := 0, cells := 0, slots := 0, locals := 0 } : Room).slots) (s₁.setTop (entryFrame m #[(.int a), (.int b)] 2))
  refine Go.st (fun t' k' => castTop (ef_rmMax m a b) k') ?_
  show Go p e below _ (s₁.setTop (mkF m 0 #[.val (.int a), .val (.int b)] []))
  refine Go.st (fun t' k' => XS.iloadN X0.here hx rfl (hb hby d2_0) rfl k') ?_
  show Go p e below _ (s₁.setTop (mkF m 1 #[.val (.int a), .val (.int b)] [(.int a)]))
  refine Go.st (fun t' k' => XS.iloadN X0.here hx rfl (hb hby d2_1) rfl k') ?_
  show Go p e below _ (s₁.setTop (mkF m 2 #[.val (.int a), .val (.int b)] [(.int b), (.int a)]))
  by_cases hc2_101 : a < b
  · refine Go.st (fun t' k' => XS.icmpYes X0.here hx rfl (pc0 := 2) (pc' := 9) rfl (hb hby d2_2) rfl (tlt hc2_101).1 (by decide) (by decide) k') ?_
    show Go p e below _ (s₁.setTop (mkF m 9 #[.val (.int a), .val (.int b)] []))
    refine Go.st (fun t' k' => XS.iloadN X0.here hx rfl (hb hby d2_9) rfl k') ?_
    show Go p e below _ (s₁.setTop (mkF m 10 #[.val (.int a), .val (.int b)] [(.int b)]))
    exact Go.outI X0 hx hlk hret (hb hby d2_10) (Q := Q_rmMax Z a b h0) (by rw [e0]; exact ⟨(by simp [own_max, hc2_101]), rfl, rfl⟩) (by decide) (by decide)
  · refine Go.st (fun t' k' => XS.icmpNo X0.here hx rfl (hb hby d2_2) rfl (flt hc2_101).1 k') ?_
    show Go p e below _ (s₁.setTop (mkF m 5 #[.val (.int a), .val (.int b)] []))
    refine Go.st (fun t' k' => XS.iloadN X0.here hx rfl (hb hby d2_5) rfl k') ?_
    show Go p e below _ (s₁.setTop (mkF m 6 #[.val (.int a), .val (.int b)] [(.int a)]))
    refine Go.st (fun t' k' => XS.goto X0.here hx rfl (pc0 := 6) (pc' := 10) rfl (hb hby d2_6) (by decide) (by decide) k') ?_
    show Go p e below _ (s₁.setTop (mkF m 10 #[.val (.int a), .val (.int b)] [(.int a)]))
    exact Go.outI X0 hx hlk hret (hb hby d2_10) (Q := Q_rmMax Z a b h0) (by rw [e0]; exact ⟨(by simp [own_max, hc2_101]), rfl, rfl⟩) (by decide) (by decide)
theorem ef_rmInit (m : MethodId) (x0 : Addr) : entryFrame m #[(.ref x0)] 1 = mkF m 0 #[.val (.ref x0)] [] := by first | (simp [entryFrame, mkF, argsToLocals, Value.category]; done) | rfl
def Q_rmInit (Z : State) (a : Addr) (w_NO_BYTES : Addr) (w_NO_NUMBERS : Addr) (h0 : Heap) (v : Option Value) (h : Heap) (L : List Loc) : Prop := v = none ∧ Fr Z.heap.size L ∧ Ext Z.heap h ∧ Keep h0 h [a] ∧ Fld Z h a "com/example/harakeke/harakeke/model/Record" "bytes" "[B" (.ref w_NO_BYTES) ∧ Fld Z h a "com/example/harakeke/harakeke/model/Record" "ends" "[I" (.ref w_NO_NUMBERS) ∧ Fld Z h a "com/example/harakeke/harakeke/model/Record" "unprintable" "[I" (.ref w_NO_NUMBERS) ∧ Fld Z h a "com/example/harakeke/harakeke/model/Record" "line" "I" (.int (0 : Int32)) ∧ Fld Z h a "com/example/harakeke/harakeke/model/Record" "offset" "J" (.long (0 : Int64)) ∧ Fld Z h a "com/example/harakeke/harakeke/model/Record" "length" "J" (.long (0 : Int64)) ∧ Fld Z h a "com/example/harakeke/harakeke/model/Record" "kept" "I" (.int (0 : Int32)) ∧ Fld Z h a "com/example/harakeke/harakeke/model/Record" "fieldCount" "J" (.long (0 : Int64)) ∧ Fld Z h a "com/example/harakeke/harakeke/model/Record" "unprintableCount" "I" (.int (0 : Int32))
theorem pn_com_example_harakeke_harakeke_model_Record : plainName "com/example/harakeke/harakeke/model/Record" = true := by first | (simp [plainName, overriddenIn]; done) | decide +kernel
theorem d3_0 : decode prog_52_method_1_code 0 = .ok (.aload_n 0, 1) := by decide +kernel
theorem d3_1 : decode prog_52_method_1_code 1 = .ok (.invokespecial 1, 3) := by decide +kernel
theorem d3_4 : decode prog_52_method_1_code 4 = .ok (.aload_n 0, 1) := by decide +kernel
theorem d3_5 : decode prog_52_method_1_code 5 = .ok (.getstatic 7, 3) := by decide +kernel
theorem d3_8 : decode prog_52_method_1_code 8 = .ok (.putfield 13, 3) := by decide +kernel
theorem d3_11 : decode prog_52_method_1_code 11 = .ok (.aload_n 0, 1) := by decide +kernel
theorem d3_12 : decode prog_52_method_1_code 12 = .ok (.getstatic 16, 3) := by decide +kernel
theorem d3_15 : decode prog_52_method_1_code 15 = .ok (.putfield 20, 3) := by decide +kernel
theorem d3_18 : decode prog_52_method_1_code 18 = .ok (.aload_n 0, 1) := by decide +kernel
theorem d3_19 : decode prog_52_method_1_code 19 = .ok (.getstatic 16, 3) := by decide +kernel
theorem d3_22 : decode prog_52_method_1_code 22 = .ok (.putfield 23, 3) := by decide +kernel
theorem d3_25 : decode prog_52_method_1_code 25 = .ok (.return_, 1) := by decide +kernel
set_option maxRecDepth 65536 in
set_option maxHeartbeats 40000000 in
theorem rmInit (l : Launch) (Z : State) (a0 : Array Value) (hw : ∀ d ∈ tables_1, d.before a0 Z = true) (ws : List Jvm.Cond) (a : Addr) (w_NO_BYTES : Addr) (w_NO_NUMBERS : Addr) (h0 : Heap) (O0 : Ext Z.heap h0) (S_NO_BYTES : Sta Z Z.heap "com/example/harakeke/harakeke/model/Record" "NO_BYTES" "[B" (.ref w_NO_BYTES)) (S_NO_NUMBERS : Sta Z Z.heap "com/example/harakeke/harakeke/model/Record" "NO_NUMBERS" "[I" (.ref w_NO_NUMBERS)) (Ea : Exa Z h0 a "com/example/harakeke/harakeke/model/Record") (Ga : Z.heap.size ≤ a) (Fb : Fld Z h0 a "com/example/harakeke/harakeke/model/Record" "bytes" "[B" .null) (Fe : Fld Z h0 a "com/example/harakeke/harakeke/model/Record" "ends" "[I" .null) (Fu : Fld Z h0 a "com/example/harakeke/harakeke/model/Record" "unprintable" "[I" .null) (Fline : Fld Z h0 a "com/example/harakeke/harakeke/model/Record" "line" "I" (.int (0 : Int32))) (Foffset : Fld Z h0 a "com/example/harakeke/harakeke/model/Record" "offset" "J" (.long (0 : Int64))) (Flength : Fld Z h0 a "com/example/harakeke/harakeke/model/Record" "length" "J" (.long (0 : Int64))) (Fkept : Fld Z h0 a "com/example/harakeke/harakeke/model/Record" "kept" "I" (.int (0 : Int32))) (FfieldCount : Fld Z h0 a "com/example/harakeke/harakeke/model/Record" "fieldCount" "J" (.long (0 : Int64))) (FunprintableCount : Fld Z h0 a "com/example/harakeke/harakeke/model/Record" "unprintableCount" "I" (.int (0 : Int32))) :
    MetFree l (⟨"com/example/harakeke/harakeke/model/Record", "<init>", "()V"⟩ : MethodName) (head1 (Jvm.Cond.code (⟨"com/example/harakeke/harakeke/model/Record", "<init>", "()V"⟩ : MethodName) prog_52_method_1_code 1 none :: ws) ({ frames := 1, cells := 0, slots := 0, locals := 12 } : Room)) (fun av' U => av' = #[(.ref a)] ∧ Z.Warmed39 U.vm ∧ U.heap = h0) (fun _ _ _ _ _ => True) (fun _ U o U' => ∃ v L, o = .returned v ∧ Q_rmInit Z a w_NO_BYTES w_NO_NUMBERS h0 v U'.heap L ∧ FrameEnd U o U' L ({ frames := 1, cells := 0, slots := 0, locals := 12 } : Room).cells ({ frames := 1, cells := 0, slots := 0, locals := 12 } : Room).slots) := by
  refine MetFree.of_bodySF (plainFor_of_name pn_com_example_harakeke_harakeke_model_Record) hisR ?_
  intro p e s m args below meth c s₁ Bd hml0 hP hK
  obtain ⟨rfl, hZ, hh⟩ := hP
  have hx := Bd.exec
  have hby := Bd.bytes
  have hret := Bd.returns
  have hlk : meth.locks = false := Bd.notSynchronized
  have hml : c.maxLocals = 1 := hml0
  have hown : s.vm.findClass "com/example/harakeke/harakeke/model/Record" = some m.cls := findClass_of_methodNamed Bd.named
  have hnm := (name_of_methodNamed Bd.named Bd.method).1
  have X0 : Stand p l e ({ frames := 1, cells := 0, slots := 0, locals := 12 } : Room) s m #[(.ref a)] below meth c s₁ [] 0 0 := Stand.of_body Bd
  -- the walk
  have e0 : s₁.heap = h0 := by rw [← hh, Bd.state]; rfl
  have N0 := Fr.nil Z.heap.size
  have K0 := Keep.refl h0 [a]
  show Go p e below (GO s (Q_rmInit Z a w_NO_BYTES w_NO_NUMBERS h0) ({ frames := 1, cells := 0, slots := 0, locals := 12 } : Room).cells ({ frames := 1, cells := 0, slots := 0, locals := 12 } : Room).slots) (s₁.setTop (entryFrame m #[(.ref a)] 1))
  refine Go.st (fun t' k' => castTop (ef_rmInit m a) k') ?_
  show Go p e below _ (s₁.setTop (mkF m 0 #[.val (.ref a)] []))
  refine Go.st (fun t' k' => XS.aloadN X0.here hx rfl (hb hby d3_0) rfl rfl k') ?_
  show Go p e below _ (s₁.setTop (mkF m 1 #[.val (.ref a)] [(.ref a)]))
  obtain ⟨T101, X101, e101, st101⟩ := initO X0 hx hZ hown (hw _ (List.mem_of_getElem? (i := 15) rfl)) (hw _ (List.mem_of_getElem? (i := 16) rfl)) (hw _ (List.mem_of_getElem? (i := 17) rfl)) e0 (g := (mkF m 1 #[.val (.ref a)] [(.ref a)])) rfl (by rw [hml]; rfl) rfl (hb hby d3_1) (by decide) (W := 0) (by show 2 * 0 + _ ≤ _; exact Nat.le_of_eq rfl) (by decide)
  refine Go.st st101 ?_
  show Go p e below _ (T101.setTop (mkF m 4 #[.val (.ref a)] []))
  refine Go.st (fun t' k' => XS.aloadN X101.here hx rfl (hb hby d3_4) rfl rfl k') ?_
  show Go p e below _ (T101.setTop (mkF m 5 #[.val (.ref a)] [(.ref a)]))
  obtain ⟨T102, X102, e102, st102⟩ := getS2 X101 hx hZ hown (host := "") (Or.inl (hw _ (List.mem_of_getElem? (i := 18) rfl))) Via.refl e101 (S_NO_BYTES.ext O0) (g := (mkF m 5 #[.val (.ref a)] [(.ref a)])) rfl (hb hby d3_5)
  refine Go.st st102 ?_
  show Go p e below _ (T102.setTop (mkF m 8 #[.val (.ref a)] [(.ref w_NO_BYTES), (.ref a)]))
  obtain ⟨T103, h103, X103, e103, W103, st103⟩ := putF X102 hx hZ hown (host := "") (Or.inl (hw _ (List.mem_of_getElem? (i := 20) rfl))) Via.refl e102 Fb Ea (Or.inl (hw _ (List.mem_of_getElem? (i := 21) rfl))) (hw _ (List.mem_of_getElem? (i := 10) rfl)) (ty := (.array .byte)) (by decide) rfl rfl (g := (mkF m 8 #[.val (.ref a)] [(.ref w_NO_BYTES), (.ref a)])) rfl rfl (hb hby d3_8)
  refine Go.st st103 ?_
  have Fw103 : Fld Z h103 a "com/example/harakeke/harakeke/model/Record" "bytes" "[B" (.ref w_NO_BYTES) := Fb.same W103
  have Ea_h104 := Ea.wr W103
  have Fe_h104 := Fe.other W103 (Or.inr (slot_ne (Or.inl (hw _ (List.mem_of_getElem? (i := 25) rfl))) (Or.inl (hw _ (List.mem_of_getElem? (i := 21) rfl))) (by decide) (t := (.array .int)) (t' := (.array .byte)) (by decide) (by decide)))
  have Fu_h104 := Fu.other W103 (Or.inr (slot_ne (Or.inl (hw _ (List.mem_of_getElem? (i := 27) rfl))) (Or.inl (hw _ (List.mem_of_getElem? (i := 21) rfl))) (by decide) (t := (.array .int)) (t' := (.array .byte)) (by decide) (by decide)))
  have Fline_h104 := Fline.other W103 (Or.inr (slot_ne (Or.inl (hw _ (List.mem_of_getElem? (i := 39) rfl))) (Or.inl (hw _ (List.mem_of_getElem? (i := 21) rfl))) (by decide) (t := .int) (t' := (.array .byte)) (by decide) (by decide)))
  have Foffset_h104 := Foffset.other W103 (Or.inr (slot_ne (Or.inl (hw _ (List.mem_of_getElem? (i := 41) rfl))) (Or.inl (hw _ (List.mem_of_getElem? (i := 21) rfl))) (by decide) (t := .long) (t' := (.array .byte)) (by decide) (by decide)))
  have Flength_h104 := Flength.other W103 (Or.inr (slot_ne (Or.inl (hw _ (List.mem_of_getElem? (i := 43) rfl))) (Or.inl (hw _ (List.mem_of_getElem? (i := 21) rfl))) (by decide) (t := .long) (t' := (.array .byte)) (by decide) (by decide)))
  have Fkept_h104 := Fkept.other W103 (Or.inr (slot_ne (Or.inl (hw _ (List.mem_of_getElem? (i := 45) rfl))) (Or.inl (hw _ (List.mem_of_getElem? (i := 21) rfl))) (by decide) (t := .int) (t' := (.array .byte)) (by decide) (by decide)))
  have FfieldCount_h104 := FfieldCount.other W103 (Or.inr (slot_ne (Or.inl (hw _ (List.mem_of_getElem? (i := 47) rfl))) (Or.inl (hw _ (List.mem_of_getElem? (i := 21) rfl))) (by decide) (t := .long) (t' := (.array .byte)) (by decide) (by decide)))
  have FunprintableCount_h104 := FunprintableCount.other W103 (Or.inr (slot_ne (Or.inl (hw _ (List.mem_of_getElem? (i := 49) rfl))) (Or.inl (hw _ (List.mem_of_getElem? (i := 21) rfl))) (by decide) (t := .int) (t' := (.array .byte)) (by decide) (by decide)))
  have O103 := own_ext_wr O0 W103 Ga
  have K103 := K0.wr W103 (Or.inl (List.mem_of_getElem? (i := 0) rfl))
  have N103 := Fr.snoc X103 N0 Ga
  show Go p e below _ (T103.setTop (mkF m 11 #[.val (.ref a)] []))
  refine Go.st (fun t' k' => XS.aloadN X103.here hx rfl (hb hby d3_11) rfl rfl k') ?_
  show Go p e below _ (T103.setTop (mkF m 12 #[.val (.ref a)] [(.ref a)]))
  obtain ⟨T105, X105, e105, st105⟩ := getS2 X103 hx hZ hown (host := "") (Or.inl (hw _ (List.mem_of_getElem? (i := 22) rfl))) Via.refl e103 (S_NO_NUMBERS.ext O103) (g := (mkF m 12 #[.val (.ref a)] [(.ref a)])) rfl (hb hby d3_12)
  refine Go.st st105 ?_
  show Go p e below _ (T105.setTop (mkF m 15 #[.val (.ref a)] [(.ref w_NO_NUMBERS), (.ref a)]))
  obtain ⟨T106, h106, X106, e106, W106, st106⟩ := putF X105 hx hZ hown (host := "") (Or.inl (hw _ (List.mem_of_getElem? (i := 24) rfl))) Via.refl e105 Fe_h104 Ea_h104 (Or.inl (hw _ (List.mem_of_getElem? (i := 25) rfl))) (hw _ (List.mem_of_getElem? (i := 10) rfl)) (ty := (.array .int)) (by decide) rfl rfl (g := (mkF m 15 #[.val (.ref a)] [(.ref w_NO_NUMBERS), (.ref a)])) rfl rfl (hb hby d3_15)
  refine Go.st st106 ?_
  have Fw106 : Fld Z h106 a "com/example/harakeke/harakeke/model/Record" "ends" "[I" (.ref w_NO_NUMBERS) := Fe_h104.same W106
  have Ea_h107 := Ea_h104.wr W106
  have Fu_h107 := Fu_h104.other W106 (Or.inr (slot_ne (Or.inl (hw _ (List.mem_of_getElem? (i := 27) rfl))) (Or.inl (hw _ (List.mem_of_getElem? (i := 25) rfl))) (by decide) (t := (.array .int)) (t' := (.array .int)) (by decide) (by decide)))
  have Fline_h107 := Fline_h104.other W106 (Or.inr (slot_ne (Or.inl (hw _ (List.mem_of_getElem? (i := 39) rfl))) (Or.inl (hw _ (List.mem_of_getElem? (i := 25) rfl))) (by decide) (t := .int) (t' := (.array .int)) (by decide) (by decide)))
  have Foffset_h107 := Foffset_h104.other W106 (Or.inr (slot_ne (Or.inl (hw _ (List.mem_of_getElem? (i := 41) rfl))) (Or.inl (hw _ (List.mem_of_getElem? (i := 25) rfl))) (by decide) (t := .long) (t' := (.array .int)) (by decide) (by decide)))
  have Flength_h107 := Flength_h104.other W106 (Or.inr (slot_ne (Or.inl (hw _ (List.mem_of_getElem? (i := 43) rfl))) (Or.inl (hw _ (List.mem_of_getElem? (i := 25) rfl))) (by decide) (t := .long) (t' := (.array .int)) (by decide) (by decide)))
  have Fkept_h107 := Fkept_h104.other W106 (Or.inr (slot_ne (Or.inl (hw _ (List.mem_of_getElem? (i := 45) rfl))) (Or.inl (hw _ (List.mem_of_getElem? (i := 25) rfl))) (by decide) (t := .int) (t' := (.array .int)) (by decide) (by decide)))
  have FfieldCount_h107 := FfieldCount_h104.other W106 (Or.inr (slot_ne (Or.inl (hw _ (List.mem_of_getElem? (i := 47) rfl))) (Or.inl (hw _ (List.mem_of_getElem? (i := 25) rfl))) (by decide) (t := .long) (t' := (.array .int)) (by decide) (by decide)))
  have FunprintableCount_h107 := FunprintableCount_h104.other W106 (Or.inr (slot_ne (Or.inl (hw _ (List.mem_of_getElem? (i := 49) rfl))) (Or.inl (hw _ (List.mem_of_getElem? (i := 25) rfl))) (by decide) (t := .int) (t' := (.array .int)) (by decide) (by decide)))
  have Fw103_h107 := Fw103.other W106 (Or.inr (slot_ne (Or.inl (hw _ (List.mem_of_getElem? (i := 21) rfl))) (Or.inl (hw _ (List.mem_of_getElem? (i := 25) rfl))) (by decide) (t := (.array .byte)) (t' := (.array .int)) (by decide) (by decide)))
  have O106 := own_ext_wr O103 W106 Ga
  have K106 := K103.wr W106 (Or.inl (List.mem_of_getElem? (i := 0) rfl))
  have N106 := Fr.snoc X106 N103 Ga
  show Go p e below _ (T106.setTop (mkF m 18 #[.val (.ref a)] []))
  refine Go.st (fun t' k' => XS.aloadN X106.here hx rfl (hb hby d3_18) rfl rfl k') ?_
  show Go p e below _ (T106.setTop (mkF m 19 #[.val (.ref a)] [(.ref a)]))
  obtain ⟨T108, X108, e108, st108⟩ := getS2 X106 hx hZ hown (host := "") (Or.inl (hw _ (List.mem_of_getElem? (i := 22) rfl))) Via.refl e106 (S_NO_NUMBERS.ext O106) (g := (mkF m 19 #[.val (.ref a)] [(.ref a)])) rfl (hb hby d3_19)
  refine Go.st st108 ?_
  show Go p e below _ (T108.setTop (mkF m 22 #[.val (.ref a)] [(.ref w_NO_NUMBERS), (.ref a)]))
  obtain ⟨T109, h109, X109, e109, W109, st109⟩ := putF X108 hx hZ hown (host := "") (Or.inl (hw _ (List.mem_of_getElem? (i := 26) rfl))) Via.refl e108 Fu_h107 Ea_h107 (Or.inl (hw _ (List.mem_of_getElem? (i := 27) rfl))) (hw _ (List.mem_of_getElem? (i := 10) rfl)) (ty := (.array .int)) (by decide) rfl rfl (g := (mkF m 22 #[.val (.ref a)] [(.ref w_NO_NUMBERS), (.ref a)])) rfl rfl (hb hby d3_22)
  refine Go.st st109 ?_
  have Fw109 : Fld Z h109 a "com/example/harakeke/harakeke/model/Record" "unprintable" "[I" (.ref w_NO_NUMBERS) := Fu_h107.same W109
  have Ea_h110 := Ea_h107.wr W109
  have Fline_h110 := Fline_h107.other W109 (Or.inr (slot_ne (Or.inl (hw _ (List.mem_of_getElem? (i := 39) rfl))) (Or.inl (hw _ (List.mem_of_getElem? (i := 27) rfl))) (by decide) (t := .int) (t' := (.array .int)) (by decide) (by decide)))
  have Foffset_h110 := Foffset_h107.other W109 (Or.inr (slot_ne (Or.inl (hw _ (List.mem_of_getElem? (i := 41) rfl))) (Or.inl (hw _ (List.mem_of_getElem? (i := 27) rfl))) (by decide) (t := .long) (t' := (.array .int)) (by decide) (by decide)))
  have Flength_h110 := Flength_h107.other W109 (Or.inr (slot_ne (Or.inl (hw _ (List.mem_of_getElem? (i := 43) rfl))) (Or.inl (hw _ (List.mem_of_getElem? (i := 27) rfl))) (by decide) (t := .long) (t' := (.array .int)) (by decide) (by decide)))
  have Fkept_h110 := Fkept_h107.other W109 (Or.inr (slot_ne (Or.inl (hw _ (List.mem_of_getElem? (i := 45) rfl))) (Or.inl (hw _ (List.mem_of_getElem? (i := 27) rfl))) (by decide) (t := .int) (t' := (.array .int)) (by decide) (by decide)))
  have FfieldCount_h110 := FfieldCount_h107.other W109 (Or.inr (slot_ne (Or.inl (hw _ (List.mem_of_getElem? (i := 47) rfl))) (Or.inl (hw _ (List.mem_of_getElem? (i := 27) rfl))) (by decide) (t := .long) (t' := (.array .int)) (by decide) (by decide)))
  have FunprintableCount_h110 := FunprintableCount_h107.other W109 (Or.inr (slot_ne (Or.inl (hw _ (List.mem_of_getElem? (i := 49) rfl))) (Or.inl (hw _ (List.mem_of_getElem? (i := 27) rfl))) (by decide) (t := .int) (t' := (.array .int)) (by decide) (by decide)))
  have Fw103_h110 := Fw103_h107.other W109 (Or.inr (slot_ne (Or.inl (hw _ (List.mem_of_getElem? (i := 21) rfl))) (Or.inl (hw _ (List.mem_of_getElem? (i := 27) rfl))) (by decide) (t := (.array .byte)) (t' := (.array .int)) (by decide) (by decide)))
  have Fw106_h110 := Fw106.other W109 (Or.inr (slot_ne (Or.inl (hw _ (List.mem_of_getElem? (i := 25) rfl))) (Or.inl (hw _ (List.mem_of_getElem? (i := 27) rfl))) (by decide) (t := (.array .int)) (t' := (.array .int)) (by decide) (by decide)))
  have O109 := own_ext_wr O106 W109 Ga
  have K109 := K106.wr W109 (Or.inl (List.mem_of_getElem? (i := 0) rfl))
  have N109 := Fr.snoc X109 N106 Ga
  show Go p e below _ (T109.setTop (mkF m 25 #[.val (.ref a)] []))
  exact Go.outU X109 hx hlk hret (hb hby d3_25) (Q := Q_rmInit Z a w_NO_BYTES w_NO_NUMBERS h0) (by rw [e109]; exact ⟨rfl, N109, O109, K109, Fw103_h110, Fw106_h110, Fw109, Fline_h110, Foffset_h110, Flength_h110, Fkept_h110, FfieldCount_h110, FunprintableCount_h110⟩) (by decide) (by decide)
theorem ef_rmSet1 (m : MethodId) (x0 : Addr) (x1 : Int32) (x2 : Int64) (x3 : Int64) (x4 : Addr) (x5 : Addr) (x6 : Int32) (x7 : Int64) (x8 : Addr) (x9 : Int32) : entryFrame m #[(.ref x0), (.int x1), (.long x2), (.long x3), (.ref x4), (.ref x5), (.int x6), (.long x7), (.ref x8), (.int x9)] 14 = mkF m 0 #[.val (.ref x0), .val (.int x1), .val (.long x2), .second, .val (.long x3), .second, .val (.ref x4), .val (.ref x5), .val (.int x6), .val (.long x7), .second, .val (.ref x8), .val (.int x9), .unset] [] := by first | (simp [entryFrame, mkF, argsToLocals, Value.category]; done) | rfl
def Q_rmSet1 (Z : State) (a : Addr) (va : Addr) (en : Addr) (un : Addr) (w_NO_BYTES : Addr) (w_NO_NUMBERS : Addr) (k_B : ClassId) (k_N : ClassId) (kv : ClassId) (ke : ClassId) (ku : ClassId) (lo : Int32) (mid : Int32) (hi : Int32) (h0 : Heap) (v : Option Value) (h : Heap) (L : List Loc) : Prop := ∃ b : Addr, ∃ kb : ClassId, v = none ∧ Fr Z.heap.size L ∧ Ext Z.heap h ∧ Keep h0 h [a] ∧ Fld Z h a "com/example/harakeke/harakeke/model/Record" "bytes" "[B" (.ref w_NO_BYTES) ∧ Fld Z h a "com/example/harakeke/harakeke/model/Record" "ends" "[I" (.ref w_NO_NUMBERS) ∧ Fld Z h a "com/example/harakeke/harakeke/model/Record" "unprintable" "[I" (.ref b) ∧ Arv Z h b kb .int (3 : Int32) [(.int lo), (.int mid), (.int hi)] (.int (0 : Int32)) ∧ Z.heap.size ≤ b ∧ h0.size ≤ b ∧ a ≠ b ∧ Fld Z h a "com/example/harakeke/harakeke/model/Record" "line" "I" (.int (1 : Int32)) ∧ Fld Z h a "com/example/harakeke/harakeke/model/Record" "offset" "J" (.long (0 : Int64)) ∧ Fld Z h a "com/example/harakeke/harakeke/model/Record" "length" "J" (.long (0 : Int64)) ∧ Fld Z h a "com/example/harakeke/harakeke/model/Record" "kept" "I" (.int (0 : Int32)) ∧ Fld Z h a "com/example/harakeke/harakeke/model/Record" "fieldCount" "J" (.long (0 : Int64)) ∧ Fld Z h a "com/example/harakeke/harakeke/model/Record" "unprintableCount" "I" (.int (3 : Int32))
theorem d5_0 : decode prog_52_method_3_code 0 = .ok (.iload 8, 2) := by decide +kernel
theorem d5_2 : decode prog_52_method_3_code 2 = .ok (.ifCond .ne 7, 3) := by decide +kernel
theorem d5_5 : decode prog_52_method_3_code 5 = .ok (.iconst 0, 1) := by decide +kernel
theorem d5_6 : decode prog_52_method_3_code 6 = .ok (.goto 10, 3) := by decide +kernel
theorem d5_16 : decode prog_52_method_3_code 16 = .ok (.istore 13, 2) := by decide +kernel
theorem d5_18 : decode prog_52_method_3_code 18 = .ok (.aload_n 0, 1) := by decide +kernel
theorem d5_19 : decode prog_52_method_3_code 19 = .ok (.getfield 13, 3) := by decide +kernel
theorem d5_22 : decode prog_52_method_3_code 22 = .ok (.arraylength, 1) := by decide +kernel
theorem d5_23 : decode prog_52_method_3_code 23 = .ok (.iload 13, 2) := by decide +kernel
theorem d5_25 : decode prog_52_method_3_code 25 = .ok (.if_icmp .ge 21, 3) := by decide +kernel
theorem d5_46 : decode prog_52_method_3_code 46 = .ok (.aload_n 0, 1) := by decide +kernel
theorem d5_47 : decode prog_52_method_3_code 47 = .ok (.getfield 20, 3) := by decide +kernel
theorem d5_50 : decode prog_52_method_3_code 50 = .ok (.arraylength, 1) := by decide +kernel
theorem d5_51 : decode prog_52_method_3_code 51 = .ok (.iload 8, 2) := by decide +kernel
theorem d5_53 : decode prog_52_method_3_code 53 = .ok (.if_icmp .ge 21, 3) := by decide +kernel
theorem d5_74 : decode prog_52_method_3_code 74 = .ok (.aload_n 0, 1) := by decide +kernel
theorem d5_75 : decode prog_52_method_3_code 75 = .ok (.getfield 23, 3) := by decide +kernel
theorem d5_78 : decode prog_52_method_3_code 78 = .ok (.arraylength, 1) := by decide +kernel
theorem d5_79 : decode prog_52_method_3_code 79 = .ok (.iload 12, 2) := by decide +kernel
theorem d5_81 : decode prog_52_method_3_code 81 = .ok (.if_icmp .ge 21, 3) := by decide +kernel
theorem d5_84 : decode prog_52_method_3_code 84 = .ok (.aload_n 0, 1) := by decide +kernel
theorem d5_85 : decode prog_52_method_3_code 85 = .ok (.iload 12, 2) := by decide +kernel
theorem d5_87 : decode prog_52_method_3_code 87 = .ok (.iconst 2, 1) := by decide +kernel
theorem d5_88 : decode prog_52_method_3_code 88 = .ok (.aload_n 0, 1) := by decide +kernel
theorem d5_89 : decode prog_52_method_3_code 89 = .ok (.getfield 23, 3) := by decide +kernel
theorem d5_92 : decode prog_52_method_3_code 92 = .ok (.arraylength, 1) := by decide +kernel
theorem d5_93 : decode prog_52_method_3_code 93 = .ok (.imul, 1) := by decide +kernel
theorem d5_94 : decode prog_52_method_3_code 94 = .ok (.invokestatic 105, 3) := by decide +kernel
theorem pd__II_I : parseMethodDescriptor "(II)I" = some ⟨[.int, .int], some .int⟩ := by decide +kernel
theorem d5_97 : decode prog_52_method_3_code 97 = .ok (.newarray .int, 2) := by decide +kernel
theorem d5_99 : decode prog_52_method_3_code 99 = .ok (.putfield 23, 3) := by decide +kernel
theorem d5_102 : decode prog_52_method_3_code 102 = .ok (.aload 6, 2) := by decide +kernel
theorem d5_104 : decode prog_52_method_3_code 104 = .ok (.iconst 0, 1) := by decide +kernel
theorem d5_105 : decode prog_52_method_3_code 105 = .ok (.aload_n 0, 1) := by decide +kernel
theorem d5_106 : decode prog_52_method_3_code 106 = .ok (.getfield 13, 3) := by decide +kernel
theorem d5_109 : decode prog_52_method_3_code 109 = .ok (.iconst 0, 1) := by decide +kernel
theorem d5_110 : decode prog_52_method_3_code 110 = .ok (.iload 13, 2) := by decide +kernel
theorem d5_112 : decode prog_52_method_3_code 112 = .ok (.invokestatic 111, 3) := by decide +kernel
theorem d5_115 : decode prog_52_method_3_code 115 = .ok (.aload 7, 2) := by decide +kernel
theorem d5_117 : decode prog_52_method_3_code 117 = .ok (.iconst 0, 1) := by decide +kernel
theorem d5_118 : decode prog_52_method_3_code 118 = .ok (.aload_n 0, 1) := by decide +kernel
theorem d5_119 : decode prog_52_method_3_code 119 = .ok (.getfield 20, 3) := by decide +kernel
theorem d5_122 : decode prog_52_method_3_code 122 = .ok (.iconst 0, 1) := by decide +kernel
theorem d5_123 : decode prog_52_method_3_code 123 = .ok (.iload 8, 2) := by decide +kernel
theorem d5_125 : decode prog_52_method_3_code 125 = .ok (.invokestatic 111, 3) := by decide +kernel
theorem d5_128 : decode prog_52_method_3_code 128 = .ok (.aload 11, 2) := by decide +kernel
theorem d5_130 : decode prog_52_method_3_code 130 = .ok (.iconst 0, 1) := by decide +kernel
theorem d5_131 : decode prog_52_method_3_code 131 = .ok (.aload_n 0, 1) := by decide +kernel
theorem d5_132 : decode prog_52_method_3_code 132 = .ok (.getfield 23, 3) := by decide +kernel
theorem d5_135 : decode prog_52_method_3_code 135 = .ok (.iconst 0, 1) := by decide +kernel
theorem d5_136 : decode prog_52_method_3_code 136 = .ok (.iload 12, 2) := by decide +kernel
theorem d5_138 : decode prog_52_method_3_code 138 = .ok (.invokestatic 111, 3) := by decide +kernel
theorem d5_141 : decode prog_52_method_3_code 141 = .ok (.aload_n 0, 1) := by decide +kernel
theorem d5_142 : decode prog_52_method_3_code 142 = .ok (.iload_n 1, 1) := by decide +kernel
theorem d5_143 : decode prog_52_method_3_code 143 = .ok (.putfield 117, 3) := by decide +kernel
theorem d5_146 : decode prog_52_method_3_code 146 = .ok (.aload_n 0, 1) := by decide +kernel
theorem d5_147 : decode prog_52_method_3_code 147 = .ok (.lload_n 2, 1) := by decide +kernel
theorem d5_148 : decode prog_52_method_3_code 148 = .ok (.putfield 121, 3) := by decide +kernel
theorem d5_151 : decode prog_52_method_3_code 151 = .ok (.aload_n 0, 1) := by decide +kernel
theorem d5_152 : decode prog_52_method_3_code 152 = .ok (.lload 4, 2) := by decide +kernel
theorem d5_154 : decode prog_52_method_3_code 154 = .ok (.putfield 125, 3) := by decide +kernel
theorem d5_157 : decode prog_52_method_3_code 157 = .ok (.aload_n 0, 1) := by decide +kernel
theorem d5_158 : decode prog_52_method_3_code 158 = .ok (.iload 8, 2) := by decide +kernel
theorem d5_160 : decode prog_52_method_3_code 160 = .ok (.putfield 127, 3) := by decide +kernel
theorem d5_163 : decode prog_52_method_3_code 163 = .ok (.aload_n 0, 1) := by decide +kernel
theorem d5_164 : decode prog_52_method_3_code 164 = .ok (.lload 9, 2) := by decide +kernel
theorem d5_166 : decode prog_52_method_3_code 166 = .ok (.putfield 130, 3) := by decide +kernel
theorem d5_169 : decode prog_52_method_3_code 169 = .ok (.aload_n 0, 1) := by decide +kernel
theorem d5_170 : decode prog_52_method_3_code 170 = .ok (.iload 12, 2) := by decide +kernel
theorem d5_172 : decode prog_52_method_3_code 172 = .ok (.putfield 133, 3) := by decide +kernel
theorem d5_175 : decode prog_52_method_3_code 175 = .ok (.return_, 1) := by decide +kernel
set_option maxRecDepth 65536 in
set_option maxHeartbeats 40000000 in
theorem rmSet1 (l : Launch) (Z : State) (a0 : Array Value) (hw : ∀ d ∈ tables_1, d.before a0 Z = true) (ws : List Jvm.Cond) (a : Addr) (va : Addr) (en : Addr) (un : Addr) (w_NO_BYTES : Addr) (w_NO_NUMBERS : Addr) (k_B : ClassId) (k_N : ClassId) (kv : ClassId) (ke : ClassId) (ku : ClassId) (lo : Int32) (mid : Int32) (hi : Int32) (h0 : Heap) (O0 : Ext Z.heap h0) (A_NO_BYTES : Arv Z Z.heap w_NO_BYTES k_B .byte (0 : Int32) [] (.int (0 : Int32))) (A_NO_NUMBERS : Arv Z Z.heap w_NO_NUMBERS k_N .int (0 : Int32) [] (.int (0 : Int32))) (Ea : Exa Z h0 a "com/example/harakeke/harakeke/model/Record") (Ga : Z.heap.size ≤ a) (Fb : Fld Z h0 a "com/example/harakeke/harakeke/model/Record" "bytes" "[B" (.ref w_NO_BYTES)) (Fe : Fld Z h0 a "com/example/harakeke/harakeke/model/Record" "ends" "[I" (.ref w_NO_NUMBERS)) (Fu : Fld Z h0 a "com/example/harakeke/harakeke/model/Record" "unprintable" "[I" (.ref w_NO_NUMBERS)) (Fline : Fld Z h0 a "com/example/harakeke/harakeke/model/Record" "line" "I" (.int (0 : Int32))) (Foffset : Fld Z h0 a "com/example/harakeke/harakeke/model/Record" "offset" "J" (.long (0 : Int64))) (Flength : Fld Z h0 a "com/example/harakeke/harakeke/model/Record" "length" "J" (.long (0 : Int64))) (Fkept : Fld Z h0 a "com/example/harakeke/harakeke/model/Record" "kept" "I" (.int (0 : Int32))) (FfieldCount : Fld Z h0 a "com/example/harakeke/harakeke/model/Record" "fieldCount" "J" (.long (0 : Int64))) (FunprintableCount : Fld Z h0 a "com/example/harakeke/harakeke/model/Record" "unprintableCount" "I" (.int (0 : Int32))) (Av : Arv Z h0 va kv .byte (0 : Int32) [] (.int (0 : Int32))) (Ae : Arv Z h0 en ke .int (0 : Int32) [] (.int (0 : Int32))) (Au : Arv Z h0 un ku .int (3 : Int32) [(.int lo), (.int mid), (.int hi)] (.int (0 : Int32))) (Nva : va ≠ a) (Nen : en ≠ a) (Nun : un ≠ a) :
    MetFree l (⟨"com/example/harakeke/harakeke/model/Record", "set", "(IJJ[B[IIJ[II)V"⟩ : MethodName) (head1 (Jvm.Cond.code (⟨"com/example/harakeke/harakeke/model/Record", "set", "(IJJ[B[IIJ[II)V"⟩ : MethodName) prog_52_method_3_code 14 none :: ws) ({ frames := 1, cells := 1, slots := 8, locals := 40 } : Room)) (fun av' U => av' = #[(.ref a), (.int (1 : Int32)), (.long (0 : Int64)), (.long (0 : Int64)), (.ref va), (.ref en), (.int (0 : Int32)), (.long (0 : Int64)), (.ref un), (.int (3 : Int32))] ∧ Z.Warmed39 U.vm ∧ U.heap = h0) (fun _ _ _ _ _ => True) (fun _ U o U' => ∃ v L, o = .returned v ∧ Q_rmSet1 Z a va en un w_NO_BYTES w_NO_NUMBERS k_B k_N kv ke ku lo mid hi h0 v U'.heap L ∧ FrameEnd U o U' L ({ frames := 1, cells := 1, slots := 8, locals := 40 } : Room).cells ({ frames := 1, cells := 1, slots := 8, locals := 40 } : Room).slots) := by
  refine MetFree.of_bodySF (plainFor_of_name pn_com_example_harakeke_harakeke_model_Record) hisR ?_
  intro p e s m args below meth c s₁ Bd hml0 hP hK
  obtain ⟨rfl, hZ, hh⟩ := hP
  have hx := Bd.exec
  have hby := Bd.bytes
  have hret := Bd.returns
  have hlk : meth.locks = false := Bd.notSynchronized
  have hml : c.maxLocals = 14 := hml0
  have hown : s.vm.findClass "com/example/harakeke/harakeke/model/Record" = some m.cls := findClass_of_methodNamed Bd.named
  have hnm := (name_of_methodNamed Bd.named Bd.method).1
  have X0 : Stand p l e ({ frames := 1, cells := 1, slots := 8, locals := 40 } : Room) s m #[(.ref a), (.int (1 : Int32)), (.long (0 : Int64)), (.long (0 : Int64)), (.ref va), (.ref en), (.int (0 : Int32)), (.long (0 : Int64)), (.ref un), (.int (3 : Int32))] below meth c s₁ [] 0 0 := Stand.of_body Bd
  -- the walk
  have e0 : s₁.heap = h0 := by rw [← hh, Bd.state]; rfl
  have N0 := Fr.nil Z.heap.size
  have K0 := Keep.refl h0 [a]
  show Go p e below (GO s (Q_rmSet1 Z a va en un w_NO_BYTES w_NO_NUMBERS k_B k_N kv ke ku lo mid hi h0) ({ frames := 1, cells := 1, slots := 8, locals := 40 } : Room).cells ({ frames := 1, cells := 1, slots := 8, locals := 40 } : Room).slots) (s₁.setTop (entryFrame m #[(.ref a), (.int (1 : Int32)), (.long (0 : Int64)), (.long (0 : Int64)), (.ref va), (.ref en), (.int (0 : Int32)), (.long (0 : Int64)), (.ref un), (.int (3 : Int32))] 14))
  refine Go.st (fun t' k' => castTop (ef_rmSet1 m a (1 : Int32) (0 : Int64) (0 : Int64) va en (0 : Int32) (0 : Int64) un (3 : Int32)) k') ?_
  show Go p e below _ (s₁.setTop (mkF m 0 #[.val (.ref a), .val (.int (1 : Int32)), .val (.long (0 : Int64)), .second, .val (.long (0 : Int64)), .second, .val (.ref va), .val (.ref en), .val (.int (0 : Int32)), .val (.long (0 : Int64)), .second, .val (.ref un), .val (.int (3 : Int32)), .unset] []))
  refine Go.st (fun t' k' => XS.iload X0.here hx rfl (hb hby d5_0) rfl k') ?_
  show Go p e below _ (s₁.setTop (mkF m 2 #[.val (.ref a), .val (.int (1 : Int32)), .val (.long (0 : Int64)), .second, .val (.long (0 : Int64)), .second, .val (.ref va), .val (.ref en), .val (.int (0 : Int32)), .val (.long (0 : Int64)), .second, .val (.ref un), .val (.int (3 : Int32)), .unset] [(.int (0 : Int32))]))
  refine Go.st (fun t' k' => XS.ifNo X0.here hx rfl (hb hby d5_2) rfl ((if0 _ _).trans (teq (by decide : (0 : Int32) = (0 : Int32))).2) k') ?_
  show Go p e below _ (s₁.setTop (mkF m 5 #[.val (.ref a), .val (.int (1 : Int32)), .val (.long (0 : Int64)), .second, .val (.long (0 : Int64)), .second, .val (.ref va), .val (.ref en), .val (.int (0 : Int32)), .val (.long (0 : Int64)), .second, .val (.ref un), .val (.int (3 : Int32)), .unset] []))
  refine Go.st (fun t' k' => XS.iconst X0.here hx rfl (hb hby d5_5) k') ?_
  show Go p e below _ (s₁.setTop (mkF m 6 #[.val (.ref a), .val (.int (1 : Int32)), .val (.long (0 : Int64)), .second, .val (.long (0 : Int64)), .second, .val (.ref va), .val (.ref en), .val (.int (0 : Int32)), .val (.long (0 : Int64)), .second, .val (.ref un), .val (.int (3 : Int32)), .unset] [(.int (0 : Int32))]))
  refine Go.st (fun t' k' => XS.goto X0.here hx rfl (pc0 := 6) (pc' := 16) rfl (hb hby d5_6) (by decide) (by decide) k') ?_
  show Go p e below _ (s₁.setTop (mkF m 16 #[.val (.ref a), .val (.int (1 : Int32)), .val (.long (0 : Int64)), .second, .val (.long (0 : Int64)), .second, .val (.ref va), .val (.ref en), .val (.int (0 : Int32)), .val (.long (0 : Int64)), .second, .val (.ref un), .val (.int (3 : Int32)), .unset] [(.int (0 : Int32))]))
  refine Go.st (fun t' k' => XS.istore X0.here hx rfl (hb hby d5_16) rfl (l' := #[.val (.ref a), .val (.int (1 : Int32)), .val (.long (0 : Int64)), .second, .val (.long (0 : Int64)), .second, .val (.ref va), .val (.ref en), .val (.int (0 : Int32)), .val (.long (0 : Int64)), .second, .val (.ref un), .val (.int (3 : Int32)), .val (.int (0 : Int32))]) rfl k') ?_
  show Go p e below _ (s₁.setTop (mkF m 18 #[.val (.ref a), .val (.int (1 : Int32)), .val (.long (0 : Int64)), .second, .val (.long (0 : Int64)), .second, .val (.ref va), .val (.ref en), .val (.int (0 : Int32)), .val (.long (0 : Int64)), .second, .val (.ref un), .val (.int (3 : Int32)), .val (.int (0 : Int32))] []))
  refine Go.st (fun t' k' => XS.aloadN X0.here hx rfl (hb hby d5_18) rfl rfl k') ?_
  show Go p e below _ (s₁.setTop (mkF m 19 #[.val (.ref a), .val (.int (1 : Int32)), .val (.long (0 : Int64)), .second, .val (.long (0 : Int64)), .second, .val (.ref va), .val (.ref en), .val (.int (0 : Int32)), .val (.long (0 : Int64)), .second, .val (.ref un), .val (.int (3 : Int32)), .val (.int (0 : Int32))] [(.ref a)]))
  obtain ⟨T101, X101, e101, st101⟩ := getF X0 hx hZ hown (host := "") (Or.inl (hw _ (List.mem_of_getElem? (i := 20) rfl))) Via.refl e0 Fb (g := (mkF m 19 #[.val (.ref a), .val (.int (1 : Int32)), .val (.long (0 : Int64)), .second, .val (.long (0 : Int64)), .second, .val (.ref va), .val (.ref en), .val (.int (0 : Int32)), .val (.long (0 : Int64)), .second, .val (.ref un), .val (.int (3 : Int32)), .val (.int (0 : Int32))] [(.ref a)])) rfl rfl (hb hby d5_19)
  refine Go.st st101 ?_
  show Go p e below _ (T101.setTop (mkF m 22 #[.val (.ref a), .val (.int (1 : Int32)), .val (.long (0 : Int64)), .second, .val (.long (0 : Int64)), .second, .val (.ref va), .val (.ref en), .val (.int (0 : Int32)), .val (.long (0 : Int64)), .second, .val (.ref un), .val (.int (3 : Int32)), .val (.int (0 : Int32))] [(.ref w_NO_BYTES)]))
  obtain ⟨cll102, Arl102, ql102, Szl102, Nzl102, Hsl102, Gsl102⟩ := (id (A_NO_BYTES.ext O0))
  refine Go.st (X101.arraylength hx (by rw [e101]; exact Arl102.1) (State.isArrayOf_alike hZ.alike Arl102.2.1) (g := (mkF m 22 #[.val (.ref a), .val (.int (1 : Int32)), .val (.long (0 : Int64)), .second, .val (.long (0 : Int64)), .second, .val (.ref va), .val (.ref en), .val (.int (0 : Int32)), .val (.long (0 : Int64)), .second, .val (.ref un), .val (.int (3 : Int32)), .val (.int (0 : Int32))] [(.ref w_NO_BYTES)])) rfl rfl (hb hby d5_22)) ?_
  rw [len_of Szl102 Nzl102]
  show Go p e below _ (T101.setTop (mkF m 23 #[.val (.ref a), .val (.int (1 : Int32)), .val (.long (0 : Int64)), .second, .val (.long (0 : Int64)), .second, .val (.ref va), .val (.ref en), .val (.int (0 : Int32)), .val (.long (0 : Int64)), .second, .val (.ref un), .val (.int (3 : Int32)), .val (.int (0 : Int32))] [(.int (0 : Int32))]))
  refine Go.st (fun t' k' => XS.iload X101.here hx rfl (hb hby d5_23) rfl k') ?_
  show Go p e below _ (T101.setTop (mkF m 25 #[.val (.ref a), .val (.int (1 : Int32)), .val (.long (0 : Int64)), .second, .val (.long (0 : Int64)), .second, .val (.ref va), .val (.ref en), .val (.int (0 : Int32)), .val (.long (0 : Int64)), .second, .val (.ref un), .val (.int (3 : Int32)), .val (.int (0 : Int32))] [(.int (0 : Int32)), (.int (0 : Int32))]))
  refine Go.st (fun t' k' => XS.icmpYes X101.here hx rfl (pc0 := 25) (pc' := 46) rfl (hb hby d5_25) rfl (flt (by decide : ¬ ((0 : Int32) < (0 : Int32)))).2.1 (by decide) (by decide) k') ?_
  show Go p e below _ (T101.setTop (mkF m 46 #[.val (.ref a), .val (.int (1 : Int32)), .val (.long (0 : Int64)), .second, .val (.long (0 : Int64)), .second, .val (.ref va), .val (.ref en), .val (.int (0 : Int32)), .val (.long (0 : Int64)), .second, .val (.ref un), .val (.int (3 : Int32)), .val (.int (0 : Int32))] []))
  refine Go.st (fun t' k' => XS.aloadN X101.here hx rfl (hb hby d5_46) rfl rfl k') ?_
  show Go p e below _ (T101.setTop (mkF m 47 #[.val (.ref a), .val (.int (1 : Int32)), .val (.long (0 : Int64)), .second, .val (.long (0 : Int64)), .second, .val (.ref va), .val (.ref en), .val (.int (0 : Int32)), .val (.long (0 : Int64)), .second, .val (.ref un), .val (.int (3 : Int32)), .val (.int (0 : Int32))] [(.ref a)]))
  obtain ⟨T103, X103, e103, st103⟩ := getF X101 hx hZ hown (host := "") (Or.inl (hw _ (List.mem_of_getElem? (i := 24) rfl))) Via.refl e101 Fe (g := (mkF m 47 #[.val (.ref a), .val (.int (1 : Int32)), .val (.long (0 : Int64)), .second, .val (.long (0 : Int64)), .second, .val (.ref va), .val (.ref en), .val (.int (0 : Int32)), .val (.long (0 : Int64)), .second, .val (.ref un), .val (.int (3 : Int32)), .val (.int (0 : Int32))] [(.ref a)])) rfl rfl (hb hby d5_47)
  refine Go.st st103 ?_
  show Go p e below _ (T103.setTop (mkF m 50 #[.val (.ref a), .val (.int (1 : Int32)), .val (.long (0 : Int64)), .second, .val (.long (0 : Int64)), .second, .val (.ref va), .val (.ref en), .val (.int (0 : Int32)), .val (.long (0 : Int64)), .second, .val (.ref un), .val (.int (3 : Int32)), .val (.int (0 : Int32))] [(.ref w_NO_NUMBERS)]))
  obtain ⟨cll104, Arl104, ql104, Szl104, Nzl104, Hsl104, Gsl104⟩ := (id (A_NO_NUMBERS.ext O0))
  refine Go.st (X103.arraylength hx (by rw [e103]; exact Arl104.1) (State.isArrayOf_alike hZ.alike Arl104.2.1) (g := (mkF m 50 #[.val (.ref a), .val (.int (1 : Int32)), .val (.long (0 : Int64)), .second, .val (.long (0 : Int64)), .second, .val (.ref va), .val (.ref en), .val (.int (0 : Int32)), .val (.long (0 : Int64)), .second, .val (.ref un), .val (.int (3 : Int32)), .val (.int (0 : Int32))] [(.ref w_NO_NUMBERS)])) rfl rfl (hb hby d5_50)) ?_
  rw [len_of Szl104 Nzl104]
  show Go p e below _ (T103.setTop (mkF m 51 #[.val (.ref a), .val (.int (1 : Int32)), .val (.long (0 : Int64)), .second, .val (.long (0 : Int64)), .second, .val (.ref va), .val (.ref en), .val (.int (0 : Int32)), .val (.long (0 : Int64)), .second, .val (.ref un), .val (.int (3 : Int32)), .val (.int (0 : Int32))] [(.int (0 : Int32))]))
  refine Go.st (fun t' k' => XS.iload X103.here hx rfl (hb hby d5_51) rfl k') ?_
  show Go p e below _ (T103.setTop (mkF m 53 #[.val (.ref a), .val (.int (1 : Int32)), .val (.long (0 : Int64)), .second, .val (.long (0 : Int64)), .second, .val (.ref va), .val (.ref en), .val (.int (0 : Int32)), .val (.long (0 : Int64)), .second, .val (.ref un), .val (.int (3 : Int32)), .val (.int (0 : Int32))] [(.int (0 : Int32)), (.int (0 : Int32))]))
  refine Go.st (fun t' k' => XS.icmpYes X103.here hx rfl (pc0 := 53) (pc' := 74) rfl (hb hby d5_53) rfl (flt (by decide : ¬ ((0 : Int32) < (0 : Int32)))).2.1 (by decide) (by decide) k') ?_
  show Go p e below _ (T103.setTop (mkF m 74 #[.val (.ref a), .val (.int (1 : Int32)), .val (.long (0 : Int64)), .second, .val (.long (0 : Int64)), .second, .val (.ref va), .val (.ref en), .val (.int (0 : Int32)), .val (.long (0 : Int64)), .second, .val (.ref un), .val (.int (3 : Int32)), .val (.int (0 : Int32))] []))
  refine Go.st (fun t' k' => XS.aloadN X103.here hx rfl (hb hby d5_74) rfl rfl k') ?_
  show Go p e below _ (T103.setTop (mkF m 75 #[.val (.ref a), .val (.int (1 : Int32)), .val (.long (0 : Int64)), .second, .val (.long (0 : Int64)), .second, .val (.ref va), .val (.ref en), .val (.int (0 : Int32)), .val (.long (0 : Int64)), .second, .val (.ref un), .val (.int (3 : Int32)), .val (.int (0 : Int32))] [(.ref a)]))
  obtain ⟨T105, X105, e105, st105⟩ := getF X103 hx hZ hown (host := "") (Or.inl (hw _ (List.mem_of_getElem? (i := 26) rfl))) Via.refl e103 Fu (g := (mkF m 75 #[.val (.ref a), .val (.int (1 : Int32)), .val (.long (0 : Int64)), .second, .val (.long (0 : Int64)), .second, .val (.ref va), .val (.ref en), .val (.int (0 : Int32)), .val (.long (0 : Int64)), .second, .val (.ref un), .val (.int (3 : Int32)), .val (.int (0 : Int32))] [(.ref a)])) rfl rfl (hb hby d5_75)
  refine Go.st st105 ?_
  show Go p e below _ (T105.setTop (mkF m 78 #[.val (.ref a), .val (.int (1 : Int32)), .val (.long (0 : Int64)), .second, .val (.long (0 : Int64)), .second, .val (.ref va), .val (.ref en), .val (.int (0 : Int32)), .val (.long (0 : Int64)), .second, .val (.ref un), .val (.int (3 : Int32)), .val (.int (0 : Int32))] [(.ref w_NO_NUMBERS)]))
  obtain ⟨cll106, Arl106, ql106, Szl106, Nzl106, Hsl106, Gsl106⟩ := (id (A_NO_NUMBERS.ext O0))
  refine Go.st (X105.arraylength hx (by rw [e105]; exact Arl106.1) (State.isArrayOf_alike hZ.alike Arl106.2.1) (g := (mkF m 78 #[.val (.ref a), .val (.int (1 : Int32)), .val (.long (0 : Int64)), .second, .val (.long (0 : Int64)), .second, .val (.ref va), .val (.ref en), .val (.int (0 : Int32)), .val (.long (0 : Int64)), .second, .val (.ref un), .val (.int (3 : Int32)), .val (.int (0 : Int32))] [(.ref w_NO_NUMBERS)])) rfl rfl (hb hby d5_78)) ?_
  rw [len_of Szl106 Nzl106]
  show Go p e below _ (T105.setTop (mkF m 79 #[.val (.ref a), .val (.int (1 : Int32)), .val (.long (0 : Int64)), .second, .val (.long (0 : Int64)), .second, .val (.ref va), .val (.ref en), .val (.int (0 : Int32)), .val (.long (0 : Int64)), .second, .val (.ref un), .val (.int (3 : Int32)), .val (.int (0 : Int32))] [(.int (0 : Int32))]))
  refine Go.st (fun t' k' => XS.iload X105.here hx rfl (hb hby d5_79) rfl k') ?_
  show Go p e below _ (T105.setTop (mkF m 81 #[.val (.ref a), .val (.int (1 : Int32)), .val (.long (0 : Int64)), .second, .val (.long (0 : Int64)), .second, .val (.ref va), .val (.ref en), .val (.int (0 : Int32)), .val (.long (0 : Int64)), .second, .val (.ref un), .val (.int (3 : Int32)), .val (.int (0 : Int32))] [(.int (3 : Int32)), (.int (0 : Int32))]))
  refine Go.st (fun t' k' => XS.icmpNo X105.here hx rfl (hb hby d5_81) rfl (tlt (by decide : (0 : Int32) < (3 : Int32))).2.1 k') ?_
  show Go p e below _ (T105.setTop (mkF m 84 #[.val (.ref a), .val (.int (1 : Int32)), .val (.long (0 : Int64)), .second, .val (.long (0 : Int64)), .second, .val (.ref va), .val (.ref en), .val (.int (0 : Int32)), .val (.long (0 : Int64)), .second, .val (.ref un), .val (.int (3 : Int32)), .val (.int (0 : Int32))] []))
  refine Go.st (fun t' k' => XS.aloadN X105.here hx rfl (hb hby d5_84) rfl rfl k') ?_
  show Go p e below _ (T105.setTop (mkF m 85 #[.val (.ref a), .val (.int (1 : Int32)), .val (.long (0 : Int64)), .second, .val (.long (0 : Int64)), .second, .val (.ref va), .val (.ref en), .val (.int (0 : Int32)), .val (.long (0 : Int64)), .second, .val (.ref un), .val (.int (3 : Int32)), .val (.int (0 : Int32))] [(.ref a)]))
  refine Go.st (fun t' k' => XS.iload X105.here hx rfl (hb hby d5_85) rfl k') ?_
  show Go p e below _ (T105.setTop (mkF m 87 #[.val (.ref a), .val (.int (1 : Int32)), .val (.long (0 : Int64)), .second, .val (.long (0 : Int64)), .second, .val (.ref va), .val (.ref en), .val (.int (0 : Int32)), .val (.long (0 : Int64)), .second, .val (.ref un), .val (.int (3 : Int32)), .val (.int (0 : Int32))] [(.int (3 : Int32)), (.ref a)]))
  refine Go.st (fun t' k' => XS.iconst X105.here hx rfl (hb hby d5_87) k') ?_
  show Go p e below _ (T105.setTop (mkF m 88 #[.val (.ref a), .val (.int (1 : Int32)), .val (.long (0 : Int64)), .second, .val (.long (0 : Int64)), .second, .val (.ref va), .val (.ref en), .val (.int (0 : Int32)), .val (.long (0 : Int64)), .second, .val (.ref un), .val (.int (3 : Int32)), .val (.int (0 : Int32))] [(.int (2 : Int32)), (.int (3 : Int32)), (.ref a)]))
  refine Go.st (fun t' k' => XS.aloadN X105.here hx rfl (hb hby d5_88) rfl rfl k') ?_
  show Go p e below _ (T105.setTop (mkF m 89 #[.val (.ref a), .val (.int (1 : Int32)), .val (.long (0 : Int64)), .second, .val (.long (0 : Int64)), .second, .val (.ref va), .val (.ref en), .val (.int (0 : Int32)), .val (.long (0 : Int64)), .second, .val (.ref un), .val (.int (3 : Int32)), .val (.int (0 : Int32))] [(.ref a), (.int (2 : Int32)), (.int (3 : Int32)), (.ref a)]))
  obtain ⟨T107, X107, e107, st107⟩ := getF X105 hx hZ hown (host := "") (Or.inl (hw _ (List.mem_of_getElem? (i := 26) rfl))) Via.refl e105 Fu (g := (mkF m 89 #[.val (.ref a), .val (.int (1 : Int32)), .val (.long (0 : Int64)), .second, .val (.long (0 : Int64)), .second, .val (.ref va), .val (.ref en), .val (.int (0 : Int32)), .val (.long (0 : Int64)), .second, .val (.ref un), .val (.int (3 : Int32)), .val (.int (0 : Int32))] [(.ref a), (.int (2 : Int32)), (.int (3 : Int32)), (.ref a)])) rfl rfl (hb hby d5_89)
  refine Go.st st107 ?_
  show Go p e below _ (T107.setTop (mkF m 92 #[.val (.ref a), .val (.int (1 : Int32)), .val (.long (0 : Int64)), .second, .val (.long (0 : Int64)), .second, .val (.ref va), .val (.ref en), .val (.int (0 : Int32)), .val (.long (0 : Int64)), .second, .val (.ref un), .val (.int (3 : Int32)), .val (.int (0 : Int32))] [(.ref w_NO_NUMBERS), (.int (2 : Int32)), (.int (3 : Int32)), (.ref a)]))
  obtain ⟨cll108, Arl108, ql108, Szl108, Nzl108, Hsl108, Gsl108⟩ := (id (A_NO_NUMBERS.ext O0))
  refine Go.st (X107.arraylength hx (by rw [e107]; exact Arl108.1) (State.isArrayOf_alike hZ.alike Arl108.2.1) (g := (mkF m 92 #[.val (.ref a), .val (.int (1 : Int32)), .val (.long (0 : Int64)), .second, .val (.long (0 : Int64)), .second, .val (.ref va), .val (.ref en), .val (.int (0 : Int32)), .val (.long (0 : Int64)), .second, .val (.ref un), .val (.int (3 : Int32)), .val (.int (0 : Int32))] [(.ref w_NO_NUMBERS), (.int (2 : Int32)), (.int (3 : Int32)), (.ref a)])) rfl rfl (hb hby d5_92)) ?_
  rw [len_of Szl108 Nzl108]
  show Go p e below _ (T107.setTop (mkF m 93 #[.val (.ref a), .val (.int (1 : Int32)), .val (.long (0 : Int64)), .second, .val (.long (0 : Int64)), .second, .val (.ref va), .val (.ref en), .val (.int (0 : Int32)), .val (.long (0 : Int64)), .second, .val (.ref un), .val (.int (3 : Int32)), .val (.int (0 : Int32))] [(.int (0 : Int32)), (.int (2 : Int32)), (.int (3 : Int32)), (.ref a)]))
  refine Go.st (fun t' k' => XS.imul X107.here hx rfl (hb hby d5_93) rfl k') ?_
  show Go p e below _ (T107.setTop (mkF m 94 #[.val (.ref a), .val (.int (1 : Int32)), .val (.long (0 : Int64)), .second, .val (.long (0 : Int64)), .second, .val (.ref va), .val (.ref en), .val (.int (0 : Int32)), .val (.long (0 : Int64)), .second, .val (.ref un), .val (.int (3 : Int32)), .val (.int (0 : Int32))] [(.int (0 : Int32)), (.int (3 : Int32)), (.ref a)]))
  obtain ⟨_, _, ⟨T109, L109, k109, n109⟩, -, X109, ⟨Lc109, hQ109, l109, y109, z109⟩, st109⟩ := Jvm.LawKit.callS X107 hx (y := (⟨"java/lang/Math", "max", "(II)I"⟩ : MethodName)) hown (mvT hZ (hw _ (List.mem_of_getElem? (i := 33) rfl))) (mvT hZ (hw _ (List.mem_of_getElem? (i := 5) rfl))) (mvT hZ (hw _ (List.mem_of_getElem? (i := 2) rfl))) (mvT hZ (hw _ (List.mem_of_getElem? (i := 6) rfl))) (by decide) (backOf (W := 1) (rmMax l Z a0 hw [] ((3 : Int32)) ((0 : Int32)) h0 O0 ) hZ (hw _ (List.mem_of_getElem? (i := 6) rfl)) (hw _ (List.mem_of_getElem? (i := 2) rfl)) (by decide) (by decide)) (g := (mkF m 94 #[.val (.ref a), .val (.int (1 : Int32)), .val (.long (0 : Int64)), .second, .val (.long (0 : Int64)), .second, .val (.ref va), .val (.ref en), .val (.int (0 : Int32)), .val (.long (0 : Int64)), .second, .val (.ref un), .val (.int (3 : Int32)), .val (.int (0 : Int32))] [(.int (0 : Int32)), (.int (3 : Int32)), (.ref a)])) rfl (by rw [hml]; rfl) (argsL := [(.int (3 : Int32)), (.int (0 : Int32))]) (rest := [(.ref a)]) (lenOf pd__II_I rfl) rfl (by show 2 * 0 + _ ≤ _; exact Nat.le_of_eq rfl) (hb hby d5_94) (fun _ _ => ⟨rfl, e107, (by decide : 0 + 0 ≤ _), (by decide : 0 + 0 ≤ _)⟩)
  dsimp only [Pt.U, Pt.locs, Pt.cells, Pt.slots] at X109 l109 y109 z109 st109 hQ109
  subst l109 y109 z109
  obtain ⟨rfl, rfl, e109⟩ := hQ109
  have N109 := Fr.app N0 (Fr.nil _)
  refine Go.st st109 ?_
  show Go p e below _ (T109.setTop (mkF m 97 #[.val (.ref a), .val (.int (1 : Int32)), .val (.long (0 : Int64)), .second, .val (.long (0 : Int64)), .second, .val (.ref va), .val (.ref en), .val (.int (0 : Int32)), .val (.long (0 : Int64)), .second, .val (.ref un), .val (.int (3 : Int32)), .val (.int (0 : Int32))] [(.int (3 : Int32)), (.ref a)]))
  obtain ⟨T110, h110, k110, X110, e110, E110, A110, st110⟩ := newP X109 hx hZ (hw _ (List.mem_of_getElem? (i := 8) rfl)) e109 (g := (mkF m 97 #[.val (.ref a), .val (.int (1 : Int32)), .val (.long (0 : Int64)), .second, .val (.long (0 : Int64)), .second, .val (.ref va), .val (.ref en), .val (.int (0 : Int32)), .val (.long (0 : Int64)), .second, .val (.ref un), .val (.int (3 : Int32)), .val (.int (0 : Int32))] [(.int (3 : Int32)), (.ref a)])) rfl (hb hby d5_97) rfl (by decide) (cap := 3) (by decide) (by decide) (by decide) (by decide)
  obtain ⟨b110, g110⟩ : ∃ z, z = h0.size := ⟨_, rfl⟩
  rw [← g110] at A110 st110
  refine Go.st st110 ?_
  have ne_w_NO_BYTES_b110 : w_NO_BYTES ≠ b110 := Nat.ne_of_lt (Nat.lt_of_lt_of_le (A_NO_BYTES.ext O0).lt (Nat.le_of_eq g110.symm))
  have ne_w_NO_NUMBERS_b110 : w_NO_NUMBERS ≠ b110 := Nat.ne_of_lt (Nat.lt_of_lt_of_le (A_NO_NUMBERS.ext O0).lt (Nat.le_of_eq g110.symm))
  have ne_a_b110 : a ≠ b110 := Nat.ne_of_lt (Nat.lt_of_lt_of_le Ea.lt (Nat.le_of_eq g110.symm))
  have ne_va_b110 : va ≠ b110 := Nat.ne_of_lt (Nat.lt_of_lt_of_le Av.lt (Nat.le_of_eq g110.symm))
  have ne_en_b110 : en ≠ b110 := Nat.ne_of_lt (Nat.lt_of_lt_of_le Ae.lt (Nat.le_of_eq g110.symm))
  have ne_un_b110 : un ≠ b110 := Nat.ne_of_lt (Nat.lt_of_lt_of_le Au.lt (Nat.le_of_eq g110.symm))
  have g_b110 : Z.heap.size ≤ b110 := Nat.le_trans O0.1 (Nat.le_of_eq g110.symm)
  have sz_b110 : h0.size ≤ b110 := Nat.le_trans K0.1 (Nat.le_of_eq g110.symm)
  have Ea_h111 := Ea.ext E110
  have Fb_h111 := Fb.ext E110
  have Fe_h111 := Fe.ext E110
  have Fu_h111 := Fu.ext E110
  have Fline_h111 := Fline.ext E110
  have Foffset_h111 := Foffset.ext E110
  have Flength_h111 := Flength.ext E110
  have Fkept_h111 := Fkept.ext E110
  have FfieldCount_h111 := FfieldCount.ext E110
  have FunprintableCount_h111 := FunprintableCount.ext E110
  have Av_h111 := Av.ext E110
  have Ae_h111 := Ae.ext E110
  have Au_h111 := Au.ext E110
  have O110 := own_ext_trans O0 E110
  have K110 := K0.ext E110
  have V_b110 : Arv Z h110 b110 k110 .int (3 : Int32) [(.int (0 : Int32)), (.int (0 : Int32)), (.int (0 : Int32))] (.int (0 : Int32)) := (Arv.new A110 (by decide)).pad (pad_rep [] (.int (0 : Int32)) 3)
  show Go p e below _ (T110.setTop (mkF m 99 #[.val (.ref a), .val (.int (1 : Int32)), .val (.long (0 : Int64)), .second, .val (.long (0 : Int64)), .second, .val (.ref va), .val (.ref en), .val (.int (0 : Int32)), .val (.long (0 : Int64)), .second, .val (.ref un), .val (.int (3 : Int32)), .val (.int (0 : Int32))] [(.ref b110), (.ref a)]))
  obtain ⟨T112, h112, X112, e112, W112, st112⟩ := putF X110 hx hZ hown (host := "") (Or.inl (hw _ (List.mem_of_getElem? (i := 26) rfl))) Via.refl e110 Fu_h111 Ea_h111 (Or.inl (hw _ (List.mem_of_getElem? (i := 27) rfl))) (hw _ (List.mem_of_getElem? (i := 10) rfl)) (ty := (.array .int)) (by decide) rfl rfl (g := (mkF m 99 #[.val (.ref a), .val (.int (1 : Int32)), .val (.long (0 : Int64)), .second, .val (.long (0 : Int64)), .second, .val (.ref va), .val (.ref en), .val (.int (0 : Int32)), .val (.long (0 : Int64)), .second, .val (.ref un), .val (.int (3 : Int32)), .val (.int (0 : Int32))] [(.ref b110), (.ref a)])) rfl rfl (hb hby d5_99)
  refine Go.st st112 ?_
  have Fw112 : Fld Z h112 a "com/example/harakeke/harakeke/model/Record" "unprintable" "[I" (.ref b110) := Fu_h111.same W112
  have Ea_h113 := Ea_h111.wr W112
  have Fb_h113 := Fb_h111.other W112 (Or.inr (slot_ne (Or.inl (hw _ (List.mem_of_getElem? (i := 21) rfl))) (Or.inl (hw _ (List.mem_of_getElem? (i := 27) rfl))) (by decide) (t := (.array .byte)) (t' := (.array .int)) (by decide) (by decide)))
  have Fe_h113 := Fe_h111.other W112 (Or.inr (slot_ne (Or.inl (hw _ (List.mem_of_getElem? (i := 25) rfl))) (Or.inl (hw _ (List.mem_of_getElem? (i := 27) rfl))) (by decide) (t := (.array .int)) (t' := (.array .int)) (by decide) (by decide)))
  have Fline_h113 := Fline_h111.other W112 (Or.inr (slot_ne (Or.inl (hw _ (List.mem_of_getElem? (i := 39) rfl))) (Or.inl (hw _ (List.mem_of_getElem? (i := 27) rfl))) (by decide) (t := .int) (t' := (.array .int)) (by decide) (by decide)))
  have Foffset_h113 := Foffset_h111.other W112 (Or.inr (slot_ne (Or.inl (hw _ (List.mem_of_getElem? (i := 41) rfl))) (Or.inl (hw _ (List.mem_of_getElem? (i := 27) rfl))) (by decide) (t := .long) (t' := (.array .int)) (by decide) (by decide)))
  have Flength_h113 := Flength_h111.other W112 (Or.inr (slot_ne (Or.inl (hw _ (List.mem_of_getElem? (i := 43) rfl))) (Or.inl (hw _ (List.mem_of_getElem? (i := 27) rfl))) (by decide) (t := .long) (t' := (.array .int)) (by decide) (by decide)))
  have Fkept_h113 := Fkept_h111.other W112 (Or.inr (slot_ne (Or.inl (hw _ (List.mem_of_getElem? (i := 45) rfl))) (Or.inl (hw _ (List.mem_of_getElem? (i := 27) rfl))) (by decide) (t := .int) (t' := (.array .int)) (by decide) (by decide)))
  have FfieldCount_h113 := FfieldCount_h111.other W112 (Or.inr (slot_ne (Or.inl (hw _ (List.mem_of_getElem? (i := 47) rfl))) (Or.inl (hw _ (List.mem_of_getElem? (i := 27) rfl))) (by decide) (t := .long) (t' := (.array .int)) (by decide) (by decide)))
  have FunprintableCount_h113 := FunprintableCount_h111.other W112 (Or.inr (slot_ne (Or.inl (hw _ (List.mem_of_getElem? (i := 49) rfl))) (Or.inl (hw _ (List.mem_of_getElem? (i := 27) rfl))) (by decide) (t := .int) (t' := (.array .int)) (by decide) (by decide)))
  have Av_h113 := Av_h111.other W112 Nva
  have Ae_h113 := Ae_h111.other W112 Nen
  have Au_h113 := Au_h111.other W112 Nun
  have V_b110_h113 := V_b110.other W112 (Ne.symm ne_a_b110)
  have O112 := own_ext_wr O110 W112 Ga
  have K112 := K110.wr W112 (Or.inl (List.mem_of_getElem? (i := 0) rfl))
  have N112 := Fr.snoc X112 N109 Ga
  show Go p e below _ (T112.setTop (mkF m 102 #[.val (.ref a), .val (.int (1 : Int32)), .val (.long (0 : Int64)), .second, .val (.long (0 : Int64)), .second, .val (.ref va), .val (.ref en), .val (.int (0 : Int32)), .val (.long (0 : Int64)), .second, .val (.ref un), .val (.int (3 : Int32)), .val (.int (0 : Int32))] []))
  refine Go.st (fun t' k' => XS.aload X112.here hx rfl (hb hby d5_102) rfl rfl k') ?_
  show Go p e below _ (T112.setTop (mkF m 104 #[.val (.ref a), .val (.int (1 : Int32)), .val (.long (0 : Int64)), .second, .val (.long (0 : Int64)), .second, .val (.ref va), .val (.ref en), .val (.int (0 : Int32)), .val (.long (0 : Int64)), .second, .val (.ref un), .val (.int (3 : Int32)), .val (.int (0 : Int32))] [(.ref va)]))
  refine Go.st (fun t' k' => XS.iconst X112.here hx rfl (hb hby d5_104) k') ?_
  show Go p e below _ (T112.setTop (mkF m 105 #[.val (.ref a), .val (.int (1 : Int32)), .val (.long (0 : Int64)), .second, .val (.long (0 : Int64)), .second, .val (.ref va), .val (.ref en), .val (.int (0 : Int32)), .val (.long (0 : Int64)), .second, .val (.ref un), .val (.int (3 : Int32)), .val (.int (0 : Int32))] [(.int (0 : Int32)), (.ref va)]))
  refine Go.st (fun t' k' => XS.aloadN X112.here hx rfl (hb hby d5_105) rfl rfl k') ?_
  show Go p e below _ (T112.setTop (mkF m 106 #[.val (.ref a), .val (.int (1 : Int32)), .val (.long (0 : Int64)), .second, .val (.long (0 : Int64)), .second, .val (.ref va), .val (.ref en), .val (.int (0 : Int32)), .val (.long (0 : Int64)), .second, .val (.ref un), .val (.int (3 : Int32)), .val (.int (0 : Int32))] [(.ref a), (.int (0 : Int32)), (.ref va)]))
  obtain ⟨T114, X114, e114, st114⟩ := getF X112 hx hZ hown (host := "") (Or.inl (hw _ (List.mem_of_getElem? (i := 20) rfl))) Via.refl e112 Fb_h113 (g := (mkF m 106 #[.val (.ref a), .val (.int (1 : Int32)), .val (.long (0 : Int64)), .second, .val (.long (0 : Int64)), .second, .val (.ref va), .val (.ref en), .val (.int (0 : Int32)), .val (.long (0 : Int64)), .second, .val (.ref un), .val (.int (3 : Int32)), .val (.int (0 : Int32))] [(.ref a), (.int (0 : Int32)), (.ref va)])) rfl rfl (hb hby d5_106)
  refine Go.st st114 ?_
  show Go p e below _ (T114.setTop (mkF m 109 #[.val (.ref a), .val (.int (1 : Int32)), .val (.long (0 : Int64)), .second, .val (.long (0 : Int64)), .second, .val (.ref va), .val (.ref en), .val (.int (0 : Int32)), .val (.long (0 : Int64)), .second, .val (.ref un), .val (.int (3 : Int32)), .val (.int (0 : Int32))] [(.ref w_NO_BYTES), (.int (0 : Int32)), (.ref va)]))
  refine Go.st (fun t' k' => XS.iconst X114.here hx rfl (hb hby d5_109) k') ?_
  show Go p e below _ (T114.setTop (mkF m 110 #[.val (.ref a), .val (.int (1 : Int32)), .val (.long (0 : Int64)), .second, .val (.long (0 : Int64)), .second, .val (.ref va), .val (.ref en), .val (.int (0 : Int32)), .val (.long (0 : Int64)), .second, .val (.ref un), .val (.int (3 : Int32)), .val (.int (0 : Int32))] [(.int (0 : Int32)), (.ref w_NO_BYTES), (.int (0 : Int32)), (.ref va)]))
  refine Go.st (fun t' k' => XS.iload X114.here hx rfl (hb hby d5_110) rfl k') ?_
  show Go p e below _ (T114.setTop (mkF m 112 #[.val (.ref a), .val (.int (1 : Int32)), .val (.long (0 : Int64)), .second, .val (.long (0 : Int64)), .second, .val (.ref va), .val (.ref en), .val (.int (0 : Int32)), .val (.long (0 : Int64)), .second, .val (.ref un), .val (.int (3 : Int32)), .val (.int (0 : Int32))] [(.int (0 : Int32)), (.int (0 : Int32)), (.ref w_NO_BYTES), (.int (0 : Int32)), (.ref va)]))
  obtain ⟨T115, X115, e115, st115⟩ := own_cp0 X114 hx hZ hown (hw _ (List.mem_of_getElem? (i := 34) rfl)) (hw _ (List.mem_of_getElem? (i := 37) rfl)) (hw _ (List.mem_of_getElem? (i := 35) rfl)) (hw _ (List.mem_of_getElem? (i := 36) rfl)) e114 Av_h113 (A_NO_BYTES.ext O112) rfl rfl (g := (mkF m 112 #[.val (.ref a), .val (.int (1 : Int32)), .val (.long (0 : Int64)), .second, .val (.long (0 : Int64)), .second, .val (.ref va), .val (.ref en), .val (.int (0 : Int32)), .val (.long (0 : Int64)), .second, .val (.ref un), .val (.int (3 : Int32)), .val (.int (0 : Int32))] [(.int (0 : Int32)), (.int (0 : Int32)), (.ref w_NO_BYTES), (.int (0 : Int32)), (.ref va)])) rfl (by rw [hml]; rfl) rfl (hb hby d5_112) (by decide) (W := 0) (by show 2 * 0 + _ ≤ _; exact Nat.le_of_eq rfl) (by decide)
  refine Go.st st115 ?_
  show Go p e below _ (T115.setTop (mkF m 115 #[.val (.ref a), .val (.int (1 : Int32)), .val (.long (0 : Int64)), .second, .val (.long (0 : Int64)), .second, .val (.ref va), .val (.ref en), .val (.int (0 : Int32)), .val (.long (0 : Int64)), .second, .val (.ref un), .val (.int (3 : Int32)), .val (.int (0 : Int32))] []))
  refine Go.st (fun t' k' => XS.aload X115.here hx rfl (hb hby d5_115) rfl rfl k') ?_
  show Go p e below _ (T115.setTop (mkF m 117 #[.val (.ref a), .val (.int (1 : Int32)), .val (.long (0 : Int64)), .second, .val (.long (0 : Int64)), .second, .val (.ref va), .val (.ref en), .val (.int (0 : Int32)), .val (.long (0 : Int64)), .second, .val (.ref un), .val (.int (3 : Int32)), .val (.int (0 : Int32))] [(.ref en)]))
  refine Go.st (fun t' k' => XS.iconst X115.here hx rfl (hb hby d5_117) k') ?_
  show Go p e below _ (T115.setTop (mkF m 118 #[.val (.ref a), .val (.int (1 : Int32)), .val (.long (0 : Int64)), .second, .val (.long (0 : Int64)), .second, .val (.ref va), .val (.ref en), .val (.int (0 : Int32)), .val (.long (0 : Int64)), .second, .val (.ref un), .val (.int (3 : Int32)), .val (.int (0 : Int32))] [(.int (0 : Int32)), (.ref en)]))
  refine Go.st (fun t' k' => XS.aloadN X115.here hx rfl (hb hby d5_118) rfl rfl k') ?_
  show Go p e below _ (T115.setTop (mkF m 119 #[.val (.ref a), .val (.int (1 : Int32)), .val (.long (0 : Int64)), .second, .val (.long (0 : Int64)), .second, .val (.ref va), .val (.ref en), .val (.int (0 : Int32)), .val (.long (0 : Int64)), .second, .val (.ref un), .val (.int (3 : Int32)), .val (.int (0 : Int32))] [(.ref a), (.int (0 : Int32)), (.ref en)]))
  obtain ⟨T116, X116, e116, st116⟩ := getF X115 hx hZ hown (host := "") (Or.inl (hw _ (List.mem_of_getElem? (i := 24) rfl))) Via.refl e115 Fe_h113 (g := (mkF m 119 #[.val (.ref a), .val (.int (1 : Int32)), .val (.long (0 : Int64)), .second, .val (.long (0 : Int64)), .second, .val (.ref va), .val (.ref en), .val (.int (0 : Int32)), .val (.long (0 : Int64)), .second, .val (.ref un), .val (.int (3 : Int32)), .val (.int (0 : Int32))] [(.ref a), (.int (0 : Int32)), (.ref en)])) rfl rfl (hb hby d5_119)
  refine Go.st st116 ?_
  show Go p e below _ (T116.setTop (mkF m 122 #[.val (.ref a), .val (.int (1 : Int32)), .val (.long (0 : Int64)), .second, .val (.long (0 : Int64)), .second, .val (.ref va), .val (.ref en), .val (.int (0 : Int32)), .val (.long (0 : Int64)), .second, .val (.ref un), .val (.int (3 : Int32)), .val (.int (0 : Int32))] [(.ref w_NO_NUMBERS), (.int (0 : Int32)), (.ref en)]))
  refine Go.st (fun t' k' => XS.iconst X116.here hx rfl (hb hby d5_122) k') ?_
  show Go p e below _ (T116.setTop (mkF m 123 #[.val (.ref a), .val (.int (1 : Int32)), .val (.long (0 : Int64)), .second, .val (.long (0 : Int64)), .second, .val (.ref va), .val (.ref en), .val (.int (0 : Int32)), .val (.long (0 : Int64)), .second, .val (.ref un), .val (.int (3 : Int32)), .val (.int (0 : Int32))] [(.int (0 : Int32)), (.ref w_NO_NUMBERS), (.int (0 : Int32)), (.ref en)]))
  refine Go.st (fun t' k' => XS.iload X116.here hx rfl (hb hby d5_123) rfl k') ?_
  show Go p e below _ (T116.setTop (mkF m 125 #[.val (.ref a), .val (.int (1 : Int32)), .val (.long (0 : Int64)), .second, .val (.long (0 : Int64)), .second, .val (.ref va), .val (.ref en), .val (.int (0 : Int32)), .val (.long (0 : Int64)), .second, .val (.ref un), .val (.int (3 : Int32)), .val (.int (0 : Int32))] [(.int (0 : Int32)), (.int (0 : Int32)), (.ref w_NO_NUMBERS), (.int (0 : Int32)), (.ref en)]))
  obtain ⟨T117, X117, e117, st117⟩ := own_cp0 X116 hx hZ hown (hw _ (List.mem_of_getElem? (i := 34) rfl)) (hw _ (List.mem_of_getElem? (i := 37) rfl)) (hw _ (List.mem_of_getElem? (i := 35) rfl)) (hw _ (List.mem_of_getElem? (i := 36) rfl)) e116 Ae_h113 (A_NO_NUMBERS.ext O112) rfl rfl (g := (mkF m 125 #[.val (.ref a), .val (.int (1 : Int32)), .val (.long (0 : Int64)), .second, .val (.long (0 : Int64)), .second, .val (.ref va), .val (.ref en), .val (.int (0 : Int32)), .val (.long (0 : Int64)), .second, .val (.ref un), .val (.int (3 : Int32)), .val (.int (0 : Int32))] [(.int (0 : Int32)), (.int (0 : Int32)), (.ref w_NO_NUMBERS), (.int (0 : Int32)), (.ref en)])) rfl (by rw [hml]; rfl) rfl (hb hby d5_125) (by decide) (W := 0) (by show 2 * 0 + _ ≤ _; exact Nat.le_of_eq rfl) (by decide)
  refine Go.st st117 ?_
  show Go p e below _ (T117.setTop (mkF m 128 #[.val (.ref a), .val (.int (1 : Int32)), .val (.long (0 : Int64)), .second, .val (.long (0 : Int64)), .second, .val (.ref va), .val (.ref en), .val (.int (0 : Int32)), .val (.long (0 : Int64)), .second, .val (.ref un), .val (.int (3 : Int32)), .val (.int (0 : Int32))] []))
  refine Go.st (fun t' k' => XS.aload X117.here hx rfl (hb hby d5_128) rfl rfl k') ?_
  show Go p e below _ (T117.setTop (mkF m 130 #[.val (.ref a), .val (.int (1 : Int32)), .val (.long (0 : Int64)), .second, .val (.long (0 : Int64)), .second, .val (.ref va), .val (.ref en), .val (.int (0 : Int32)), .val (.long (0 : Int64)), .second, .val (.ref un), .val (.int (3 : Int32)), .val (.int (0 : Int32))] [(.ref un)]))
  refine Go.st (fun t' k' => XS.iconst X117.here hx rfl (hb hby d5_130) k') ?_
  show Go p e below _ (T117.setTop (mkF m 131 #[.val (.ref a), .val (.int (1 : Int32)), .val (.long (0 : Int64)), .second, .val (.long (0 : Int64)), .second, .val (.ref va), .val (.ref en), .val (.int (0 : Int32)), .val (.long (0 : Int64)), .second, .val (.ref un), .val (.int (3 : Int32)), .val (.int (0 : Int32))] [(.int (0 : Int32)), (.ref un)]))
  refine Go.st (fun t' k' => XS.aloadN X117.here hx rfl (hb hby d5_131) rfl rfl k') ?_
  show Go p e below _ (T117.setTop (mkF m 132 #[.val (.ref a), .val (.int (1 : Int32)), .val (.long (0 : Int64)), .second, .val (.long (0 : Int64)), .second, .val (.ref va), .val (.ref en), .val (.int (0 : Int32)), .val (.long (0 : Int64)), .second, .val (.ref un), .val (.int (3 : Int32)), .val (.int (0 : Int32))] [(.ref a), (.int (0 : Int32)), (.ref un)]))
  obtain ⟨T118, X118, e118, st118⟩ := getF X117 hx hZ hown (host := "") (Or.inl (hw _ (List.mem_of_getElem? (i := 26) rfl))) Via.refl e117 Fw112 (g := (mkF m 132 #[.val (.ref a), .val (.int (1 : Int32)), .val (.long (0 : Int64)), .second, .val (.long (0 : Int64)), .second, .val (.ref va), .val (.ref en), .val (.int (0 : Int32)), .val (.long (0 : Int64)), .second, .val (.ref un), .val (.int (3 : Int32)), .val (.int (0 : Int32))] [(.ref a), (.int (0 : Int32)), (.ref un)])) rfl rfl (hb hby d5_132)
  refine Go.st st118 ?_
  show Go p e below _ (T118.setTop (mkF m 135 #[.val (.ref a), .val (.int (1 : Int32)), .val (.long (0 : Int64)), .second, .val (.long (0 : Int64)), .second, .val (.ref va), .val (.ref en), .val (.int (0 : Int32)), .val (.long (0 : Int64)), .second, .val (.ref un), .val (.int (3 : Int32)), .val (.int (0 : Int32))] [(.ref b110), (.int (0 : Int32)), (.ref un)]))
  refine Go.st (fun t' k' => XS.iconst X118.here hx rfl (hb hby d5_135) k') ?_
  show Go p e below _ (T118.setTop (mkF m 136 #[.val (.ref a), .val (.int (1 : Int32)), .val (.long (0 : Int64)), .second, .val (.long (0 : Int64)), .second, .val (.ref va), .val (.ref en), .val (.int (0 : Int32)), .val (.long (0 : Int64)), .second, .val (.ref un), .val (.int (3 : Int32)), .val (.int (0 : Int32))] [(.int (0 : Int32)), (.ref b110), (.int (0 : Int32)), (.ref un)]))
  refine Go.st (fun t' k' => XS.iload X118.here hx rfl (hb hby d5_136) rfl k') ?_
  show Go p e below _ (T118.setTop (mkF m 138 #[.val (.ref a), .val (.int (1 : Int32)), .val (.long (0 : Int64)), .second, .val (.long (0 : Int64)), .second, .val (.ref va), .val (.ref en), .val (.int (0 : Int32)), .val (.long (0 : Int64)), .second, .val (.ref un), .val (.int (3 : Int32)), .val (.int (0 : Int32))] [(.int (3 : Int32)), (.int (0 : Int32)), (.ref b110), (.int (0 : Int32)), (.ref un)]))
  obtain ⟨T119, h119, L119, X119, e119, N119, Kp119, Vp119, st119⟩ := cpA X118 hx hZ hown (hw _ (List.mem_of_getElem? (i := 34) rfl)) (hw _ (List.mem_of_getElem? (i := 37) rfl)) (hw _ (List.mem_of_getElem? (i := 35) rfl)) (hw _ (List.mem_of_getElem? (i := 36) rfl)) e118 Au_h113 V_b110_h113 (Or.inl ⟨rfl, rfl⟩) (by decide) (by decide) (by decide) (by decide) (by decide) (us := _) rfl (by decide) N112 g_b110 (g := (mkF m 138 #[.val (.ref a), .val (.int (1 : Int32)), .val (.long (0 : Int64)), .second, .val (.long (0 : Int64)), .second, .val (.ref va), .val (.ref en), .val (.int (0 : Int32)), .val (.long (0 : Int64)), .second, .val (.ref un), .val (.int (3 : Int32)), .val (.int (0 : Int32))] [(.int (3 : Int32)), (.int (0 : Int32)), (.ref b110), (.int (0 : Int32)), (.ref un)])) rfl (by rw [hml]; rfl) rfl (hb hby d5_138) (by decide) (W := 0) (by show 2 * 0 + _ ≤ _; exact Nat.le_of_eq rfl) (by decide)
  refine Go.st st119 ?_
  have Ea_h120 := Ea_h113.keep Kp119
  have Fb_h120 := Fb_h113.keep Kp119 (ninS ne_a_b110 nin0)
  have Fe_h120 := Fe_h113.keep Kp119 (ninS ne_a_b110 nin0)
  have Fline_h120 := Fline_h113.keep Kp119 (ninS ne_a_b110 nin0)
  have Foffset_h120 := Foffset_h113.keep Kp119 (ninS ne_a_b110 nin0)
  have Flength_h120 := Flength_h113.keep Kp119 (ninS ne_a_b110 nin0)
  have Fkept_h120 := Fkept_h113.keep Kp119 (ninS ne_a_b110 nin0)
  have FfieldCount_h120 := FfieldCount_h113.keep Kp119 (ninS ne_a_b110 nin0)
  have FunprintableCount_h120 := FunprintableCount_h113.keep Kp119 (ninS ne_a_b110 nin0)
  have Av_h120 := Av_h113.keep Kp119 (ninS ne_va_b110 nin0)
  have Ae_h120 := Ae_h113.keep Kp119 (ninS ne_en_b110 nin0)
  have Au_h120 := Au_h113.keep Kp119 (ninS ne_un_b110 nin0)
  have Fw112_h120 := Fw112.keep Kp119 (ninS ne_a_b110 nin0)
  have O119 := own_ext_keep O112 Kp119 (allS g_b110 all0)
  have K119 := K112.trans Kp119 (allS (Or.inr sz_b110) all0)
  have V_b110_119 : Arv Z h119 b110 k110 .int (3 : Int32) [(.int lo), (.int mid), (.int hi)] (.int (0 : Int32)) := Vp119
  show Go p e below _ (T119.setTop (mkF m 141 #[.val (.ref a), .val (.int (1 : Int32)), .val (.long (0 : Int64)), .second, .val (.long (0 : Int64)), .second, .val (.ref va), .val (.ref en), .val (.int (0 : Int32)), .val (.long (0 : Int64)), .second, .val (.ref un), .val (.int (3 : Int32)), .val (.int (0 : Int32))] []))
  refine Go.st (fun t' k' => XS.aloadN X119.here hx rfl (hb hby d5_141) rfl rfl k') ?_
  show Go p e below _ (T119.setTop (mkF m 142 #[.val (.ref a), .val (.int (1 : Int32)), .val (.long (0 : Int64)), .second, .val (.long (0 : Int64)), .second, .val (.ref va), .val (.ref en), .val (.int (0 : Int32)), .val (.long (0 : Int64)), .second, .val (.ref un), .val (.int (3 : Int32)), .val (.int (0 : Int32))] [(.ref a)]))
  refine Go.st (fun t' k' => XS.iloadN X119.here hx rfl (hb hby d5_142) rfl k') ?_
  show Go p e below _ (T119.setTop (mkF m 143 #[.val (.ref a), .val (.int (1 : Int32)), .val (.long (0 : Int64)), .second, .val (.long (0 : Int64)), .second, .val (.ref va), .val (.ref en), .val (.int (0 : Int32)), .val (.long (0 : Int64)), .second, .val (.ref un), .val (.int (3 : Int32)), .val (.int (0 : Int32))] [(.int (1 : Int32)), (.ref a)]))
  obtain ⟨T121, h121, X121, e121, W121, st121⟩ := putF X119 hx hZ hown (host := "") (Or.inl (hw _ (List.mem_of_getElem? (i := 38) rfl))) Via.refl e119 Fline_h120 Ea_h120 (Or.inl (hw _ (List.mem_of_getElem? (i := 39) rfl))) (hw _ (List.mem_of_getElem? (i := 10) rfl)) (ty := .int) (by decide) rfl rfl (g := (mkF m 143 #[.val (.ref a), .val (.int (1 : Int32)), .val (.long (0 : Int64)), .second, .val (.long (0 : Int64)), .second, .val (.ref va), .val (.ref en), .val (.int (0 : Int32)), .val (.long (0 : Int64)), .second, .val (.ref un), .val (.int (3 : Int32)), .val (.int (0 : Int32))] [(.int (1 : Int32)), (.ref a)])) rfl rfl (hb hby d5_143)
  refine Go.st st121 ?_
  have Fw121 : Fld Z h121 a "com/example/harakeke/harakeke/model/Record" "line" "I" (.int (1 : Int32)) := Fline_h120.same W121
  have Ea_h122 := Ea_h120.wr W121
  have Fb_h122 := Fb_h120.other W121 (Or.inr (slot_ne (Or.inl (hw _ (List.mem_of_getElem? (i := 21) rfl))) (Or.inl (hw _ (List.mem_of_getElem? (i := 39) rfl))) (by decide) (t := (.array .byte)) (t' := .int) (by decide) (by decide)))
  have Fe_h122 := Fe_h120.other W121 (Or.inr (slot_ne (Or.inl (hw _ (List.mem_of_getElem? (i := 25) rfl))) (Or.inl (hw _ (List.mem_of_getElem? (i := 39) rfl))) (by decide) (t := (.array .int)) (t' := .int) (by decide) (by decide)))
  have Foffset_h122 := Foffset_h120.other W121 (Or.inr (slot_ne (Or.inl (hw _ (List.mem_of_getElem? (i := 41) rfl))) (Or.inl (hw _ (List.mem_of_getElem? (i := 39) rfl))) (by decide) (t := .long) (t' := .int) (by decide) (by decide)))
  have Flength_h122 := Flength_h120.other W121 (Or.inr (slot_ne (Or.inl (hw _ (List.mem_of_getElem? (i := 43) rfl))) (Or.inl (hw _ (List.mem_of_getElem? (i := 39) rfl))) (by decide) (t := .long) (t' := .int) (by decide) (by decide)))
  have Fkept_h122 := Fkept_h120.other W121 (Or.inr (slot_ne (Or.inl (hw _ (List.mem_of_getElem? (i := 45) rfl))) (Or.inl (hw _ (List.mem_of_getElem? (i := 39) rfl))) (by decide) (t := .int) (t' := .int) (by decide) (by decide)))
  have FfieldCount_h122 := FfieldCount_h120.other W121 (Or.inr (slot_ne (Or.inl (hw _ (List.mem_of_getElem? (i := 47) rfl))) (Or.inl (hw _ (List.mem_of_getElem? (i := 39) rfl))) (by decide) (t := .long) (t' := .int) (by decide) (by decide)))
  have FunprintableCount_h122 := FunprintableCount_h120.other W121 (Or.inr (slot_ne (Or.inl (hw _ (List.mem_of_getElem? (i := 49) rfl))) (Or.inl (hw _ (List.mem_of_getElem? (i := 39) rfl))) (by decide) (t := .int) (t' := .int) (by decide) (by decide)))
  have Av_h122 := Av_h120.other W121 Nva
  have Ae_h122 := Ae_h120.other W121 Nen
  have Au_h122 := Au_h120.other W121 Nun
  have Fw112_h122 := Fw112_h120.other W121 (Or.inr (slot_ne (Or.inl (hw _ (List.mem_of_getElem? (i := 27) rfl))) (Or.inl (hw _ (List.mem_of_getElem? (i := 39) rfl))) (by decide) (t := (.array .int)) (t' := .int) (by decide) (by decide)))
  have V_b110_119_h122 := V_b110_119.other W121 (Ne.symm ne_a_b110)
  have O121 := own_ext_wr O119 W121 Ga
  have K121 := K119.wr W121 (Or.inl (List.mem_of_getElem? (i := 0) rfl))
  have N121 := Fr.snoc X121 N119 Ga
  show Go p e below _ (T121.setTop (mkF m 146 #[.val (.ref a), .val (.int (1 : Int32)), .val (.long (0 : Int64)), .second, .val (.long (0 : Int64)), .second, .val (.ref va), .val (.ref en), .val (.int (0 : Int32)), .val (.long (0 : Int64)), .second, .val (.ref un), .val (.int (3 : Int32)), .val (.int (0 : Int32))] []))
  refine Go.st (fun t' k' => XS.aloadN X121.here hx rfl (hb hby d5_146) rfl rfl k') ?_
  show Go p e below _ (T121.setTop (mkF m 147 #[.val (.ref a), .val (.int (1 : Int32)), .val (.long (0 : Int64)), .second, .val (.long (0 : Int64)), .second, .val (.ref va), .val (.ref en), .val (.int (0 : Int32)), .val (.long (0 : Int64)), .second, .val (.ref un), .val (.int (3 : Int32)), .val (.int (0 : Int32))] [(.ref a)]))
  refine Go.st (fun t' k' => XS.lloadN X121.here hx rfl (hb hby d5_147) rfl k') ?_
  show Go p e below _ (T121.setTop (mkF m 148 #[.val (.ref a), .val (.int (1 : Int32)), .val (.long (0 : Int64)), .second, .val (.long (0 : Int64)), .second, .val (.ref va), .val (.ref en), .val (.int (0 : Int32)), .val (.long (0 : Int64)), .second, .val (.ref un), .val (.int (3 : Int32)), .val (.int (0 : Int32))] [(.long (0 : Int64)), (.ref a)]))
  obtain ⟨T123, h123, X123, e123, W123, st123⟩ := putF X121 hx hZ hown (host := "") (Or.inl (hw _ (List.mem_of_getElem? (i := 40) rfl))) Via.refl e121 Foffset_h122 Ea_h122 (Or.inl (hw _ (List.mem_of_getElem? (i := 41) rfl))) (hw _ (List.mem_of_getElem? (i := 10) rfl)) (ty := .long) (by decide) rfl rfl (g := (mkF m 148 #[.val (.ref a), .val (.int (1 : Int32)), .val (.long (0 : Int64)), .second, .val (.long (0 : Int64)), .second, .val (.ref va), .val (.ref en), .val (.int (0 : Int32)), .val (.long (0 : Int64)), .second, .val (.ref un), .val (.int (3 : Int32)), .val (.int (0 : Int32))] [(.long (0 : Int64)), (.ref a)])) rfl rfl (hb hby d5_148)
  refine Go.st st123 ?_
  have Fw123 : Fld Z h123 a "com/example/harakeke/harakeke/model/Record" "offset" "J" (.long (0 : Int64)) := Foffset_h122.same W123
  have Ea_h124 := Ea_h122.wr W123
  have Fb_h124 := Fb_h122.other W123 (Or.inr (slot_ne (Or.inl (hw _ (List.mem_of_getElem? (i := 21) rfl))) (Or.inl (hw _ (List.mem_of_getElem? (i := 41) rfl))) (by decide) (t := (.array .byte)) (t' := .long) (by decide) (by decide)))
  have Fe_h124 := Fe_h122.other W123 (Or.inr (slot_ne (Or.inl (hw _ (List.mem_of_getElem? (i := 25) rfl))) (Or.inl (hw _ (List.mem_of_getElem? (i := 41) rfl))) (by decide) (t := (.array .int)) (t' := .long) (by decide) (by decide)))
  have Flength_h124 := Flength_h122.other W123 (Or.inr (slot_ne (Or.inl (hw _ (List.mem_of_getElem? (i := 43) rfl))) (Or.inl (hw _ (List.mem_of_getElem? (i := 41) rfl))) (by decide) (t := .long) (t' := .long) (by decide) (by decide)))
  have Fkept_h124 := Fkept_h122.other W123 (Or.inr (slot_ne (Or.inl (hw _ (List.mem_of_getElem? (i := 45) rfl))) (Or.inl (hw _ (List.mem_of_getElem? (i := 41) rfl))) (by decide) (t := .int) (t' := .long) (by decide) (by decide)))
  have FfieldCount_h124 := FfieldCount_h122.other W123 (Or.inr (slot_ne (Or.inl (hw _ (List.mem_of_getElem? (i := 47) rfl))) (Or.inl (hw _ (List.mem_of_getElem? (i := 41) rfl))) (by decide) (t := .long) (t' := .long) (by decide) (by decide)))
  have FunprintableCount_h124 := FunprintableCount_h122.other W123 (Or.inr (slot_ne (Or.inl (hw _ (List.mem_of_getElem? (i := 49) rfl))) (Or.inl (hw _ (List.mem_of_getElem? (i := 41) rfl))) (by decide) (t := .int) (t' := .long) (by decide) (by decide)))
  have Av_h124 := Av_h122.other W123 Nva
  have Ae_h124 := Ae_h122.other W123 Nen
  have Au_h124 := Au_h122.other W123 Nun
  have Fw112_h124 := Fw112_h122.other W123 (Or.inr (slot_ne (Or.inl (hw _ (List.mem_of_getElem? (i := 27) rfl))) (Or.inl (hw _ (List.mem_of_getElem? (i := 41) rfl))) (by decide) (t := (.array .int)) (t' := .long) (by decide) (by decide)))
  have V_b110_119_h124 := V_b110_119_h122.other W123 (Ne.symm ne_a_b110)
  have Fw121_h124 := Fw121.other W123 (Or.inr (slot_ne (Or.inl (hw _ (List.mem_of_getElem? (i := 39) rfl))) (Or.inl (hw _ (List.mem_of_getElem? (i := 41) rfl))) (by decide) (t := .int) (t' := .long) (by decide) (by decide)))
  have O123 := own_ext_wr O121 W123 Ga
  have K123 := K121.wr W123 (Or.inl (List.mem_of_getElem? (i := 0) rfl))
  have N123 := Fr.snoc X123 N121 Ga
  show Go p e below _ (T123.setTop (mkF m 151 #[.val (.ref a), .val (.int (1 : Int32)), .val (.long (0 : Int64)), .second, .val (.long (0 : Int64)), .second, .val (.ref va), .val (.ref en), .val (.int (0 : Int32)), .val (.long (0 : Int64)), .second, .val (.ref un), .val (.int (3 : Int32)), .val (.int (0 : Int32))] []))
  refine Go.st (fun t' k' => XS.aloadN X123.here hx rfl (hb hby d5_151) rfl rfl k') ?_
  show Go p e below _ (T123.setTop (mkF m 152 #[.val (.ref a), .val (.int (1 : Int32)), .val (.long (0 : Int64)), .second, .val (.long (0 : Int64)), .second, .val (.ref va), .val (.ref en), .val (.int (0 : Int32)), .val (.long (0 : Int64)), .second, .val (.ref un), .val (.int (3 : Int32)), .val (.int (0 : Int32))] [(.ref a)]))
  refine Go.st (fun t' k' => XS.lload X123.here hx rfl (hb hby d5_152) rfl k') ?_
  show Go p e below _ (T123.setTop (mkF m 154 #[.val (.ref a), .val (.int (1 : Int32)), .val (.long (0 : Int64)), .second, .val (.long (0 : Int64)), .second, .val (.ref va), .val (.ref en), .val (.int (0 : Int32)), .val (.long (0 : Int64)), .second, .val (.ref un), .val (.int (3 : Int32)), .val (.int (0 : Int32))] [(.long (0 : Int64)), (.ref a)]))
  obtain ⟨T125, h125, X125, e125, W125, st125⟩ := putF X123 hx hZ hown (host := "") (Or.inl (hw _ (List.mem_of_getElem? (i := 42) rfl))) Via.refl e123 Flength_h124 Ea_h124 (Or.inl (hw _ (List.mem_of_getElem? (i := 43) rfl))) (hw _ (List.mem_of_getElem? (i := 10) rfl)) (ty := .long) (by decide) rfl rfl (g := (mkF m 154 #[.val (.ref a), .val (.int (1 : Int32)), .val (.long (0 : Int64)), .second, .val (.long (0 : Int64)), .second, .val (.ref va), .val (.ref en), .val (.int (0 : Int32)), .val (.long (0 : Int64)), .second, .val (.ref un), .val (.int (3 : Int32)), .val (.int (0 : Int32))] [(.long (0 : Int64)), (.ref a)])) rfl rfl (hb hby d5_154)
  refine Go.st st125 ?_
  have Fw125 : Fld Z h125 a "com/example/harakeke/harakeke/model/Record" "length" "J" (.long (0 : Int64)) := Flength_h124.same W125
  have Ea_h126 := Ea_h124.wr W125
  have Fb_h126 := Fb_h124.other W125 (Or.inr (slot_ne (Or.inl (hw _ (List.mem_of_getElem? (i := 21) rfl))) (Or.inl (hw _ (List.mem_of_getElem? (i := 43) rfl))) (by decide) (t := (.array .byte)) (t' := .long) (by decide) (by decide)))
  have Fe_h126 := Fe_h124.other W125 (Or.inr (slot_ne (Or.inl (hw _ (List.mem_of_getElem? (i := 25) rfl))) (Or.inl (hw _ (List.mem_of_getElem? (i := 43) rfl))) (by decide) (t := (.array .int)) (t' := .long) (by decide) (by decide)))
  have Fkept_h126 := Fkept_h124.other W125 (Or.inr (slot_ne (Or.inl (hw _ (List.mem_of_getElem? (i := 45) rfl))) (Or.inl (hw _ (List.mem_of_getElem? (i := 43) rfl))) (by decide) (t := .int) (t' := .long) (by decide) (by decide)))
  have FfieldCount_h126 := FfieldCount_h124.other W125 (Or.inr (slot_ne (Or.inl (hw _ (List.mem_of_getElem? (i := 47) rfl))) (Or.inl (hw _ (List.mem_of_getElem? (i := 43) rfl))) (by decide) (t := .long) (t' := .long) (by decide) (by decide)))
  have FunprintableCount_h126 := FunprintableCount_h124.other W125 (Or.inr (slot_ne (Or.inl (hw _ (List.mem_of_getElem? (i := 49) rfl))) (Or.inl (hw _ (List.mem_of_getElem? (i := 43) rfl))) (by decide) (t := .int) (t' := .long) (by decide) (by decide)))
  have Av_h126 := Av_h124.other W125 Nva
  have Ae_h126 := Ae_h124.other W125 Nen
  have Au_h126 := Au_h124.other W125 Nun
  have Fw112_h126 := Fw112_h124.other W125 (Or.inr (slot_ne (Or.inl (hw _ (List.mem_of_getElem? (i := 27) rfl))) (Or.inl (hw _ (List.mem_of_getElem? (i := 43) rfl))) (by decide) (t := (.array .int)) (t' := .long) (by decide) (by decide)))
  have V_b110_119_h126 := V_b110_119_h124.other W125 (Ne.symm ne_a_b110)
  have Fw121_h126 := Fw121_h124.other W125 (Or.inr (slot_ne (Or.inl (hw _ (List.mem_of_getElem? (i := 39) rfl))) (Or.inl (hw _ (List.mem_of_getElem? (i := 43) rfl))) (by decide) (t := .int) (t' := .long) (by decide) (by decide)))
  have Fw123_h126 := Fw123.other W125 (Or.inr (slot_ne (Or.inl (hw _ (List.mem_of_getElem? (i := 41) rfl))) (Or.inl (hw _ (List.mem_of_getElem? (i := 43) rfl))) (by decide) (t := .long) (t' := .long) (by decide) (by decide)))
  have O125 := own_ext_wr O123 W125 Ga
  have K125 := K123.wr W125 (Or.inl (List.mem_of_getElem? (i := 0) rfl))
  have N125 := Fr.snoc X125 N123 Ga
  show Go p e below _ (T125.setTop (mkF m 157 #[.val (.ref a), .val (.int (1 : Int32)), .val (.long (0 : Int64)), .second, .val (.long (0 : Int64)), .second, .val (.ref va), .val (.ref en), .val (.int (0 : Int32)), .val (.long (0 : Int64)), .second, .val (.ref un), .val (.int (3 : Int32)), .val (.int (0 : Int32))] []))
  refine Go.st (fun t' k' => XS.aloadN X125.here hx rfl (hb hby d5_157) rfl rfl k') ?_
  show Go p e below _ (T125.setTop (mkF m 158 #[.val (.ref a), .val (.int (1 : Int32)), .val (.long (0 : Int64)), .second, .val (.long (0 : Int64)), .second, .val (.ref va), .val (.ref en), .val (.int (0 : Int32)), .val (.long (0 : Int64)), .second, .val (.ref un), .val (.int (3 : Int32)), .val (.int (0 : Int32))] [(.ref a)]))
  refine Go.st (fun t' k' => XS.iload X125.here hx rfl (hb hby d5_158) rfl k') ?_
  show Go p e below _ (T125.setTop (mkF m 160 #[.val (.ref a), .val (.int (1 : Int32)), .val (.long (0 : Int64)), .second, .val (.long (0 : Int64)), .second, .val (.ref va), .val (.ref en), .val (.int (0 : Int32)), .val (.long (0 : Int64)), .second, .val (.ref un), .val (.int (3 : Int32)), .val (.int (0 : Int32))] [(.int (0 : Int32)), (.ref a)]))
  obtain ⟨T127, h127, X127, e127, W127, st127⟩ := putF X125 hx hZ hown (host := "") (Or.inl (hw _ (List.mem_of_getElem? (i := 44) rfl))) Via.refl e125 Fkept_h126 Ea_h126 (Or.inl (hw _ (List.mem_of_getElem? (i := 45) rfl))) (hw _ (List.mem_of_getElem? (i := 10) rfl)) (ty := .int) (by decide) rfl rfl (g := (mkF m 160 #[.val (.ref a), .val (.int (1 : Int32)), .val (.long (0 : Int64)), .second, .val (.long (0 : Int64)), .second, .val (.ref va), .val (.ref en), .val (.int (0 : Int32)), .val (.long (0 : Int64)), .second, .val (.ref un), .val (.int (3 : Int32)), .val (.int (0 : Int32))] [(.int (0 : Int32)), (.ref a)])) rfl rfl (hb hby d5_160)
  refine Go.st st127 ?_
  have Fw127 : Fld Z h127 a "com/example/harakeke/harakeke/model/Record" "kept" "I" (.int (0 : Int32)) := Fkept_h126.same W127
  have Ea_h128 := Ea_h126.wr W127
  have Fb_h128 := Fb_h126.other W127 (Or.inr (slot_ne (Or.inl (hw _ (List.mem_of_getElem? (i := 21) rfl))) (Or.inl (hw _ (List.mem_of_getElem? (i := 45) rfl))) (by decide) (t := (.array .byte)) (t' := .int) (by decide) (by decide)))
  have Fe_h128 := Fe_h126.other W127 (Or.inr (slot_ne (Or.inl (hw _ (List.mem_of_getElem? (i := 25) rfl))) (Or.inl (hw _ (List.mem_of_getElem? (i := 45) rfl))) (by decide) (t := (.array .int)) (t' := .int) (by decide) (by decide)))
  have FfieldCount_h128 := FfieldCount_h126.other W127 (Or.inr (slot_ne (Or.inl (hw _ (List.mem_of_getElem? (i := 47) rfl))) (Or.inl (hw _ (List.mem_of_getElem? (i := 45) rfl))) (by decide) (t := .long) (t' := .int) (by decide) (by decide)))
  have FunprintableCount_h128 := FunprintableCount_h126.other W127 (Or.inr (slot_ne (Or.inl (hw _ (List.mem_of_getElem? (i := 49) rfl))) (Or.inl (hw _ (List.mem_of_getElem? (i := 45) rfl))) (by decide) (t := .int) (t' := .int) (by decide) (by decide)))
  have Av_h128 := Av_h126.other W127 Nva
  have Ae_h128 := Ae_h126.other W127 Nen
  have Au_h128 := Au_h126.other W127 Nun
  have Fw112_h128 := Fw112_h126.other W127 (Or.inr (slot_ne (Or.inl (hw _ (List.mem_of_getElem? (i := 27) rfl))) (Or.inl (hw _ (List.mem_of_getElem? (i := 45) rfl))) (by decide) (t := (.array .int)) (t' := .int) (by decide) (by decide)))
  have V_b110_119_h128 := V_b110_119_h126.other W127 (Ne.symm ne_a_b110)
  have Fw121_h128 := Fw121_h126.other W127 (Or.inr (slot_ne (Or.inl (hw _ (List.mem_of_getElem? (i := 39) rfl))) (Or.inl (hw _ (List.mem_of_getElem? (i := 45) rfl))) (by decide) (t := .int) (t' := .int) (by decide) (by decide)))
  have Fw123_h128 := Fw123_h126.other W127 (Or.inr (slot_ne (Or.inl (hw _ (List.mem_of_getElem? (i := 41) rfl))) (Or.inl (hw _ (List.mem_of_getElem? (i := 45) rfl))) (by decide) (t := .long) (t' := .int) (by decide) (by decide)))
  have Fw125_h128 := Fw125.other W127 (Or.inr (slot_ne (Or.inl (hw _ (List.mem_of_getElem? (i := 43) rfl))) (Or.inl (hw _ (List.mem_of_getElem? (i := 45) rfl))) (by decide) (t := .long) (t' := .int) (by decide) (by decide)))
  have O127 := own_ext_wr O125 W127 Ga
  have K127 := K125.wr W127 (Or.inl (List.mem_of_getElem? (i := 0) rfl))
  have N127 := Fr.snoc X127 N125 Ga
  show Go p e below _ (T127.setTop (mkF m 163 #[.val (.ref a), .val (.int (1 : Int32)), .val (.long (0 : Int64)), .second, .val (.long (0 : Int64)), .second, .val (.ref va), .val (.ref en), .val (.int (0 : Int32)), .val (.long (0 : Int64)), .second, .val (.ref un), .val (.int (3 : Int32)), .val (.int (0 : Int32))] []))
  refine Go.st (fun t' k' => XS.aloadN X127.here hx rfl (hb hby d5_163) rfl rfl k') ?_
  show Go p e below _ (T127.setTop (mkF m 164 #[.val (.ref a), .val (.int (1 : Int32)), .val (.long (0 : Int64)), .second, .val (.long (0 : Int64)), .second, .val (.ref va), .val (.ref en), .val (.int (0 : Int32)), .val (.long (0 : Int64)), .second, .val (.ref un), .val (.int (3 : Int32)), .val (.int (0 : Int32))] [(.ref a)]))
  refine Go.st (fun t' k' => XS.lload X127.here hx rfl (hb hby d5_164) rfl k') ?_
  show Go p e below _ (T127.setTop (mkF m 166 #[.val (.ref a), .val (.int (1 : Int32)), .val (.long (0 : Int64)), .second, .val (.long (0 : Int64)), .second, .val (.ref va), .val (.ref en), .val (.int (0 : Int32)), .val (.long (0 : Int64)), .second, .val (.ref un), .val (.int (3 : Int32)), .val (.int (0 : Int32))] [(.long (0 : Int64)), (.ref a)]))
  obtain ⟨T129, h129, X129, e129, W129, st129⟩ := putF X127 hx hZ hown (host := "") (Or.inl (hw _ (List.mem_of_getElem? (i := 46) rfl))) Via.refl e127 FfieldCount_h128 Ea_h128 (Or.inl (hw _ (List.mem_of_getElem? (i := 47) rfl))) (hw _ (List.mem_of_getElem? (i := 10) rfl)) (ty := .long) (by decide) rfl rfl (g := (mkF m 166 #[.val (.ref a), .val (.int (1 : Int32)), .val (.long (0 : Int64)), .second, .val (.long (0 : Int64)), .second, .val (.ref va), .val (.ref en), .val (.int (0 : Int32)), .val (.long (0 : Int64)), .second, .val (.ref un), .val (.int (3 : Int32)), .val (.int (0 : Int32))] [(.long (0 : Int64)), (.ref a)])) rfl rfl (hb hby d5_166)
  refine Go.st st129 ?_
  have Fw129 : Fld Z h129 a "com/example/harakeke/harakeke/model/Record" "fieldCount" "J" (.long (0 : Int64)) := FfieldCount_h128.same W129
  have Ea_h130 := Ea_h128.wr W129
  have Fb_h130 := Fb_h128.other W129 (Or.inr (slot_ne (Or.inl (hw _ (List.mem_of_getElem? (i := 21) rfl))) (Or.inl (hw _ (List.mem_of_getElem? (i := 47) rfl))) (by decide) (t := (.array .byte)) (t' := .long) (by decide) (by decide)))
  have Fe_h130 := Fe_h128.other W129 (Or.inr (slot_ne (Or.inl (hw _ (List.mem_of_getElem? (i := 25) rfl))) (Or.inl (hw _ (List.mem_of_getElem? (i := 47) rfl))) (by decide) (t := (.array .int)) (t' := .long) (by decide) (by decide)))
  have FunprintableCount_h130 := FunprintableCount_h128.other W129 (Or.inr (slot_ne (Or.inl (hw _ (List.mem_of_getElem? (i := 49) rfl))) (Or.inl (hw _ (List.mem_of_getElem? (i := 47) rfl))) (by decide) (t := .int) (t' := .long) (by decide) (by decide)))
  have Av_h130 := Av_h128.other W129 Nva
  have Ae_h130 := Ae_h128.other W129 Nen
  have Au_h130 := Au_h128.other W129 Nun
  have Fw112_h130 := Fw112_h128.other W129 (Or.inr (slot_ne (Or.inl (hw _ (List.mem_of_getElem? (i := 27) rfl))) (Or.inl (hw _ (List.mem_of_getElem? (i := 47) rfl))) (by decide) (t := (.array .int)) (t' := .long) (by decide) (by decide)))
  have V_b110_119_h130 := V_b110_119_h128.other W129 (Ne.symm ne_a_b110)
  have Fw121_h130 := Fw121_h128.other W129 (Or.inr (slot_ne (Or.inl (hw _ (List.mem_of_getElem? (i := 39) rfl))) (Or.inl (hw _ (List.mem_of_getElem? (i := 47) rfl))) (by decide) (t := .int) (t' := .long) (by decide) (by decide)))
  have Fw123_h130 := Fw123_h128.other W129 (Or.inr (slot_ne (Or.inl (hw _ (List.mem_of_getElem? (i := 41) rfl))) (Or.inl (hw _ (List.mem_of_getElem? (i := 47) rfl))) (by decide) (t := .long) (t' := .long) (by decide) (by decide)))
  have Fw125_h130 := Fw125_h128.other W129 (Or.inr (slot_ne (Or.inl (hw _ (List.mem_of_getElem? (i := 43) rfl))) (Or.inl (hw _ (List.mem_of_getElem? (i := 47) rfl))) (by decide) (t := .long) (t' := .long) (by decide) (by decide)))
  have Fw127_h130 := Fw127.other W129 (Or.inr (slot_ne (Or.inl (hw _ (List.mem_of_getElem? (i := 45) rfl))) (Or.inl (hw _ (List.mem_of_getElem? (i := 47) rfl))) (by decide) (t := .int) (t' := .long) (by decide) (by decide)))
  have O129 := own_ext_wr O127 W129 Ga
  have K129 := K127.wr W129 (Or.inl (List.mem_of_getElem? (i := 0) rfl))
  have N129 := Fr.snoc X129 N127 Ga
  show Go p e below _ (T129.setTop (mkF m 169 #[.val (.ref a), .val (.int (1 : Int32)), .val (.long (0 : Int64)), .second, .val (.long (0 : Int64)), .second, .val (.ref va), .val (.ref en), .val (.int (0 : Int32)), .val (.long (0 : Int64)), .second, .val (.ref un), .val (.int (3 : Int32)), .val (.int (0 : Int32))] []))
  refine Go.st (fun t' k' => XS.aloadN X129.here hx rfl (hb hby d5_169) rfl rfl k') ?_
  show Go p e below _ (T129.setTop (mkF m 170 #[.val (.ref a), .val (.int (1 : Int32)), .val (.long (0 : Int64)), .second, .val (.long (0 : Int64)), .second, .val (.ref va), .val (.ref en), .val (.int (0 : Int32)), .val (.long (0 : Int64)), .second, .val (.ref un), .val (.int (3 : Int32)), .val (.int (0 : Int32))] [(.ref a)]))
  refine Go.st (fun t' k' => XS.iload X129.here hx rfl (hb hby d5_170) rfl k') ?_
  show Go p e below _ (T129.setTop (mkF m 172 #[.val (.ref a), .val (.int (1 : Int32)), .val (.long (0 : Int64)), .second, .val (.long (0 : Int64)), .second, .val (.ref va), .val (.ref en), .val (.int (0 : Int32)), .val (.long (0 : Int64)), .second, .val (.ref un), .val (.int (3 : Int32)), .val (.int (0 : Int32))] [(.int (3 : Int32)), (.ref a)]))
  obtain ⟨T131, h131, X131, e131, W131, st131⟩ := putF X129 hx hZ hown (host := "") (Or.inl (hw _ (List.mem_of_getElem? (i := 48) rfl))) Via.refl e129 FunprintableCount_h130 Ea_h130 (Or.inl (hw _ (List.mem_of_getElem? (i := 49) rfl))) (hw _ (List.mem_of_getElem? (i := 10) rfl)) (ty := .int) (by decide) rfl rfl (g := (mkF m 172 #[.val (.ref a), .val (.int (1 : Int32)), .val (.long (0 : Int64)), .second, .val (.long (0 : Int64)), .second, .val (.ref va), .val (.ref en), .val (.int (0 : Int32)), .val (.long (0 : Int64)), .second, .val (.ref un), .val (.int (3 : Int32)), .val (.int (0 : Int32))] [(.int (3 : Int32)), (.ref a)])) rfl rfl (hb hby d5_172)
  refine Go.st st131 ?_
  have Fw131 : Fld Z h131 a "com/example/harakeke/harakeke/model/Record" "unprintableCount" "I" (.int (3 : Int32)) := FunprintableCount_h130.same W131
  have Ea_h132 := Ea_h130.wr W131
  have Fb_h132 := Fb_h130.other W131 (Or.inr (slot_ne (Or.inl (hw _ (List.mem_of_getElem? (i := 21) rfl))) (Or.inl (hw _ (List.mem_of_getElem? (i := 49) rfl))) (by decide) (t := (.array .byte)) (t' := .int) (by decide) (by decide)))
  have Fe_h132 := Fe_h130.other W131 (Or.inr (slot_ne (Or.inl (hw _ (List.mem_of_getElem? (i := 25) rfl))) (Or.inl (hw _ (List.mem_of_getElem? (i := 49) rfl))) (by decide) (t := (.array .int)) (t' := .int) (by decide) (by decide)))
  have Av_h132 := Av_h130.other W131 Nva
  have Ae_h132 := Ae_h130.other W131 Nen
  have Au_h132 := Au_h130.other W131 Nun
  have Fw112_h132 := Fw112_h130.other W131 (Or.inr (slot_ne (Or.inl (hw _ (List.mem_of_getElem? (i := 27) rfl))) (Or.inl (hw _ (List.mem_of_getElem? (i := 49) rfl))) (by decide) (t := (.array .int)) (t' := .int) (by decide) (by decide)))
  have V_b110_119_h132 := V_b110_119_h130.other W131 (Ne.symm ne_a_b110)
  have Fw121_h132 := Fw121_h130.other W131 (Or.inr (slot_ne (Or.inl (hw _ (List.mem_of_getElem? (i := 39) rfl))) (Or.inl (hw _ (List.mem_of_getElem? (i := 49) rfl))) (by decide) (t := .int) (t' := .int) (by decide) (by decide)))
  have Fw123_h132 := Fw123_h130.other W131 (Or.inr (slot_ne (Or.inl (hw _ (List.mem_of_getElem? (i := 41) rfl))) (Or.inl (hw _ (List.mem_of_getElem? (i := 49) rfl))) (by decide) (t := .long) (t' := .int) (by decide) (by decide)))
  have Fw125_h132 := Fw125_h130.other W131 (Or.inr (slot_ne (Or.inl (hw _ (List.mem_of_getElem? (i := 43) rfl))) (Or.inl (hw _ (List.mem_of_getElem? (i := 49) rfl))) (by decide) (t := .long) (t' := .int) (by decide) (by decide)))
  have Fw127_h132 := Fw127_h130.other W131 (Or.inr (slot_ne (Or.inl (hw _ (List.mem_of_getElem? (i := 45) rfl))) (Or.inl (hw _ (List.mem_of_getElem? (i := 49) rfl))) (by decide) (t := .int) (t' := .int) (by decide) (by decide)))
  have Fw129_h132 := Fw129.other W131 (Or.inr (slot_ne (Or.inl (hw _ (List.mem_of_getElem? (i := 47) rfl))) (Or.inl (hw _ (List.mem_of_getElem? (i := 49) rfl))) (by decide) (t := .long) (t' := .int) (by decide) (by decide)))
  have O131 := own_ext_wr O129 W131 Ga
  have K131 := K129.wr W131 (Or.inl (List.mem_of_getElem? (i := 0) rfl))
  have N131 := Fr.snoc X131 N129 Ga
  show Go p e below _ (T131.setTop (mkF m 175 #[.val (.ref a), .val (.int (1 : Int32)), .val (.long (0 : Int64)), .second, .val (.long (0 : Int64)), .second, .val (.ref va), .val (.ref en), .val (.int (0 : Int32)), .val (.long (0 : Int64)), .second, .val (.ref un), .val (.int (3 : Int32)), .val (.int (0 : Int32))] []))
  exact Go.outU X131 hx hlk hret (hb hby d5_175) (Q := Q_rmSet1 Z a va en un w_NO_BYTES w_NO_NUMBERS k_B k_N kv ke ku lo mid hi h0) (by rw [e131]; exact ⟨b110, k110, rfl, N131, O131, K131, Fb_h132, Fe_h132, Fw112_h132, V_b110_119_h132, g_b110, sz_b110, ne_a_b110, Fw121_h132, Fw123_h132, Fw125_h132, Fw127_h132, Fw129_h132, Fw131⟩) (by decide) (by decide)
theorem ef_rmSet2 (m : MethodId) (x0 : Addr) (x1 : Int32) (x2 : Int64) (x3 : Int64) (x4 : Addr) (x5 : Addr) (x6 : Int32) (x7 : Int64) (x8 : Addr) (x9 : Int32) : entryFrame m #[(.ref x0), (.int x1), (.long x2), (.long x3), (.ref x4), (.ref x5), (.int x6), (.long x7), (.ref x8), (.int x9)] 14 = mkF m 0 #[.val (.ref x0), .val (.int x1), .val (.long x2), .second, .val (.long x3), .second, .val (.ref x4), .val (.ref x5), .val (.int x6), .val (.long x7), .second, .val (.ref x8), .val (.int x9), .unset] [] := by first | (simp [entryFrame, mkF, argsToLocals, Value.category]; done) | rfl
def Q_rmSet2 (Z : State) (a : Addr) (va : Addr) (en : Addr) (un : Addr) (k : Int32) (w_NO_BYTES : Addr) (w_NO_NUMBERS : Addr) (k_B : ClassId) (k_N : ClassId) (kv : ClassId) (ke : ClassId) (ku : ClassId) (lo : Int32) (mid : Int32) (hi : Int32) (b : Addr) (kb : ClassId) (h0 : Heap) (v : Option Value) (h : Heap) (L : List Loc) : Prop := v = none ∧ Fr Z.heap.size L ∧ Ext Z.heap h ∧ Keep h0 h [a, b] ∧ Fld Z h a "com/example/harakeke/harakeke/model/Record" "bytes" "[B" (.ref w_NO_BYTES) ∧ Fld Z h a "com/example/harakeke/harakeke/model/Record" "ends" "[I" (.ref w_NO_NUMBERS) ∧ Fld Z h a "com/example/harakeke/harakeke/model/Record" "unprintable" "[I" (.ref b) ∧ Arv Z h b kb .int (3 : Int32) [(.int lo), (.int mid), (.int hi)] (.int (0 : Int32)) ∧ Fld Z h a "com/example/harakeke/harakeke/model/Record" "line" "I" (.int (2 : Int32)) ∧ Fld Z h a "com/example/harakeke/harakeke/model/Record" "offset" "J" (.long (0 : Int64)) ∧ Fld Z h a "com/example/harakeke/harakeke/model/Record" "length" "J" (.long (0 : Int64)) ∧ Fld Z h a "com/example/harakeke/harakeke/model/Record" "kept" "I" (.int (0 : Int32)) ∧ Fld Z h a "com/example/harakeke/harakeke/model/Record" "fieldCount" "J" (.long (0 : Int64)) ∧ Fld Z h a "com/example/harakeke/harakeke/model/Record" "unprintableCount" "I" (.int k)
set_option maxRecDepth 65536 in
set_option maxHeartbeats 40000000 in
theorem rmSet2 (l : Launch) (Z : State) (a0 : Array Value) (hw : ∀ d ∈ tables_1, d.before a0 Z = true) (ws : List Jvm.Cond) (a : Addr) (va : Addr) (en : Addr) (un : Addr) (k : Int32) (w_NO_BYTES : Addr) (w_NO_NUMBERS : Addr) (k_B : ClassId) (k_N : ClassId) (kv : ClassId) (ke : ClassId) (ku : ClassId) (lo : Int32) (mid : Int32) (hi : Int32) (b : Addr) (kb : ClassId) (h0 : Heap) (O0 : Ext Z.heap h0) (A_NO_BYTES : Arv Z Z.heap w_NO_BYTES k_B .byte (0 : Int32) [] (.int (0 : Int32))) (A_NO_NUMBERS : Arv Z Z.heap w_NO_NUMBERS k_N .int (0 : Int32) [] (.int (0 : Int32))) (Ea : Exa Z h0 a "com/example/harakeke/harakeke/model/Record") (Ga : Z.heap.size ≤ a) (Fb : Fld Z h0 a "com/example/harakeke/harakeke/model/Record" "bytes" "[B" (.ref w_NO_BYTES)) (Fe : Fld Z h0 a "com/example/harakeke/harakeke/model/Record" "ends" "[I" (.ref w_NO_NUMBERS)) (Fu : Fld Z h0 a "com/example/harakeke/harakeke/model/Record" "unprintable" "[I" (.ref b)) (Fline : Fld Z h0 a "com/example/harakeke/harakeke/model/Record" "line" "I" (.int (1 : Int32))) (Foffset : Fld Z h0 a "com/example/harakeke/harakeke/model/Record" "offset" "J" (.long (0 : Int64))) (Flength : Fld Z h0 a "com/example/harakeke/harakeke/model/Record" "length" "J" (.long (0 : Int64))) (Fkept : Fld Z h0 a "com/example/harakeke/harakeke/model/Record" "kept" "I" (.int (0 : Int32))) (FfieldCount : Fld Z h0 a "com/example/harakeke/harakeke/model/Record" "fieldCount" "J" (.long (0 : Int64))) (FunprintableCount : Fld Z h0 a "com/example/harakeke/harakeke/model/Record" "unprintableCount" "I" (.int (3 : Int32))) (Av : Arv Z h0 va kv .byte (0 : Int32) [] (.int (0 : Int32))) (Ae : Arv Z h0 en ke .int (0 : Int32) [] (.int (0 : Int32))) (Au : Arv Z h0 un ku .int (3 : Int32) [(.int lo), (.int mid), (.int hi)] (.int (0 : Int32))) (Nva : va ≠ a) (Nen : en ≠ a) (Nun : un ≠ a) (Vb : Arv Z h0 b kb .int (3 : Int32) [(.int lo), (.int mid), (.int hi)] (.int (0 : Int32))) (Gb : Z.heap.size ≤ b) (Nab : a ≠ b) (Nvb : va ≠ b) (Neb : en ≠ b) (Nub : un ≠ b) (hk : k = 0 ∨ k = 1 ∨ k = 2 ∨ k = 3) :
    MetFree l (⟨"com/example/harakeke/harakeke/model/Record", "set", "(IJJ[B[IIJ[II)V"⟩ : MethodName) (head1 (Jvm.Cond.code (⟨"com/example/harakeke/harakeke/model/Record", "set", "(IJJ[B[IIJ[II)V"⟩ : MethodName) prog_52_method_3_code 14 none :: ws) ({ frames := 1, cells := 0, slots := 0, locals := 40 } : Room)) (fun av' U => av' = #[(.ref a), (.int (2 : Int32)), (.long (0 : Int64)), (.long (0 : Int64)), (.ref va), (.ref en), (.int (0 : Int32)), (.long (0 : Int64)), (.ref un), (.int k)] ∧ Z.Warmed39 U.vm ∧ U.heap = h0) (fun _ _ _ _ _ => True) (fun _ U o U' => ∃ v L, o = .returned v ∧ Q_rmSet2 Z a va en un k w_NO_BYTES w_NO_NUMBERS k_B k_N kv ke ku lo mid hi b kb h0 v U'.heap L ∧ FrameEnd U o U' L ({ frames := 1, cells := 0, slots := 0, locals := 40 } : Room).cells ({ frames := 1, cells := 0, slots := 0, locals := 40 } : Room).slots) := by
  refine MetFree.of_bodySF (plainFor_of_name pn_com_example_harakeke_harakeke_model_Record) hisR ?_
  intro p e s m args below meth c s₁ Bd hml0 hP hK
  obtain ⟨rfl, hZ, hh⟩ := hP
  have hx := Bd.exec
  have hby := Bd.bytes
  have hret := Bd.returns
  have hlk : meth.locks = false := Bd.notSynchronized
  have hml : c.maxLocals = 14 := hml0
  have hown : s.vm.findClass "com/example/harakeke/harakeke/model/Record" = some m.cls := findClass_of_methodNamed Bd.named
  have hnm := (name_of_methodNamed Bd.named Bd.method).1
  have X0 : Stand p l e ({ frames := 1, cells := 0, slots := 0, locals := 40 } : Room) s m #[(.ref a), (.int (2 : Int32)), (.long (0 : Int64)), (.long (0 : Int64)), (.ref va), (.ref en), (.int (0 : Int32)), (.long (0 : Int64)), (.ref un), (.int k)] below meth c s₁ [] 0 0 := Stand.of_body Bd
  -- the walk
  have e0 : s₁.heap = h0 := by rw [← hh, Bd.state]; rfl
  have N0 := Fr.nil Z.heap.size
  have K0 := Keep.refl h0 [a, b]
  show Go p e below (GO s (Q_rmSet2 Z a va en un k w_NO_BYTES w_NO_NUMBERS k_B k_N kv ke ku lo mid hi b kb h0) ({ frames := 1, cells := 0, slots := 0, locals := 40 } : Room).cells ({ frames := 1, cells := 0, slots := 0, locals := 40 } : Room).slots) (s₁.setTop (entryFrame m #[(.ref a), (.int (2 : Int32)), (.long (0 : Int64)), (.long (0 : Int64)), (.ref va), (.ref en), (.int (0 : Int32)), (.long (0 : Int64)), (.ref un), (.int k)] 14))
  refine Go.st (fun t' k' => castTop (ef_rmSet2 m a (2 : Int32) (0 : Int64) (0 : Int64) va en (0 : Int32) (0 : Int64) un k) k') ?_
  show Go p e below _ (s₁.setTop (mkF m 0 #[.val (.ref a), .val (.int (2 : Int32)), .val (.long (0 : Int64)), .second, .val (.long (0 : Int64)), .second, .val (.ref va), .val (.ref en), .val (.int (0 : Int32)), .val (.long (0 : Int64)), .second, .val (.ref un), .val (.int k), .unset] []))
  refine Go.st (fun t' k' => XS.iload X0.here hx rfl (hb hby d5_0) rfl k') ?_
  show Go p e below _ (s₁.setTop (mkF m 2 #[.val (.ref a), .val (.int (2 : Int32)), .val (.long (0 : Int64)), .second, .val (.long (0 : Int64)), .second, .val (.ref va), .val (.ref en), .val (.int (0 : Int32)), .val (.long (0 : Int64)), .second, .val (.ref un), .val (.int k), .unset] [(.int (0 : Int32))]))
  refine Go.st (fun t' k' => XS.ifNo X0.here hx rfl (hb hby d5_2) rfl ((if0 _ _).trans (teq (by decide : (0 : Int32) = (0 : Int32))).2) k') ?_
  show Go p e below _ (s₁.setTop (mkF m 5 #[.val (.ref a), .val (.int (2 : Int32)), .val (.long (0 : Int64)), .second, .val (.long (0 : Int64)), .second, .val (.ref va), .val (.ref en), .val (.int (0 : Int32)), .val (.long (0 : Int64)), .second, .val (.ref un), .val (.int k), .unset] []))
  refine Go.st (fun t' k' => XS.iconst X0.here hx rfl (hb hby d5_5) k') ?_
  show Go p e below _ (s₁.setTop (mkF m 6 #[.val (.ref a), .val (.int (2 : Int32)), .val (.long (0 : Int64)), .second, .val (.long (0 : Int64)), .second, .val (.ref va), .val (.ref en), .val (.int (0 : Int32)), .val (.long (0 : Int64)), .second, .val (.ref un), .val (.int k), .unset] [(.int (0 : Int32))]))
  refine Go.st (fun t' k' => XS.goto X0.here hx rfl (pc0 := 6) (pc' := 16) rfl (hb hby d5_6) (by decide) (by decide) k') ?_
  show Go p e below _ (s₁.setTop (mkF m 16 #[.val (.ref a), .val (.int (2 : Int32)), .val (.long (0 : Int64)), .second, .val (.long (0 : Int64)), .second, .val (.ref va), .val (.ref en), .val (.int (0 : Int32)), .val (.long (0 : Int64)), .second, .val (.ref un), .val (.int k), .unset] [(.int (0 : Int32))]))
  refine Go.st (fun t' k' => XS.istore X0.here hx rfl (hb hby d5_16) rfl (l' := #[.val (.ref a), .val (.int (2 : Int32)), .val (.long (0 : Int64)), .second, .val (.long (0 : Int64)), .second, .val (.ref va), .val (.ref en), .val (.int (0 : Int32)), .val (.long (0 : Int64)), .second, .val (.ref un), .val (.int k), .val (.int (0 : Int32))]) rfl k') ?_
  show Go p e below _ (s₁.setTop (mkF m 18 #[.val (.ref a), .val (.int (2 : Int32)), .val (.long (0 : Int64)), .second, .val (.long (0 : Int64)), .second, .val (.ref va), .val (.ref en), .val (.int (0 : Int32)), .val (.long (0 : Int64)), .second, .val (.ref un), .val (.int k), .val (.int (0 : Int32))] []))
  refine Go.st (fun t' k' => XS.aloadN X0.here hx rfl (hb hby d5_18) rfl rfl k') ?_
  show Go p e below _ (s₁.setTop (mkF m 19 #[.val (.ref a), .val (.int (2 : Int32)), .val (.long (0 : Int64)), .second, .val (.long (0 : Int64)), .second, .val (.ref va), .val (.ref en), .val (.int (0 : Int32)), .val (.long (0 : Int64)), .second, .val (.ref un), .val (.int k), .val (.int (0 : Int32))] [(.ref a)]))
  obtain ⟨T101, X101, e101, st101⟩ := getF X0 hx hZ hown (host := "") (Or.inl (hw _ (List.mem_of_getElem? (i := 20) rfl))) Via.refl e0 Fb (g := (mkF m 19 #[.val (.ref a), .val (.int (2 : Int32)), .val (.long (0 : Int64)), .second, .val (.long (0 : Int64)), .second, .val (.ref va), .val (.ref en), .val (.int (0 : Int32)), .val (.long (0 : Int64)), .second, .val (.ref un), .val (.int k), .val (.int (0 : Int32))] [(.ref a)])) rfl rfl (hb hby d5_19)
  refine Go.st st101 ?_
  show Go p e below _ (T101.setTop (mkF m 22 #[.val (.ref a), .val (.int (2 : Int32)), .val (.long (0 : Int64)), .second, .val (.long (0 : Int64)), .second, .val (.ref va), .val (.ref en), .val (.int (0 : Int32)), .val (.long (0 : Int64)), .second, .val (.ref un), .val (.int k), .val (.int (0 : Int32))] [(.ref w_NO_BYTES)]))
  obtain ⟨cll102, Arl102, ql102, Szl102, Nzl102, Hsl102, Gsl102⟩ := (id (A_NO_BYTES.ext O0))
  refine Go.st (X101.arraylength hx (by rw [e101]; exact Arl102.1) (State.isArrayOf_alike hZ.alike Arl102.2.1) (g := (mkF m 22 #[.val (.ref a), .val (.int (2 : Int32)), .val (.long (0 : Int64)), .second, .val (.long (0 : Int64)), .second, .val (.ref va), .val (.ref en), .val (.int (0 : Int32)), .val (.long (0 : Int64)), .second, .val (.ref un), .val (.int k), .val (.int (0 : Int32))] [(.ref w_NO_BYTES)])) rfl rfl (hb hby d5_22)) ?_
  rw [len_of Szl102 Nzl102]
  show Go p e below _ (T101.setTop (mkF m 23 #[.val (.ref a), .val (.int (2 : Int32)), .val (.long (0 : Int64)), .second, .val (.long (0 : Int64)), .second, .val (.ref va), .val (.ref en), .val (.int (0 : Int32)), .val (.long (0 : Int64)), .second, .val (.ref un), .val (.int k), .val (.int (0 : Int32))] [(.int (0 : Int32))]))
  refine Go.st (fun t' k' => XS.iload X101.here hx rfl (hb hby d5_23) rfl k') ?_
  show Go p e below _ (T101.setTop (mkF m 25 #[.val (.ref a), .val (.int (2 : Int32)), .val (.long (0 : Int64)), .second, .val (.long (0 : Int64)), .second, .val (.ref va), .val (.ref en), .val (.int (0 : Int32)), .val (.long (0 : Int64)), .second, .val (.ref un), .val (.int k), .val (.int (0 : Int32))] [(.int (0 : Int32)), (.int (0 : Int32))]))
  refine Go.st (fun t' k' => XS.icmpYes X101.here hx rfl (pc0 := 25) (pc' := 46) rfl (hb hby d5_25) rfl (flt (by decide : ¬ ((0 : Int32) < (0 : Int32)))).2.1 (by decide) (by decide) k') ?_
  show Go p e below _ (T101.setTop (mkF m 46 #[.val (.ref a), .val (.int (2 : Int32)), .val (.long (0 : Int64)), .second, .val (.long (0 : Int64)), .second, .val (.ref va), .val (.ref en), .val (.int (0 : Int32)), .val (.long (0 : Int64)), .second, .val (.ref un), .val (.int k), .val (.int (0 : Int32))] []))
  refine Go.st (fun t' k' => XS.aloadN X101.here hx rfl (hb hby d5_46) rfl rfl k') ?_
  show Go p e below _ (T101.setTop (mkF m 47 #[.val (.ref a), .val (.int (2 : Int32)), .val (.long (0 : Int64)), .second, .val (.long (0 : Int64)), .second, .val (.ref va), .val (.ref en), .val (.int (0 : Int32)), .val (.long (0 : Int64)), .second, .val (.ref un), .val (.int k), .val (.int (0 : Int32))] [(.ref a)]))
  obtain ⟨T103, X103, e103, st103⟩ := getF X101 hx hZ hown (host := "") (Or.inl (hw _ (List.mem_of_getElem? (i := 24) rfl))) Via.refl e101 Fe (g := (mkF m 47 #[.val (.ref a), .val (.int (2 : Int32)), .val (.long (0 : Int64)), .second, .val (.long (0 : Int64)), .second, .val (.ref va), .val (.ref en), .val (.int (0 : Int32)), .val (.long (0 : Int64)), .second, .val (.ref un), .val (.int k), .val (.int (0 : Int32))] [(.ref a)])) rfl rfl (hb hby d5_47)
  refine Go.st st103 ?_
  show Go p e below _ (T103.setTop (mkF m 50 #[.val (.ref a), .val (.int (2 : Int32)), .val (.long (0 : Int64)), .second, .val (.long (0 : Int64)), .second, .val (.ref va), .val (.ref en), .val (.int (0 : Int32)), .val (.long (0 : Int64)), .second, .val (.ref un), .val (.int k), .val (.int (0 : Int32))] [(.ref w_NO_NUMBERS)]))
  obtain ⟨cll104, Arl104, ql104, Szl104, Nzl104, Hsl104, Gsl104⟩ := (id (A_NO_NUMBERS.ext O0))
  refine Go.st (X103.arraylength hx (by rw [e103]; exact Arl104.1) (State.isArrayOf_alike hZ.alike Arl104.2.1) (g := (mkF m 50 #[.val (.ref a), .val (.int (2 : Int32)), .val (.long (0 : Int64)), .second, .val (.long (0 : Int64)), .second, .val (.ref va), .val (.ref en), .val (.int (0 : Int32)), .val (.long (0 : Int64)), .second, .val (.ref un), .val (.int k), .val (.int (0 : Int32))] [(.ref w_NO_NUMBERS)])) rfl rfl (hb hby d5_50)) ?_
  rw [len_of Szl104 Nzl104]
  show Go p e below _ (T103.setTop (mkF m 51 #[.val (.ref a), .val (.int (2 : Int32)), .val (.long (0 : Int64)), .second, .val (.long (0 : Int64)), .second, .val (.ref va), .val (.ref en), .val (.int (0 : Int32)), .val (.long (0 : Int64)), .second, .val (.ref un), .val (.int k), .val (.int (0 : Int32))] [(.int (0 : Int32))]))
  refine Go.st (fun t' k' => XS.iload X103.here hx rfl (hb hby d5_51) rfl k') ?_
  show Go p e below _ (T103.setTop (mkF m 53 #[.val (.ref a), .val (.int (2 : Int32)), .val (.long (0 : Int64)), .second, .val (.long (0 : Int64)), .second, .val (.ref va), .val (.ref en), .val (.int (0 : Int32)), .val (.long (0 : Int64)), .second, .val (.ref un), .val (.int k), .val (.int (0 : Int32))] [(.int (0 : Int32)), (.int (0 : Int32))]))
  refine Go.st (fun t' k' => XS.icmpYes X103.here hx rfl (pc0 := 53) (pc' := 74) rfl (hb hby d5_53) rfl (flt (by decide : ¬ ((0 : Int32) < (0 : Int32)))).2.1 (by decide) (by decide) k') ?_
  show Go p e below _ (T103.setTop (mkF m 74 #[.val (.ref a), .val (.int (2 : Int32)), .val (.long (0 : Int64)), .second, .val (.long (0 : Int64)), .second, .val (.ref va), .val (.ref en), .val (.int (0 : Int32)), .val (.long (0 : Int64)), .second, .val (.ref un), .val (.int k), .val (.int (0 : Int32))] []))
  refine Go.st (fun t' k' => XS.aloadN X103.here hx rfl (hb hby d5_74) rfl rfl k') ?_
  show Go p e below _ (T103.setTop (mkF m 75 #[.val (.ref a), .val (.int (2 : Int32)), .val (.long (0 : Int64)), .second, .val (.long (0 : Int64)), .second, .val (.ref va), .val (.ref en), .val (.int (0 : Int32)), .val (.long (0 : Int64)), .second, .val (.ref un), .val (.int k), .val (.int (0 : Int32))] [(.ref a)]))
  obtain ⟨T105, X105, e105, st105⟩ := getF X103 hx hZ hown (host := "") (Or.inl (hw _ (List.mem_of_getElem? (i := 26) rfl))) Via.refl e103 Fu (g := (mkF m 75 #[.val (.ref a), .val (.int (2 : Int32)), .val (.long (0 : Int64)), .second, .val (.long (0 : Int64)), .second, .val (.ref va), .val (.ref en), .val (.int (0 : Int32)), .val (.long (0 : Int64)), .second, .val (.ref un), .val (.int k), .val (.int (0 : Int32))] [(.ref a)])) rfl rfl (hb hby d5_75)
  refine Go.st st105 ?_
  show Go p e below _ (T105.setTop (mkF m 78 #[.val (.ref a), .val (.int (2 : Int32)), .val (.long (0 : Int64)), .second, .val (.long (0 : Int64)), .second, .val (.ref va), .val (.ref en), .val (.int (0 : Int32)), .val (.long (0 : Int64)), .second, .val (.ref un), .val (.int k), .val (.int (0 : Int32))] [(.ref b)]))
  obtain ⟨cll106, Arl106, ql106, Szl106, Nzl106, Hsl106, Gsl106⟩ := (id Vb)
  refine Go.st (X105.arraylength hx (by rw [e105]; exact Arl106.1) (State.isArrayOf_alike hZ.alike Arl106.2.1) (g := (mkF m 78 #[.val (.ref a), .val (.int (2 : Int32)), .val (.long (0 : Int64)), .second, .val (.long (0 : Int64)), .second, .val (.ref va), .val (.ref en), .val (.int (0 : Int32)), .val (.long (0 : Int64)), .second, .val (.ref un), .val (.int k), .val (.int (0 : Int32))] [(.ref b)])) rfl rfl (hb hby d5_78)) ?_
  rw [len_of Szl106 Nzl106]
  show Go p e below _ (T105.setTop (mkF m 79 #[.val (.ref a), .val (.int (2 : Int32)), .val (.long (0 : Int64)), .second, .val (.long (0 : Int64)), .second, .val (.ref va), .val (.ref en), .val (.int (0 : Int32)), .val (.long (0 : Int64)), .second, .val (.ref un), .val (.int k), .val (.int (0 : Int32))] [(.int (3 : Int32))]))
  refine Go.st (fun t' k' => XS.iload X105.here hx rfl (hb hby d5_79) rfl k') ?_
  show Go p e below _ (T105.setTop (mkF m 81 #[.val (.ref a), .val (.int (2 : Int32)), .val (.long (0 : Int64)), .second, .val (.long (0 : Int64)), .second, .val (.ref va), .val (.ref en), .val (.int (0 : Int32)), .val (.long (0 : Int64)), .second, .val (.ref un), .val (.int k), .val (.int (0 : Int32))] [(.int k), (.int (3 : Int32))]))
  refine Go.st (fun t' k' => XS.icmpYes X105.here hx rfl (pc0 := 81) (pc' := 102) rfl (hb hby d5_81) rfl (flt (by simp only [Int32.lt_iff_toInt_lt, ← Int32.toInt_inj, Int32.reduceToInt] at hk ⊢; omega : ¬ ((3 : Int32) < k))).2.1 (by decide) (by decide) k') ?_
  show Go p e below _ (T105.setTop (mkF m 102 #[.val (.ref a), .val (.int (2 : Int32)), .val (.long (0 : Int64)), .second, .val (.long (0 : Int64)), .second, .val (.ref va), .val (.ref en), .val (.int (0 : Int32)), .val (.long (0 : Int64)), .second, .val (.ref un), .val (.int k), .val (.int (0 : Int32))] []))
  refine Go.st (fun t' k' => XS.aload X105.here hx rfl (hb hby d5_102) rfl rfl k') ?_
  show Go p e below _ (T105.setTop (mkF m 104 #[.val (.ref a), .val (.int (2 : Int32)), .val (.long (0 : Int64)), .second, .val (.long (0 : Int64)), .second, .val (.ref va), .val (.ref en), .val (.int (0 : Int32)), .val (.long (0 : Int64)), .second, .val (.ref un), .val (.int k), .val (.int (0 : Int32))] [(.ref va)]))
  refine Go.st (fun t' k' => XS.iconst X105.here hx rfl (hb hby d5_104) k') ?_
  show Go p e below _ (T105.setTop (mkF m 105 #[.val (.ref a), .val (.int (2 : Int32)), .val (.long (0 : Int64)), .second, .val (.long (0 : Int64)), .second, .val (.ref va), .val (.ref en), .val (.int (0 : Int32)), .val (.long (0 : Int64)), .second, .val (.ref un), .val (.int k), .val (.int (0 : Int32))] [(.int (0 : Int32)), (.ref va)]))
  refine Go.st (fun t' k' => XS.aloadN X105.here hx rfl (hb hby d5_105) rfl rfl k') ?_
  show Go p e below _ (T105.setTop (mkF m 106 #[.val (.ref a), .val (.int (2 : Int32)), .val (.long (0 : Int64)), .second, .val (.long (0 : Int64)), .second, .val (.ref va), .val (.ref en), .val (.int (0 : Int32)), .val (.long (0 : Int64)), .second, .val (.ref un), .val (.int k), .val (.int (0 : Int32))] [(.ref a), (.int (0 : Int32)), (.ref va)]))
  obtain ⟨T107, X107, e107, st107⟩ := getF X105 hx hZ hown (host := "") (Or.inl (hw _ (List.mem_of_getElem? (i := 20) rfl))) Via.refl e105 Fb (g := (mkF m 106 #[.val (.ref a), .val (.int (2 : Int32)), .val (.long (0 : Int64)), .second, .val (.long (0 : Int64)), .second, .val (.ref va), .val (.ref en), .val (.int (0 : Int32)), .val (.long (0 : Int64)), .second, .val (.ref un), .val (.int k), .val (.int (0 : Int32))] [(.ref a), (.int (0 : Int32)), (.ref va)])) rfl rfl (hb hby d5_106)
  refine Go.st st107 ?_
  show Go p e below _ (T107.setTop (mkF m 109 #[.val (.ref a), .val (.int (2 : Int32)), .val (.long (0 : Int64)), .second, .val (.long (0 : Int64)), .second, .val (.ref va), .val (.ref en), .val (.int (0 : Int32)), .val (.long (0 : Int64)), .second, .val (.ref un), .val (.int k), .val (.int (0 : Int32))] [(.ref w_NO_BYTES), (.int (0 : Int32)), (.ref va)]))
  refine Go.st (fun t' k' => XS.iconst X107.here hx rfl (hb hby d5_109) k') ?_
  show Go p e below _ (T107.setTop (mkF m 110 #[.val (.ref a), .val (.int (2 : Int32)), .val (.long (0 : Int64)), .second, .val (.long (0 : Int64)), .second, .val (.ref va), .val (.ref en), .val (.int (0 : Int32)), .val (.long (0 : Int64)), .second, .val (.ref un), .val (.int k), .val (.int (0 : Int32))] [(.int (0 : Int32)), (.ref w_NO_BYTES), (.int (0 : Int32)), (.ref va)]))
  refine Go.st (fun t' k' => XS.iload X107.here hx rfl (hb hby d5_110) rfl k') ?_
  show Go p e below _ (T107.setTop (mkF m 112 #[.val (.ref a), .val (.int (2 : Int32)), .val (.long (0 : Int64)), .second, .val (.long (0 : Int64)), .second, .val (.ref va), .val (.ref en), .val (.int (0 : Int32)), .val (.long (0 : Int64)), .second, .val (.ref un), .val (.int k), .val (.int (0 : Int32))] [(.int (0 : Int32)), (.int (0 : Int32)), (.ref w_NO_BYTES), (.int (0 : Int32)), (.ref va)]))
  obtain ⟨T108, X108, e108, st108⟩ := own_cp0 X107 hx hZ hown (hw _ (List.mem_of_getElem? (i := 34) rfl)) (hw _ (List.mem_of_getElem? (i := 37) rfl)) (hw _ (List.mem_of_getElem? (i := 35) rfl)) (hw _ (List.mem_of_getElem? (i := 36) rfl)) e107 Av (A_NO_BYTES.ext O0) rfl rfl (g := (mkF m 112 #[.val (.ref a), .val (.int (2 : Int32)), .val (.long (0 : Int64)), .second, .val (.long (0 : Int64)), .second, .val (.ref va), .val (.ref en), .val (.int (0 : Int32)), .val (.long (0 : Int64)), .second, .val (.ref un), .val (.int k), .val (.int (0 : Int32))] [(.int (0 : Int32)), (.int (0 : Int32)), (.ref w_NO_BYTES), (.int (0 : Int32)), (.ref va)])) rfl (by rw [hml]; rfl) rfl (hb hby d5_112) (by decide) (W := 0) (by show 2 * 0 + _ ≤ _; exact Nat.le_of_eq rfl) (by decide)
  refine Go.st st108 ?_
  show Go p e below _ (T108.setTop (mkF m 115 #[.val (.ref a), .val (.int (2 : Int32)), .val (.long (0 : Int64)), .second, .val (.long (0 : Int64)), .second, .val (.ref va), .val (.ref en), .val (.int (0 : Int32)), .val (.long (0 : Int64)), .second, .val (.ref un), .val (.int k), .val (.int (0 : Int32))] []))
  refine Go.st (fun t' k' => XS.aload X108.here hx rfl (hb hby d5_115) rfl rfl k') ?_
  show Go p e below _ (T108.setTop (mkF m 117 #[.val (.ref a), .val (.int (2 : Int32)), .val (.long (0 : Int64)), .second, .val (.long (0 : Int64)), .second, .val (.ref va), .val (.ref en), .val (.int (0 : Int32)), .val (.long (0 : Int64)), .second, .val (.ref un), .val (.int k), .val (.int (0 : Int32))] [(.ref en)]))
  refine Go.st (fun t' k' => XS.iconst X108.here hx rfl (hb hby d5_117) k') ?_
  show Go p e below _ (T108.setTop (mkF m 118 #[.val (.ref a), .val (.int (2 : Int32)), .val (.long (0 : Int64)), .second, .val (.long (0 : Int64)), .second, .val (.ref va), .val (.ref en), .val (.int (0 : Int32)), .val (.long (0 : Int64)), .second, .val (.ref un), .val (.int k), .val (.int (0 : Int32))] [(.int (0 : Int32)), (.ref en)]))
  refine Go.st (fun t' k' => XS.aloadN X108.here hx rfl (hb hby d5_118) rfl rfl k') ?_
  show Go p e below _ (T108.setTop (mkF m 119 #[.val (.ref a), .val (.int (2 : Int32)), .val (.long (0 : Int64)), .second, .val (.long (0 : Int64)), .second, .val (.ref va), .val (.ref en), .val (.int (0 : Int32)), .val (.long (0 : Int64)), .second, .val (.ref un), .val (.int k), .val (.int (0 : Int32))] [(.ref a), (.int (0 : Int32)), (.ref en)]))
  obtain ⟨T109, X109, e109, st109⟩ := getF X108 hx hZ hown (host := "") (Or.inl (hw _ (List.mem_of_getElem? (i := 24) rfl))) Via.refl e108 Fe (g := (mkF m 119 #[.val (.ref a), .val (.int (2 : Int32)), .val (.long (0 : Int64)), .second, .val (.long (0 : Int64)), .second, .val (.ref va), .val (.ref en), .val (.int (0 : Int32)), .val (.long (0 : Int64)), .second, .val (.ref un), .val (.int k), .val (.int (0 : Int32))] [(.ref a), (.int (0 : Int32)), (.ref en)])) rfl rfl (hb hby d5_119)
  refine Go.st st109 ?_
  show Go p e below _ (T109.setTop (mkF m 122 #[.val (.ref a), .val (.int (2 : Int32)), .val (.long (0 : Int64)), .second, .val (.long (0 : Int64)), .second, .val (.ref va), .val (.ref en), .val (.int (0 : Int32)), .val (.long (0 : Int64)), .second, .val (.ref un), .val (.int k), .val (.int (0 : Int32))] [(.ref w_NO_NUMBERS), (.int (0 : Int32)), (.ref en)]))
  refine Go.st (fun t' k' => XS.iconst X109.here hx rfl (hb hby d5_122) k') ?_
  show Go p e below _ (T109.setTop (mkF m 123 #[.val (.ref a), .val (.int (2 : Int32)), .val (.long (0 : Int64)), .second, .val (.long (0 : Int64)), .second, .val (.ref va), .val (.ref en), .val (.int (0 : Int32)), .val (.long (0 : Int64)), .second, .val (.ref un), .val (.int k), .val (.int (0 : Int32))] [(.int (0 : Int32)), (.ref w_NO_NUMBERS), (.int (0 : Int32)), (.ref en)]))
  refine Go.st (fun t' k' => XS.iload X109.here hx rfl (hb hby d5_123) rfl k') ?_
  show Go p e below _ (T109.setTop (mkF m 125 #[.val (.ref a), .val (.int (2 : Int32)), .val (.long (0 : Int64)), .second, .val (.long (0 : Int64)), .second, .val (.ref va), .val (.ref en), .val (.int (0 : Int32)), .val (.long (0 : Int64)), .second, .val (.ref un), .val (.int k), .val (.int (0 : Int32))] [(.int (0 : Int32)), (.int (0 : Int32)), (.ref w_NO_NUMBERS), (.int (0 : Int32)), (.ref en)]))
  obtain ⟨T110, X110, e110, st110⟩ := own_cp0 X109 hx hZ hown (hw _ (List.mem_of_getElem? (i := 34) rfl)) (hw _ (List.mem_of_getElem? (i := 37) rfl)) (hw _ (List.mem_of_getElem? (i := 35) rfl)) (hw _ (List.mem_of_getElem? (i := 36) rfl)) e109 Ae (A_NO_NUMBERS.ext O0) rfl rfl (g := (mkF m 125 #[.val (.ref a), .val (.int (2 : Int32)), .val (.long (0 : Int64)), .second, .val (.long (0 : Int64)), .second, .val (.ref va), .val (.ref en), .val (.int (0 : Int32)), .val (.long (0 : Int64)), .second, .val (.ref un), .val (.int k), .val (.int (0 : Int32))] [(.int (0 : Int32)), (.int (0 : Int32)), (.ref w_NO_NUMBERS), (.int (0 : Int32)), (.ref en)])) rfl (by rw [hml]; rfl) rfl (hb hby d5_125) (by decide) (W := 0) (by show 2 * 0 + _ ≤ _; exact Nat.le_of_eq rfl) (by decide)
  refine Go.st st110 ?_
  show Go p e below _ (T110.setTop (mkF m 128 #[.val (.ref a), .val (.int (2 : Int32)), .val (.long (0 : Int64)), .second, .val (.long (0 : Int64)), .second, .val (.ref va), .val (.ref en), .val (.int (0 : Int32)), .val (.long (0 : Int64)), .second, .val (.ref un), .val (.int k), .val (.int (0 : Int32))] []))
  refine Go.st (fun t' k' => XS.aload X110.here hx rfl (hb hby d5_128) rfl rfl k') ?_
  show Go p e below _ (T110.setTop (mkF m 130 #[.val (.ref a), .val (.int (2 : Int32)), .val (.long (0 : Int64)), .second, .val (.long (0 : Int64)), .second, .val (.ref va), .val (.ref en), .val (.int (0 : Int32)), .val (.long (0 : Int64)), .second, .val (.ref un), .val (.int k), .val (.int (0 : Int32))] [(.ref un)]))
  refine Go.st (fun t' k' => XS.iconst X110.here hx rfl (hb hby d5_130) k') ?_
  show Go p e below _ (T110.setTop (mkF m 131 #[.val (.ref a), .val (.int (2 : Int32)), .val (.long (0 : Int64)), .second, .val (.long (0 : Int64)), .second, .val (.ref va), .val (.ref en), .val (.int (0 : Int32)), .val (.long (0 : Int64)), .second, .val (.ref un), .val (.int k), .val (.int (0 : Int32))] [(.int (0 : Int32)), (.ref un)]))
  refine Go.st (fun t' k' => XS.aloadN X110.here hx rfl (hb hby d5_131) rfl rfl k') ?_
  show Go p e below _ (T110.setTop (mkF m 132 #[.val (.ref a), .val (.int (2 : Int32)), .val (.long (0 : Int64)), .second, .val (.long (0 : Int64)), .second, .val (.ref va), .val (.ref en), .val (.int (0 : Int32)), .val (.long (0 : Int64)), .second, .val (.ref un), .val (.int k), .val (.int (0 : Int32))] [(.ref a), (.int (0 : Int32)), (.ref un)]))
  obtain ⟨T111, X111, e111, st111⟩ := getF X110 hx hZ hown (host := "") (Or.inl (hw _ (List.mem_of_getElem? (i := 26) rfl))) Via.refl e110 Fu (g := (mkF m 132 #[.val (.ref a), .val (.int (2 : Int32)), .val (.long (0 : Int64)), .second, .val (.long (0 : Int64)), .second, .val (.ref va), .val (.ref en), .val (.int (0 : Int32)), .val (.long (0 : Int64)), .second, .val (.ref un), .val (.int k), .val (.int (0 : Int32))] [(.ref a), (.int (0 : Int32)), (.ref un)])) rfl rfl (hb hby d5_132)
  refine Go.st st111 ?_
  show Go p e below _ (T111.setTop (mkF m 135 #[.val (.ref a), .val (.int (2 : Int32)), .val (.long (0 : Int64)), .second, .val (.long (0 : Int64)), .second, .val (.ref va), .val (.ref en), .val (.int (0 : Int32)), .val (.long (0 : Int64)), .second, .val (.ref un), .val (.int k), .val (.int (0 : Int32))] [(.ref b), (.int (0 : Int32)), (.ref un)]))
  refine Go.st (fun t' k' => XS.iconst X111.here hx rfl (hb hby d5_135) k') ?_
  show Go p e below _ (T111.setTop (mkF m 136 #[.val (.ref a), .val (.int (2 : Int32)), .val (.long (0 : Int64)), .second, .val (.long (0 : Int64)), .second, .val (.ref va), .val (.ref en), .val (.int (0 : Int32)), .val (.long (0 : Int64)), .second, .val (.ref un), .val (.int k), .val (.int (0 : Int32))] [(.int (0 : Int32)), (.ref b), (.int (0 : Int32)), (.ref un)]))
  refine Go.st (fun t' k' => XS.iload X111.here hx rfl (hb hby d5_136) rfl k') ?_
  show Go p e below _ (T111.setTop (mkF m 138 #[.val (.ref a), .val (.int (2 : Int32)), .val (.long (0 : Int64)), .second, .val (.long (0 : Int64)), .second, .val (.ref va), .val (.ref en), .val (.int (0 : Int32)), .val (.long (0 : Int64)), .second, .val (.ref un), .val (.int k), .val (.int (0 : Int32))] [(.int k), (.int (0 : Int32)), (.ref b), (.int (0 : Int32)), (.ref un)]))
  obtain ⟨T112, h112, L112, X112, e112, N112, Kp112, Vp112, st112⟩ := cpA X111 hx hZ hown (hw _ (List.mem_of_getElem? (i := 34) rfl)) (hw _ (List.mem_of_getElem? (i := 37) rfl)) (hw _ (List.mem_of_getElem? (i := 35) rfl)) (hw _ (List.mem_of_getElem? (i := 36) rfl)) e111 Au Vb (Or.inl ⟨rfl, rfl⟩) (by decide) (by decide) (own_k_nn hk).1 (own_k_nn hk).2.1 (own_k_nn hk).2.1 (us := _) rfl (own_k_nn hk).2.2 N0 Gb (g := (mkF m 138 #[.val (.ref a), .val (.int (2 : Int32)), .val (.long (0 : Int64)), .second, .val (.long (0 : Int64)), .second, .val (.ref va), .val (.ref en), .val (.int (0 : Int32)), .val (.long (0 : Int64)), .second, .val (.ref un), .val (.int k), .val (.int (0 : Int32))] [(.int k), (.int (0 : Int32)), (.ref b), (.int (0 : Int32)), (.ref un)])) rfl (by rw [hml]; rfl) rfl (hb hby d5_138) (by decide) (W := 0) (by show 2 * 0 + _ ≤ _; exact Nat.le_of_eq rfl) (by decide)
  refine Go.st st112 ?_
  have Ea_h113 := Ea.keep Kp112
  have Fb_h113 := Fb.keep Kp112 (ninS Nab nin0)
  have Fe_h113 := Fe.keep Kp112 (ninS Nab nin0)
  have Fu_h113 := Fu.keep Kp112 (ninS Nab nin0)
  have Fline_h113 := Fline.keep Kp112 (ninS Nab nin0)
  have Foffset_h113 := Foffset.keep Kp112 (ninS Nab nin0)
  have Flength_h113 := Flength.keep Kp112 (ninS Nab nin0)
  have Fkept_h113 := Fkept.keep Kp112 (ninS Nab nin0)
  have FfieldCount_h113 := FfieldCount.keep Kp112 (ninS Nab nin0)
  have FunprintableCount_h113 := FunprintableCount.keep Kp112 (ninS Nab nin0)
  have Av_h113 := Av.keep Kp112 (ninS Nvb nin0)
  have Ae_h113 := Ae.keep Kp112 (ninS Neb nin0)
  have Au_h113 := Au.keep Kp112 (ninS Nub nin0)
  have O112 := own_ext_keep O0 Kp112 (allS Gb all0)
  have K112 := K0.trans Kp112 (allS (Or.inl (List.mem_of_getElem? (i := 1) rfl)) all0)
  have V_b_112 : Arv Z h112 b kb .int (3 : Int32) [(.int lo), (.int mid), (.int hi)] (.int (0 : Int32)) := (own_recopy hk (.int lo) (.int mid) (.int hi) (.int (0 : Int32)) ▸ Vp112)
  show Go p e below _ (T112.setTop (mkF m 141 #[.val (.ref a), .val (.int (2 : Int32)), .val (.long (0 : Int64)), .second, .val (.long (0 : Int64)), .second, .val (.ref va), .val (.ref en), .val (.int (0 : Int32)), .val (.long (0 : Int64)), .second, .val (.ref un), .val (.int k), .val (.int (0 : Int32))] []))
  refine Go.st (fun t' k' => XS.aloadN X112.here hx rfl (hb hby d5_141) rfl rfl k') ?_
  show Go p e below _ (T112.setTop (mkF m 142 #[.val (.ref a), .val (.int (2 : Int32)), .val (.long (0 : Int64)), .second, .val (.long (0 : Int64)), .second, .val (.ref va), .val (.ref en), .val (.int (0 : Int32)), .val (.long (0 : Int64)), .second, .val (.ref un), .val (.int k), .val (.int (0 : Int32))] [(.ref a)]))
  refine Go.st (fun t' k' => XS.iloadN X112.here hx rfl (hb hby d5_142) rfl k') ?_
  show Go p e below _ (T112.setTop (mkF m 143 #[.val (.ref a), .val (.int (2 : Int32)), .val (.long (0 : Int64)), .second, .val (.long (0 : Int64)), .second, .val (.ref va), .val (.ref en), .val (.int (0 : Int32)), .val (.long (0 : Int64)), .second, .val (.ref un), .val (.int k), .val (.int (0 : Int32))] [(.int (2 : Int32)), (.ref a)]))
  obtain ⟨T114, h114, X114, e114, W114, st114⟩ := putF X112 hx hZ hown (host := "") (Or.inl (hw _ (List.mem_of_getElem? (i := 38) rfl))) Via.refl e112 Fline_h113 Ea_h113 (Or.inl (hw _ (List.mem_of_getElem? (i := 39) rfl))) (hw _ (List.mem_of_getElem? (i := 10) rfl)) (ty := .int) (by decide) rfl rfl (g := (mkF m 143 #[.val (.ref a), .val (.int (2 : Int32)), .val (.long (0 : Int64)), .second, .val (.long (0 : Int64)), .second, .val (.ref va), .val (.ref en), .val (.int (0 : Int32)), .val (.long (0 : Int64)), .second, .val (.ref un), .val (.int k), .val (.int (0 : Int32))] [(.int (2 : Int32)), (.ref a)])) rfl rfl (hb hby d5_143)
  refine Go.st st114 ?_
  have Fw114 : Fld Z h114 a "com/example/harakeke/harakeke/model/Record" "line" "I" (.int (2 : Int32)) := Fline_h113.same W114
  have Ea_h115 := Ea_h113.wr W114
  have Fb_h115 := Fb_h113.other W114 (Or.inr (slot_ne (Or.inl (hw _ (List.mem_of_getElem? (i := 21) rfl))) (Or.inl (hw _ (List.mem_of_getElem? (i := 39) rfl))) (by decide) (t := (.array .byte)) (t' := .int) (by decide) (by decide)))
  have Fe_h115 := Fe_h113.other W114 (Or.inr (slot_ne (Or.inl (hw _ (List.mem_of_getElem? (i := 25) rfl))) (Or.inl (hw _ (List.mem_of_getElem? (i := 39) rfl))) (by decide) (t := (.array .int)) (t' := .int) (by decide) (by decide)))
  have Fu_h115 := Fu_h113.other W114 (Or.inr (slot_ne (Or.inl (hw _ (List.mem_of_getElem? (i := 27) rfl))) (Or.inl (hw _ (List.mem_of_getElem? (i := 39) rfl))) (by decide) (t := (.array .int)) (t' := .int) (by decide) (by decide)))
  have Foffset_h115 := Foffset_h113.other W114 (Or.inr (slot_ne (Or.inl (hw _ (List.mem_of_getElem? (i := 41) rfl))) (Or.inl (hw _ (List.mem_of_getElem? (i := 39) rfl))) (by decide) (t := .long) (t' := .int) (by decide) (by decide)))
  have Flength_h115 := Flength_h113.other W114 (Or.inr (slot_ne (Or.inl (hw _ (List.mem_of_getElem? (i := 43) rfl))) (Or.inl (hw _ (List.mem_of_getElem? (i := 39) rfl))) (by decide) (t := .long) (t' := .int) (by decide) (by decide)))
  have Fkept_h115 := Fkept_h113.other W114 (Or.inr (slot_ne (Or.inl (hw _ (List.mem_of_getElem? (i := 45) rfl))) (Or.inl (hw _ (List.mem_of_getElem? (i := 39) rfl))) (by decide) (t := .int) (t' := .int) (by decide) (by decide)))
  have FfieldCount_h115 := FfieldCount_h113.other W114 (Or.inr (slot_ne (Or.inl (hw _ (List.mem_of_getElem? (i := 47) rfl))) (Or.inl (hw _ (List.mem_of_getElem? (i := 39) rfl))) (by decide) (t := .long) (t' := .int) (by decide) (by decide)))
  have FunprintableCount_h115 := FunprintableCount_h113.other W114 (Or.inr (slot_ne (Or.inl (hw _ (List.mem_of_getElem? (i := 49) rfl))) (Or.inl (hw _ (List.mem_of_getElem? (i := 39) rfl))) (by decide) (t := .int) (t' := .int) (by decide) (by decide)))
  have Av_h115 := Av_h113.other W114 Nva
  have Ae_h115 := Ae_h113.other W114 Nen
  have Au_h115 := Au_h113.other W114 Nun
  have V_b_112_h115 := V_b_112.other W114 (Ne.symm Nab)
  have O114 := own_ext_wr O112 W114 Ga
  have K114 := K112.wr W114 (Or.inl (List.mem_of_getElem? (i := 0) rfl))
  have N114 := Fr.snoc X114 N112 Ga
  show Go p e below _ (T114.setTop (mkF m 146 #[.val (.ref a), .val (.int (2 : Int32)), .val (.long (0 : Int64)), .second, .val (.long (0 : Int64)), .second, .val (.ref va), .val (.ref en), .val (.int (0 : Int32)), .val (.long (0 : Int64)), .second, .val (.ref un), .val (.int k), .val (.int (0 : Int32))] []))
  refine Go.st (fun t' k' => XS.aloadN X114.here hx rfl (hb hby d5_146) rfl rfl k') ?_
  show Go p e below _ (T114.setTop (mkF m 147 #[.val (.ref a), .val (.int (2 : Int32)), .val (.long (0 : Int64)), .second, .val (.long (0 : Int64)), .second, .val (.ref va), .val (.ref en), .val (.int (0 : Int32)), .val (.long (0 : Int64)), .second, .val (.ref un), .val (.int k), .val (.int (0 : Int32))] [(.ref a)]))
  refine Go.st (fun t' k' => XS.lloadN X114.here hx rfl (hb hby d5_147) rfl k') ?_
  show Go p e below _ (T114.setTop (mkF m 148 #[.val (.ref a), .val (.int (2 : Int32)), .val (.long (0 : Int64)), .second, .val (.long (0 : Int64)), .second, .val (.ref va), .val (.ref en), .val (.int (0 : Int32)), .val (.long (0 : Int64)), .second, .val (.ref un), .val (.int k), .val (.int (0 : Int32))] [(.long (0 : Int64)), (.ref a)]))
  obtain ⟨T116, h116, X116, e116, W116, st116⟩ := putF X114 hx hZ hown (host := "") (Or.inl (hw _ (List.mem_of_getElem? (i := 40) rfl))) Via.refl e114 Foffset_h115 Ea_h115 (Or.inl (hw _ (List.mem_of_getElem? (i := 41) rfl))) (hw _ (List.mem_of_getElem? (i := 10) rfl)) (ty := .long) (by decide) rfl rfl (g := (mkF m 148 #[.val (.ref a), .val (.int (2 : Int32)), .val (.long (0 : Int64)), .second, .val (.long (0 : Int64)), .second, .val (.ref va), .val (.ref en), .val (.int (0 : Int32)), .val (.long (0 : Int64)), .second, .val (.ref un), .val (.int k), .val (.int (0 : Int32))] [(.long (0 : Int64)), (.ref a)])) rfl rfl (hb hby d5_148)
  refine Go.st st116 ?_
  have Fw116 : Fld Z h116 a "com/example/harakeke/harakeke/model/Record" "offset" "J" (.long (0 : Int64)) := Foffset_h115.same W116
  have Ea_h117 := Ea_h115.wr W116
  have Fb_h117 := Fb_h115.other W116 (Or.inr (slot_ne (Or.inl (hw _ (List.mem_of_getElem? (i := 21) rfl))) (Or.inl (hw _ (List.mem_of_getElem? (i := 41) rfl))) (by decide) (t := (.array .byte)) (t' := .long) (by decide) (by decide)))
  have Fe_h117 := Fe_h115.other W116 (Or.inr (slot_ne (Or.inl (hw _ (List.mem_of_getElem? (i := 25) rfl))) (Or.inl (hw _ (List.mem_of_getElem? (i := 41) rfl))) (by decide) (t := (.array .int)) (t' := .long) (by decide) (by decide)))
  have Fu_h117 := Fu_h115.other W116 (Or.inr (slot_ne (Or.inl (hw _ (List.mem_of_getElem? (i := 27) rfl))) (Or.inl (hw _ (List.mem_of_getElem? (i := 41) rfl))) (by decide) (t := (.array .int)) (t' := .long) (by decide) (by decide)))
  have Flength_h117 := Flength_h115.other W116 (Or.inr (slot_ne (Or.inl (hw _ (List.mem_of_getElem? (i := 43) rfl))) (Or.inl (hw _ (List.mem_of_getElem? (i := 41) rfl))) (by decide) (t := .long) (t' := .long) (by decide) (by decide)))
  have Fkept_h117 := Fkept_h115.other W116 (Or.inr (slot_ne (Or.inl (hw _ (List.mem_of_getElem? (i := 45) rfl))) (Or.inl (hw _ (List.mem_of_getElem? (i := 41) rfl))) (by decide) (t := .int) (t' := .long) (by decide) (by decide)))
  have FfieldCount_h117 := FfieldCount_h115.other W116 (Or.inr (slot_ne (Or.inl (hw _ (List.mem_of_getElem? (i := 47) rfl))) (Or.inl (hw _ (List.mem_of_getElem? (i := 41) rfl))) (by decide) (t := .long) (t' := .long) (by decide) (by decide)))
  have FunprintableCount_h117 := FunprintableCount_h115.other W116 (Or.inr (slot_ne (Or.inl (hw _ (List.mem_of_getElem? (i := 49) rfl))) (Or.inl (hw _ (List.mem_of_getElem? (i := 41) rfl))) (by decide) (t := .int) (t' := .long) (by decide) (by decide)))
  have Av_h117 := Av_h115.other W116 Nva
  have Ae_h117 := Ae_h115.other W116 Nen
  have Au_h117 := Au_h115.other W116 Nun
  have V_b_112_h117 := V_b_112_h115.other W116 (Ne.symm Nab)
  have Fw114_h117 := Fw114.other W116 (Or.inr (slot_ne (Or.inl (hw _ (List.mem_of_getElem? (i := 39) rfl))) (Or.inl (hw _ (List.mem_of_getElem? (i := 41) rfl))) (by decide) (t := .int) (t' := .long) (by decide) (by decide)))
  have O116 := own_ext_wr O114 W116 Ga
  have K116 := K114.wr W116 (Or.inl (List.mem_of_getElem? (i := 0) rfl))
  have N116 := Fr.snoc X116 N114 Ga
  show Go p e below _ (T116.setTop (mkF m 151 #[.val (.ref a), .val (.int (2 : Int32)), .val (.long (0 : Int64)), .second, .val (.long (0 : Int64)), .second, .val (.ref va), .val (.ref en), .val (.int (0 : Int32)), .val (.long (0 : Int64)), .second, .val (.ref un), .val (.int k), .val (.int (0 : Int32))] []))
  refine Go.st (fun t' k' => XS.aloadN X116.here hx rfl (hb hby d5_151) rfl rfl k') ?_
  show Go p e below _ (T116.setTop (mkF m 152 #[.val (.ref a), .val (.int (2 : Int32)), .val (.long (0 : Int64)), .second, .val (.long (0 : Int64)), .second, .val (.ref va), .val (.ref en), .val (.int (0 : Int32)), .val (.long (0 : Int64)), .second, .val (.ref un), .val (.int k), .val (.int (0 : Int32))] [(.ref a)]))
  refine Go.st (fun t' k' => XS.lload X116.here hx rfl (hb hby d5_152) rfl k') ?_
  show Go p e below _ (T116.setTop (mkF m 154 #[.val (.ref a), .val (.int (2 : Int32)), .val (.long (0 : Int64)), .second, .val (.long (0 : Int64)), .second, .val (.ref va), .val (.ref en), .val (.int (0 : Int32)), .val (.long (0 : Int64)), .second, .val (.ref un), .val (.int k), .val (.int (0 : Int32))] [(.long (0 : Int64)), (.ref a)]))
  obtain ⟨T118, h118, X118, e118, W118, st118⟩ := putF X116 hx hZ hown (host := "") (Or.inl (hw _ (List.mem_of_getElem? (i := 42) rfl))) Via.refl e116 Flength_h117 Ea_h117 (Or.inl (hw _ (List.mem_of_getElem? (i := 43) rfl))) (hw _ (List.mem_of_getElem? (i := 10) rfl)) (ty := .long) (by decide) rfl rfl (g := (mkF m 154 #[.val (.ref a), .val (.int (2 : Int32)), .val (.long (0 : Int64)), .second, .val (.long (0 : Int64)), .second, .val (.ref va), .val (.ref en), .val (.int (0 : Int32)), .val (.long (0 : Int64)), .second, .val (.ref un), .val (.int k), .val (.int (0 : Int32))] [(.long (0 : Int64)), (.ref a)])) rfl rfl (hb hby d5_154)
  refine Go.st st118 ?_
  have Fw118 : Fld Z h118 a "com/example/harakeke/harakeke/model/Record" "length" "J" (.long (0 : Int64)) := Flength_h117.same W118
  have Ea_h119 := Ea_h117.wr W118
  have Fb_h119 := Fb_h117.other W118 (Or.inr (slot_ne (Or.inl (hw _ (List.mem_of_getElem? (i := 21) rfl))) (Or.inl (hw _ (List.mem_of_getElem? (i := 43) rfl))) (by decide) (t := (.array .byte)) (t' := .long) (by decide) (by decide)))
  have Fe_h119 := Fe_h117.other W118 (Or.inr (slot_ne (Or.inl (hw _ (List.mem_of_getElem? (i := 25) rfl))) (Or.inl (hw _ (List.mem_of_getElem? (i := 43) rfl))) (by decide) (t := (.array .int)) (t' := .long) (by decide) (by decide)))
  have Fu_h119 := Fu_h117.other W118 (Or.inr (slot_ne (Or.inl (hw _ (List.mem_of_getElem? (i := 27) rfl))) (Or.inl (hw _ (List.mem_of_getElem? (i := 43) rfl))) (by decide) (t := (.array .int)) (t' := .long) (by decide) (by decide)))
  have Fkept_h119 := Fkept_h117.other W118 (Or.inr (slot_ne (Or.inl (hw _ (List.mem_of_getElem? (i := 45) rfl))) (Or.inl (hw _ (List.mem_of_getElem? (i := 43) rfl))) (by decide) (t := .int) (t' := .long) (by decide) (by decide)))
  have FfieldCount_h119 := FfieldCount_h117.other W118 (Or.inr (slot_ne (Or.inl (hw _ (List.mem_of_getElem? (i := 47) rfl))) (Or.inl (hw _ (List.mem_of_getElem? (i := 43) rfl))) (by decide) (t := .long) (t' := .long) (by decide) (by decide)))
  have FunprintableCount_h119 := FunprintableCount_h117.other W118 (Or.inr (slot_ne (Or.inl (hw _ (List.mem_of_getElem? (i := 49) rfl))) (Or.inl (hw _ (List.mem_of_getElem? (i := 43) rfl))) (by decide) (t := .int) (t' := .long) (by decide) (by decide)))
  have Av_h119 := Av_h117.other W118 Nva
  have Ae_h119 := Ae_h117.other W118 Nen
  have Au_h119 := Au_h117.other W118 Nun
  have V_b_112_h119 := V_b_112_h117.other W118 (Ne.symm Nab)
  have Fw114_h119 := Fw114_h117.other W118 (Or.inr (slot_ne (Or.inl (hw _ (List.mem_of_getElem? (i := 39) rfl))) (Or.inl (hw _ (List.mem_of_getElem? (i := 43) rfl))) (by decide) (t := .int) (t' := .long) (by decide) (by decide)))
  have Fw116_h119 := Fw116.other W118 (Or.inr (slot_ne (Or.inl (hw _ (List.mem_of_getElem? (i := 41) rfl))) (Or.inl (hw _ (List.mem_of_getElem? (i := 43) rfl))) (by decide) (t := .long) (t' := .long) (by decide) (by decide)))
  have O118 := own_ext_wr O116 W118 Ga
  have K118 := K116.wr W118 (Or.inl (List.mem_of_getElem? (i := 0) rfl))
  have N118 := Fr.snoc X118 N116 Ga
  show Go p e below _ (T118.setTop (mkF m 157 #[.val (.ref a), .val (.int (2 : Int32)), .val (.long (0 : Int64)), .second, .val (.long (0 : Int64)), .second, .val (.ref va), .val (.ref en), .val (.int (0 : Int32)), .val (.long (0 : Int64)), .second, .val (.ref un), .val (.int k), .val (.int (0 : Int32))] []))
  refine Go.st (fun t' k' => XS.aloadN X118.here hx rfl (hb hby d5_157) rfl rfl k') ?_
  show Go p e below _ (T118.setTop (mkF m 158 #[.val (.ref a), .val (.int (2 : Int32)), .val (.long (0 : Int64)), .second, .val (.long (0 : Int64)), .second, .val (.ref va), .val (.ref en), .val (.int (0 : Int32)), .val (.long (0 : Int64)), .second, .val (.ref un), .val (.int k), .val (.int (0 : Int32))] [(.ref a)]))
  refine Go.st (fun t' k' => XS.iload X118.here hx rfl (hb hby d5_158) rfl k') ?_
  show Go p e below _ (T118.setTop (mkF m 160 #[.val (.ref a), .val (.int (2 : Int32)), .val (.long (0 : Int64)), .second, .val (.long (0 : Int64)), .second, .val (.ref va), .val (.ref en), .val (.int (0 : Int32)), .val (.long (0 : Int64)), .second, .val (.ref un), .val (.int k), .val (.int (0 : Int32))] [(.int (0 : Int32)), (.ref a)]))
  obtain ⟨T120, h120, X120, e120, W120, st120⟩ := putF X118 hx hZ hown (host := "") (Or.inl (hw _ (List.mem_of_getElem? (i := 44) rfl))) Via.refl e118 Fkept_h119 Ea_h119 (Or.inl (hw _ (List.mem_of_getElem? (i := 45) rfl))) (hw _ (List.mem_of_getElem? (i := 10) rfl)) (ty := .int) (by decide) rfl rfl (g := (mkF m 160 #[.val (.ref a), .val (.int (2 : Int32)), .val (.long (0 : Int64)), .second, .val (.long (0 : Int64)), .second, .val (.ref va), .val (.ref en), .val (.int (0 : Int32)), .val (.long (0 : Int64)), .second, .val (.ref un), .val (.int k), .val (.int (0 : Int32))] [(.int (0 : Int32)), (.ref a)])) rfl rfl (hb hby d5_160)
  refine Go.st st120 ?_
  have Fw120 : Fld Z h120 a "com/example/harakeke/harakeke/model/Record" "kept" "I" (.int (0 : Int32)) := Fkept_h119.same W120
  have Ea_h121 := Ea_h119.wr W120
  have Fb_h121 := Fb_h119.other W120 (Or.inr (slot_ne (Or.inl (hw _ (List.mem_of_getElem? (i := 21) rfl))) (Or.inl (hw _ (List.mem_of_getElem? (i := 45) rfl))) (by decide) (t := (.array .byte)) (t' := .int) (by decide) (by decide)))
  have Fe_h121 := Fe_h119.other W120 (Or.inr (slot_ne (Or.inl (hw _ (List.mem_of_getElem? (i := 25) rfl))) (Or.inl (hw _ (List.mem_of_getElem? (i := 45) rfl))) (by decide) (t := (.array .int)) (t' := .int) (by decide) (by decide)))
  have Fu_h121 := Fu_h119.other W120 (Or.inr (slot_ne (Or.inl (hw _ (List.mem_of_getElem? (i := 27) rfl))) (Or.inl (hw _ (List.mem_of_getElem? (i := 45) rfl))) (by decide) (t := (.array .int)) (t' := .int) (by decide) (by decide)))
  have FfieldCount_h121 := FfieldCount_h119.other W120 (Or.inr (slot_ne (Or.inl (hw _ (List.mem_of_getElem? (i := 47) rfl))) (Or.inl (hw _ (List.mem_of_getElem? (i := 45) rfl))) (by decide) (t := .long) (t' := .int) (by decide) (by decide)))
  have FunprintableCount_h121 := FunprintableCount_h119.other W120 (Or.inr (slot_ne (Or.inl (hw _ (List.mem_of_getElem? (i := 49) rfl))) (Or.inl (hw _ (List.mem_of_getElem? (i := 45) rfl))) (by decide) (t := .int) (t' := .int) (by decide) (by decide)))
  have Av_h121 := Av_h119.other W120 Nva
  have Ae_h121 := Ae_h119.other W120 Nen
  have Au_h121 := Au_h119.other W120 Nun
  have V_b_112_h121 := V_b_112_h119.other W120 (Ne.symm Nab)
  have Fw114_h121 := Fw114_h119.other W120 (Or.inr (slot_ne (Or.inl (hw _ (List.mem_of_getElem? (i := 39) rfl))) (Or.inl (hw _ (List.mem_of_getElem? (i := 45) rfl))) (by decide) (t := .int) (t' := .int) (by decide) (by decide)))
  have Fw116_h121 := Fw116_h119.other W120 (Or.inr (slot_ne (Or.inl (hw _ (List.mem_of_getElem? (i := 41) rfl))) (Or.inl (hw _ (List.mem_of_getElem? (i := 45) rfl))) (by decide) (t := .long) (t' := .int) (by decide) (by decide)))
  have Fw118_h121 := Fw118.other W120 (Or.inr (slot_ne (Or.inl (hw _ (List.mem_of_getElem? (i := 43) rfl))) (Or.inl (hw _ (List.mem_of_getElem? (i := 45) rfl))) (by decide) (t := .long) (t' := .int) (by decide) (by decide)))
  have O120 := own_ext_wr O118 W120 Ga
  have K120 := K118.wr W120 (Or.inl (List.mem_of_getElem? (i := 0) rfl))
  have N120 := Fr.snoc X120 N118 Ga
  show Go p e below _ (T120.setTop (mkF m 163 #[.val (.ref a), .val (.int (2 : Int32)), .val (.long (0 : Int64)), .second, .val (.long (0 : Int64)), .second, .val (.ref va), .val (.ref en), .val (.int (0 : Int32)), .val (.long (0 : Int64)), .second, .val (.ref un), .val (.int k), .val (.int (0 : Int32))] []))
  refine Go.st (fun t' k' => XS.aloadN X120.here hx rfl (hb hby d5_163) rfl rfl k') ?_
  show Go p e below _ (T120.setTop (mkF m 164 #[.val (.ref a), .val (.int (2 : Int32)), .val (.long (0 : Int64)), .second, .val (.long (0 : Int64)), .second, .val (.ref va), .val (.ref en), .val (.int (0 : Int32)), .val (.long (0 : Int64)), .second, .val (.ref un), .val (.int k), .val (.int (0 : Int32))] [(.ref a)]))
  refine Go.st (fun t' k' => XS.lload X120.here hx rfl (hb hby d5_164) rfl k') ?_
  show Go p e below _ (T120.setTop (mkF m 166 #[.val (.ref a), .val (.int (2 : Int32)), .val (.long (0 : Int64)), .second, .val (.long (0 : Int64)), .second, .val (.ref va), .val (.ref en), .val (.int (0 : Int32)), .val (.long (0 : Int64)), .second, .val (.ref un), .val (.int k), .val (.int (0 : Int32))] [(.long (0 : Int64)), (.ref a)]))
  obtain ⟨T122, h122, X122, e122, W122, st122⟩ := putF X120 hx hZ hown (host := "") (Or.inl (hw _ (List.mem_of_getElem? (i := 46) rfl))) Via.refl e120 FfieldCount_h121 Ea_h121 (Or.inl (hw _ (List.mem_of_getElem? (i := 47) rfl))) (hw _ (List.mem_of_getElem? (i := 10) rfl)) (ty := .long) (by decide) rfl rfl (g := (mkF m 166 #[.val (.ref a), .val (.int (2 : Int32)), .val (.long (0 : Int64)), .second, .val (.long (0 : Int64)), .second, .val (.ref va), .val (.ref en), .val (.int (0 : Int32)), .val (.long (0 : Int64)), .second, .val (.ref un), .val (.int k), .val (.int (0 : Int32))] [(.long (0 : Int64)), (.ref a)])) rfl rfl (hb hby d5_166)
  refine Go.st st122 ?_
  have Fw122 : Fld Z h122 a "com/example/harakeke/harakeke/model/Record" "fieldCount" "J" (.long (0 : Int64)) := FfieldCount_h121.same W122
  have Ea_h123 := Ea_h121.wr W122
  have Fb_h123 := Fb_h121.other W122 (Or.inr (slot_ne (Or.inl (hw _ (List.mem_of_getElem? (i := 21) rfl))) (Or.inl (hw _ (List.mem_of_getElem? (i := 47) rfl))) (by decide) (t := (.array .byte)) (t' := .long) (by decide) (by decide)))
  have Fe_h123 := Fe_h121.other W122 (Or.inr (slot_ne (Or.inl (hw _ (List.mem_of_getElem? (i := 25) rfl))) (Or.inl (hw _ (List.mem_of_getElem? (i := 47) rfl))) (by decide) (t := (.array .int)) (t' := .long) (by decide) (by decide)))
  have Fu_h123 := Fu_h121.other W122 (Or.inr (slot_ne (Or.inl (hw _ (List.mem_of_getElem? (i := 27) rfl))) (Or.inl (hw _ (List.mem_of_getElem? (i := 47) rfl))) (by decide) (t := (.array .int)) (t' := .long) (by decide) (by decide)))
  have FunprintableCount_h123 := FunprintableCount_h121.other W122 (Or.inr (slot_ne (Or.inl (hw _ (List.mem_of_getElem? (i := 49) rfl))) (Or.inl (hw _ (List.mem_of_getElem? (i := 47) rfl))) (by decide) (t := .int) (t' := .long) (by decide) (by decide)))
  have Av_h123 := Av_h121.other W122 Nva
  have Ae_h123 := Ae_h121.other W122 Nen
  have Au_h123 := Au_h121.other W122 Nun
  have V_b_112_h123 := V_b_112_h121.other W122 (Ne.symm Nab)
  have Fw114_h123 := Fw114_h121.other W122 (Or.inr (slot_ne (Or.inl (hw _ (List.mem_of_getElem? (i := 39) rfl))) (Or.inl (hw _ (List.mem_of_getElem? (i := 47) rfl))) (by decide) (t := .int) (t' := .long) (by decide) (by decide)))
  have Fw116_h123 := Fw116_h121.other W122 (Or.inr (slot_ne (Or.inl (hw _ (List.mem_of_getElem? (i := 41) rfl))) (Or.inl (hw _ (List.mem_of_getElem? (i := 47) rfl))) (by decide) (t := .long) (t' := .long) (by decide) (by decide)))
  have Fw118_h123 := Fw118_h121.other W122 (Or.inr (slot_ne (Or.inl (hw _ (List.mem_of_getElem? (i := 43) rfl))) (Or.inl (hw _ (List.mem_of_getElem? (i := 47) rfl))) (by decide) (t := .long) (t' := .long) (by decide) (by decide)))
  have Fw120_h123 := Fw120.other W122 (Or.inr (slot_ne (Or.inl (hw _ (List.mem_of_getElem? (i := 45) rfl))) (Or.inl (hw _ (List.mem_of_getElem? (i := 47) rfl))) (by decide) (t := .int) (t' := .long) (by decide) (by decide)))
  have O122 := own_ext_wr O120 W122 Ga
  have K122 := K120.wr W122 (Or.inl (List.mem_of_getElem? (i := 0) rfl))
  have N122 := Fr.snoc X122 N120 Ga
  show Go p e below _ (T122.setTop (mkF m 169 #[.val (.ref a), .val (.int (2 : Int32)), .val (.long (0 : Int64)), .second, .val (.long (0 : Int64)), .second, .val (.ref va), .val (.ref en), .val (.int (0 : Int32)), .val (.long (0 : Int64)), .second, .val (.ref un), .val (.int k), .val (.int (0 : Int32))] []))
  refine Go.st (fun t' k' => XS.aloadN X122.here hx rfl (hb hby d5_169) rfl rfl k') ?_
  show Go p e below _ (T122.setTop (mkF m 170 #[.val (.ref a), .val (.int (2 : Int32)), .val (.long (0 : Int64)), .second, .val (.long (0 : Int64)), .second, .val (.ref va), .val (.ref en), .val (.int (0 : Int32)), .val (.long (0 : Int64)), .second, .val (.ref un), .val (.int k), .val (.int (0 : Int32))] [(.ref a)]))
  refine Go.st (fun t' k' => XS.iload X122.here hx rfl (hb hby d5_170) rfl k') ?_
  show Go p e below _ (T122.setTop (mkF m 172 #[.val (.ref a), .val (.int (2 : Int32)), .val (.long (0 : Int64)), .second, .val (.long (0 : Int64)), .second, .val (.ref va), .val (.ref en), .val (.int (0 : Int32)), .val (.long (0 : Int64)), .second, .val (.ref un), .val (.int k), .val (.int (0 : Int32))] [(.int k), (.ref a)]))
  obtain ⟨T124, h124, X124, e124, W124, st124⟩ := putF X122 hx hZ hown (host := "") (Or.inl (hw _ (List.mem_of_getElem? (i := 48) rfl))) Via.refl e122 FunprintableCount_h123 Ea_h123 (Or.inl (hw _ (List.mem_of_getElem? (i := 49) rfl))) (hw _ (List.mem_of_getElem? (i := 10) rfl)) (ty := .int) (by decide) rfl rfl (g := (mkF m 172 #[.val (.ref a), .val (.int (2 : Int32)), .val (.long (0 : Int64)), .second, .val (.long (0 : Int64)), .second, .val (.ref va), .val (.ref en), .val (.int (0 : Int32)), .val (.long (0 : Int64)), .second, .val (.ref un), .val (.int k), .val (.int (0 : Int32))] [(.int k), (.ref a)])) rfl rfl (hb hby d5_172)
  refine Go.st st124 ?_
  have Fw124 : Fld Z h124 a "com/example/harakeke/harakeke/model/Record" "unprintableCount" "I" (.int k) := FunprintableCount_h123.same W124
  have Ea_h125 := Ea_h123.wr W124
  have Fb_h125 := Fb_h123.other W124 (Or.inr (slot_ne (Or.inl (hw _ (List.mem_of_getElem? (i := 21) rfl))) (Or.inl (hw _ (List.mem_of_getElem? (i := 49) rfl))) (by decide) (t := (.array .byte)) (t' := .int) (by decide) (by decide)))
  have Fe_h125 := Fe_h123.other W124 (Or.inr (slot_ne (Or.inl (hw _ (List.mem_of_getElem? (i := 25) rfl))) (Or.inl (hw _ (List.mem_of_getElem? (i := 49) rfl))) (by decide) (t := (.array .int)) (t' := .int) (by decide) (by decide)))
  have Fu_h125 := Fu_h123.other W124 (Or.inr (slot_ne (Or.inl (hw _ (List.mem_of_getElem? (i := 27) rfl))) (Or.inl (hw _ (List.mem_of_getElem? (i := 49) rfl))) (by decide) (t := (.array .int)) (t' := .int) (by decide) (by decide)))
  have Av_h125 := Av_h123.other W124 Nva
  have Ae_h125 := Ae_h123.other W124 Nen
  have Au_h125 := Au_h123.other W124 Nun
  have V_b_112_h125 := V_b_112_h123.other W124 (Ne.symm Nab)
  have Fw114_h125 := Fw114_h123.other W124 (Or.inr (slot_ne (Or.inl (hw _ (List.mem_of_getElem? (i := 39) rfl))) (Or.inl (hw _ (List.mem_of_getElem? (i := 49) rfl))) (by decide) (t := .int) (t' := .int) (by decide) (by decide)))
  have Fw116_h125 := Fw116_h123.other W124 (Or.inr (slot_ne (Or.inl (hw _ (List.mem_of_getElem? (i := 41) rfl))) (Or.inl (hw _ (List.mem_of_getElem? (i := 49) rfl))) (by decide) (t := .long) (t' := .int) (by decide) (by decide)))
  have Fw118_h125 := Fw118_h123.other W124 (Or.inr (slot_ne (Or.inl (hw _ (List.mem_of_getElem? (i := 43) rfl))) (Or.inl (hw _ (List.mem_of_getElem? (i := 49) rfl))) (by decide) (t := .long) (t' := .int) (by decide) (by decide)))
  have Fw120_h125 := Fw120_h123.other W124 (Or.inr (slot_ne (Or.inl (hw _ (List.mem_of_getElem? (i := 45) rfl))) (Or.inl (hw _ (List.mem_of_getElem? (i := 49) rfl))) (by decide) (t := .int) (t' := .int) (by decide) (by decide)))
  have Fw122_h125 := Fw122.other W124 (Or.inr (slot_ne (Or.inl (hw _ (List.mem_of_getElem? (i := 47) rfl))) (Or.inl (hw _ (List.mem_of_getElem? (i := 49) rfl))) (by decide) (t := .long) (t' := .int) (by decide) (by decide)))
  have O124 := own_ext_wr O122 W124 Ga
  have K124 := K122.wr W124 (Or.inl (List.mem_of_getElem? (i := 0) rfl))
  have N124 := Fr.snoc X124 N122 Ga
  show Go p e below _ (T124.setTop (mkF m 175 #[.val (.ref a), .val (.int (2 : Int32)), .val (.long (0 : Int64)), .second, .val (.long (0 : Int64)), .second, .val (.ref va), .val (.ref en), .val (.int (0 : Int32)), .val (.long (0 : Int64)), .second, .val (.ref un), .val (.int k), .val (.int (0 : Int32))] []))
  exact Go.outU X124 hx hlk hret (hb hby d5_175) (Q := Q_rmSet2 Z a va en un k w_NO_BYTES w_NO_NUMBERS k_B k_N kv ke ku lo mid hi b kb h0) (by rw [e124]; exact ⟨rfl, N124, O124, K124, Fb_h125, Fe_h125, Fu_h125, V_b_112_h125, Fw114_h125, Fw116_h125, Fw118_h125, Fw120_h125, Fw122_h125, Fw124⟩) (by decide) (by decide)
theorem ef_rmPrint (m : MethodId) (x0 : Addr) (x1 : Int32) : entryFrame m #[(.ref x0), (.int x1)] 3 = mkF m 0 #[.val (.ref x0), .val (.int x1), .unset] [] := by first | (simp [entryFrame, mkF, argsToLocals, Value.category]; done) | rfl
def Q_rmPrint (Z : State) (a : Addr) (t : Int32) (k : Int32) (b : Addr) (kb : ClassId) (lo : Int32) (mid : Int32) (hi : Int32) (h0 : Heap) (v : Option Value) (h : Heap) (L : List Loc) : Prop := v = some (.int (own_pr k t lo mid hi)) ∧ L = [] ∧ h = h0
theorem d6_0 : decode prog_52_method_19_code 0 = .ok (.iconst 0, 1) := by decide +kernel
theorem d6_1 : decode prog_52_method_19_code 1 = .ok (.istore_n 2, 1) := by decide +kernel
theorem d6_2 : decode prog_52_method_19_code 2 = .ok (.iload_n 2, 1) := by decide +kernel
theorem d6_3 : decode prog_52_method_19_code 3 = .ok (.aload_n 0, 1) := by decide +kernel
theorem d6_4 : decode prog_52_method_19_code 4 = .ok (.getfield 133, 3) := by decide +kernel
theorem d6_7 : decode prog_52_method_19_code 7 = .ok (.if_icmp .ge 21, 3) := by decide +kernel
theorem d6_10 : decode prog_52_method_19_code 10 = .ok (.aload_n 0, 1) := by decide +kernel
theorem d6_11 : decode prog_52_method_19_code 11 = .ok (.getfield 23, 3) := by decide +kernel
theorem d6_14 : decode prog_52_method_19_code 14 = .ok (.iload_n 2, 1) := by decide +kernel
theorem d6_15 : decode prog_52_method_19_code 15 = .ok (.iaload, 1) := by decide +kernel
theorem d6_16 : decode prog_52_method_19_code 16 = .ok (.iload_n 1, 1) := by decide +kernel
theorem d6_17 : decode prog_52_method_19_code 17 = .ok (.if_icmp .ne 5, 3) := by decide +kernel
theorem d6_20 : decode prog_52_method_19_code 20 = .ok (.iconst 0, 1) := by decide +kernel
theorem d6_21 : decode prog_52_method_19_code 21 = .ok (.ireturn, 1) := by decide +kernel
theorem d6_22 : decode prog_52_method_19_code 22 = .ok (.iinc 2 1, 3) := by decide +kernel
theorem d6_25 : decode prog_52_method_19_code 25 = .ok (.goto (-23), 3) := by decide +kernel
theorem d6_28 : decode prog_52_method_19_code 28 = .ok (.iconst 1, 1) := by decide +kernel
theorem d6_29 : decode prog_52_method_19_code 29 = .ok (.ireturn, 1) := by decide +kernel
set_option maxRecDepth 65536 in
set_option maxHeartbeats 40000000 in
theorem rmPrint (l : Launch) (Z : State) (a0 : Array Value) (hw : ∀ d ∈ tables_1, d.before a0 Z = true) (ws : List Jvm.Cond) (a : Addr) (t : Int32) (k : Int32) (b : Addr) (kb : ClassId) (lo : Int32) (mid : Int32) (hi : Int32) (h0 : Heap) (O0 : Ext Z.heap h0) (Fc : Fld Z h0 a "com/example/harakeke/harakeke/model/Record" "unprintableCount" "I" (.int k)) (Fu : Fld Z h0 a "com/example/harakeke/harakeke/model/Record" "unprintable" "[I" (.ref b)) (Vb : Arv Z h0 b kb .int (3 : Int32) [(.int lo), (.int mid), (.int hi)] (.int (0 : Int32))) (hk : k = 0 ∨ k = 1 ∨ k = 2 ∨ k = 3) :
    MetFree l (⟨"com/example/harakeke/harakeke/model/Record", "isPrintable", "(I)Z"⟩ : MethodName) (head1 (Jvm.Cond.code (⟨"com/example/harakeke/harakeke/model/Record", "isPrintable", "(I)Z"⟩ : MethodName) prog_52_method_19_code 3 (some .boolean) :: ws) ({ frames := 0, cells := 0, slots := 0, locals := 0 } : Room)) (fun av' U => av' = #[(.ref a), (.int t)] ∧ Z.Warmed39 U.vm ∧ U.heap = h0) (fun _ _ _ _ _ => True) (fun _ U o U' => ∃ v L, o = .returned v ∧ Q_rmPrint Z a t k b kb lo mid hi h0 v U'.heap L ∧ FrameEnd U o U' L ({ frames := 0, cells := 0, slots := 0, locals := 0 } : Room).cells ({ frames := 0, cells := 0, slots := 0, locals := 0 } : Room).slots) := by
  refine MetFree.of_bodySF (plainFor_of_name pn_com_example_harakeke_harakeke_model_Record) hisR ?_
  intro p e s m args below meth c s₁ Bd hml0 hP hK
  obtain ⟨rfl, hZ, hh⟩ := hP
  have hx := Bd.exec
  have hby := Bd.bytes
  have hret := Bd.returns
  have hlk : meth.locks = false := Bd.notSynchronized
  have hml : c.maxLocals = 3 := hml0
  have hown : s.vm.findClass "com/example/harakeke/harakeke/model/Record" = some m.cls := findClass_of_methodNamed Bd.named
  have hnm := (name_of_methodNamed Bd.named Bd.method).1
  have X0 : Stand p l e ({ frames := 0, cells := 0, slots := 0, locals := 0 } : Room) s m #[(.ref a), (.int t)] below meth c s₁ [] 0 0 := Stand.of_body Bd
  -- the walk
  have e0 : s₁.heap = h0 := by rw [← hh, Bd.state]; rfl
  have N0 := Fr.nil Z.heap.size
  show Go p e below (GO s (Q_rmPrint Z a t k b kb lo mid hi h0) ({ frames := 0, cells := 0, slots := 0, locals := 0 } : Room).cells ({ frames := 0, cells := 0, slots := 0, locals := 0 } : Room).slots) (s₁.setTop (entryFrame m #[(.ref a), (.int t)] 3))
  refine Go.st (fun t' k' => castTop (ef_rmPrint m a t) k') ?_
  show Go p e below _ (s₁.setTop (mkF m 0 #[.val (.ref a), .val (.int t), .unset] []))
  refine Go.st (fun t' k' => XS.iconst X0.here hx rfl (hb hby d6_0) k') ?_
  show Go p e below _ (s₁.setTop (mkF m 1 #[.val (.ref a), .val (.int t), .unset] [(.int (0 : Int32))]))
  refine Go.st (fun t' k' => XS.istoreN X0.here hx rfl (hb hby d6_1) rfl (l' := #[.val (.ref a), .val (.int t), .val (.int (0 : Int32))]) rfl k') ?_
  show Go p e below _ (s₁.setTop (mkF m 2 #[.val (.ref a), .val (.int t), .val (.int (0 : Int32))] []))
  refine Go.st (fun t' k' => XS.iloadN X0.here hx rfl (hb hby d6_2) rfl k') ?_
  show Go p e below _ (s₁.setTop (mkF m 3 #[.val (.ref a), .val (.int t), .val (.int (0 : Int32))] [(.int (0 : Int32))]))
  refine Go.st (fun t' k' => XS.aloadN X0.here hx rfl (hb hby d6_3) rfl rfl k') ?_
  show Go p e below _ (s₁.setTop (mkF m 4 #[.val (.ref a), .val (.int t), .val (.int (0 : Int32))] [(.ref a), (.int (0 : Int32))]))
  obtain ⟨T101, X101, e101, st101⟩ := getF X0 hx hZ hown (host := "") (Or.inl (hw _ (List.mem_of_getElem? (i := 48) rfl))) Via.refl e0 Fc (g := (mkF m 4 #[.val (.ref a), .val (.int t), .val (.int (0 : Int32))] [(.ref a), (.int (0 : Int32))])) rfl rfl (hb hby d6_4)
  refine Go.st st101 ?_
  show Go p e below _ (T101.setTop (mkF m 7 #[.val (.ref a), .val (.int t), .val (.int (0 : Int32))] [(.int k), (.int (0 : Int32))]))
  by_cases hc7_102 : (0 : Int32) < k
  · refine Go.st (fun t' k' => XS.icmpNo X101.here hx rfl (hb hby d6_7) rfl (tlt hc7_102).2.1 k') ?_
    show Go p e below _ (T101.setTop (mkF m 10 #[.val (.ref a), .val (.int t), .val (.int (0 : Int32))] []))
    refine Go.st (fun t' k' => XS.aloadN X101.here hx rfl (hb hby d6_10) rfl rfl k') ?_
    show Go p e below _ (T101.setTop (mkF m 11 #[.val (.ref a), .val (.int t), .val (.int (0 : Int32))] [(.ref a)]))
    obtain ⟨T103, X103, e103, st103⟩ := getF X101 hx hZ hown (host := "") (Or.inl (hw _ (List.mem_of_getElem? (i := 26) rfl))) Via.refl e101 Fu (g := (mkF m 11 #[.val (.ref a), .val (.int t), .val (.int (0 : Int32))] [(.ref a)])) rfl rfl (hb hby d6_11)
    refine Go.st st103 ?_
    show Go p e below _ (T103.setTop (mkF m 14 #[.val (.ref a), .val (.int t), .val (.int (0 : Int32))] [(.ref b)]))
    refine Go.st (fun t' k' => XS.iloadN X103.here hx rfl (hb hby d6_14) rfl k') ?_
    show Go p e below _ (T103.setTop (mkF m 15 #[.val (.ref a), .val (.int t), .val (.int (0 : Int32))] [(.int (0 : Int32)), (.ref b)]))
    obtain ⟨cla104, Ara104, qa104, Sza104, Nza104, Hsa104, Gsa104⟩ := (id Vb)
    have hina104 : ¬ ((0 : Int32) < 0 ∨ cla104.slots.size ≤ ((0 : Int32)).toNatClampNeg) := inb_of Sza104 ⟨by decide, by decide⟩
    have hata104 : cla104.slots[((0 : Int32)).toNatClampNeg]? = some (.int lo) := Has.at Hsa104 hina104 rfl
    refine Go.st (X103.iaload hx (j := (0 : Int32)) (v := (.int lo)) (by rw [e103]; exact Ara104.1) (State.isArrayOf_alike hZ.alike Ara104.2.1) Ara104.2.2 hina104 hata104 (g := (mkF m 15 #[.val (.ref a), .val (.int t), .val (.int (0 : Int32))] [(.int (0 : Int32)), (.ref b)])) rfl rfl (hb hby d6_15)) ?_
    show Go p e below _ (T103.setTop (mkF m 16 #[.val (.ref a), .val (.int t), .val (.int (0 : Int32))] [(.int lo)]))
    refine Go.st (fun t' k' => XS.iloadN X103.here hx rfl (hb hby d6_16) rfl k') ?_
    show Go p e below _ (T103.setTop (mkF m 17 #[.val (.ref a), .val (.int t), .val (.int (0 : Int32))] [(.int t), (.int lo)]))
    by_cases hc17_105 : lo = t
    · refine Go.st (fun t' k' => XS.icmpNo X103.here hx rfl (hb hby d6_17) rfl (teq hc17_105).2 k') ?_
      show Go p e below _ (T103.setTop (mkF m 20 #[.val (.ref a), .val (.int t), .val (.int (0 : Int32))] []))
      refine Go.st (fun t' k' => XS.iconst X103.here hx rfl (hb hby d6_20) k') ?_
      show Go p e below _ (T103.setTop (mkF m 21 #[.val (.ref a), .val (.int t), .val (.int (0 : Int32))] [(.int (0 : Int32))]))
      exact Go.outN X103 hx hlk (t := .boolean) hret (by simp) (hb hby d6_21) (Q := Q_rmPrint Z a t k b kb lo mid hi h0) (by rw [e103]; exact ⟨(by refine congrArg (fun z => some (Value.int z)) ?_; unfold own_pr; split; all_goals (rename_i hh); all_goals first | rfl | (exfalso; simp only [Int32.lt_iff_toInt_lt, ← Int32.toInt_inj, Int32.reduceToInt] at hh hk hc7_102 hc17_105; omega)), rfl, rfl⟩) (by decide) (by decide)
    · refine Go.st (fun t' k' => XS.icmpYes X103.here hx rfl (pc0 := 17) (pc' := 22) rfl (hb hby d6_17) rfl (feq hc17_105).2 (by decide) (by decide) k') ?_
      show Go p e below _ (T103.setTop (mkF m 22 #[.val (.ref a), .val (.int t), .val (.int (0 : Int32))] []))
      refine Go.st (fun t' k' => XS.iinc X103.here hx rfl (hb hby d6_22) rfl (l' := #[.val (.ref a), .val (.int t), .val (.int (1 : Int32))]) rfl k') ?_
      show Go p e below _ (T103.setTop (mkF m 25 #[.val (.ref a), .val (.int t), .val (.int (1 : Int32))] []))
      refine Go.st (fun t' k' => XS.goto X103.here hx rfl (pc0 := 25) (pc' := 2) rfl (hb hby d6_25) (by decide) (by decide) k') ?_
      show Go p e below _ (T103.setTop (mkF m 2 #[.val (.ref a), .val (.int t), .val (.int (1 : Int32))] []))
      refine Go.st (fun t' k' => XS.iloadN X103.here hx rfl (hb hby d6_2) rfl k') ?_
      show Go p e below _ (T103.setTop (mkF m 3 #[.val (.ref a), .val (.int t), .val (.int (1 : Int32))] [(.int (1 : Int32))]))
      refine Go.st (fun t' k' => XS.aloadN X103.here hx rfl (hb hby d6_3) rfl rfl k') ?_
      show Go p e below _ (T103.setTop (mkF m 4 #[.val (.ref a), .val (.int t), .val (.int (1 : Int32))] [(.ref a), (.int (1 : Int32))]))
      obtain ⟨T106, X106, e106, st106⟩ := getF X103 hx hZ hown (host := "") (Or.inl (hw _ (List.mem_of_getElem? (i := 48) rfl))) Via.refl e103 Fc (g := (mkF m 4 #[.val (.ref a), .val (.int t), .val (.int (1 : Int32))] [(.ref a), (.int (1 : Int32))])) rfl rfl (hb hby d6_4)
      refine Go.st st106 ?_
      show Go p e below _ (T106.setTop (mkF m 7 #[.val (.ref a), .val (.int t), .val (.int (1 : Int32))] [(.int k), (.int (1 : Int32))]))
      by_cases hc7_107 : (1 : Int32) < k
      · refine Go.st (fun t' k' => XS.icmpNo X106.here hx rfl (hb hby d6_7) rfl (tlt hc7_107).2.1 k') ?_
        show Go p e below _ (T106.setTop (mkF m 10 #[.val (.ref a), .val (.int t), .val (.int (1 : Int32))] []))
        refine Go.st (fun t' k' => XS.aloadN X106.here hx rfl (hb hby d6_10) rfl rfl k') ?_
        show Go p e below _ (T106.setTop (mkF m 11 #[.val (.ref a), .val (.int t), .val (.int (1 : Int32))] [(.ref a)]))
        obtain ⟨T108, X108, e108, st108⟩ := getF X106 hx hZ hown (host := "") (Or.inl (hw _ (List.mem_of_getElem? (i := 26) rfl))) Via.refl e106 Fu (g := (mkF m 11 #[.val (.ref a), .val (.int t), .val (.int (1 : Int32))] [(.ref a)])) rfl rfl (hb hby d6_11)
        refine Go.st st108 ?_
        show Go p e below _ (T108.setTop (mkF m 14 #[.val (.ref a), .val (.int t), .val (.int (1 : Int32))] [(.ref b)]))
        refine Go.st (fun t' k' => XS.iloadN X108.here hx rfl (hb hby d6_14) rfl k') ?_
        show Go p e below _ (T108.setTop (mkF m 15 #[.val (.ref a), .val (.int t), .val (.int (1 : Int32))] [(.int (1 : Int32)), (.ref b)]))
        obtain ⟨cla109, Ara109, qa109, Sza109, Nza109, Hsa109, Gsa109⟩ := (id Vb)
        have hina109 : ¬ ((1 : Int32) < 0 ∨ cla109.slots.size ≤ ((1 : Int32)).toNatClampNeg) := inb_of Sza109 ⟨by decide, by decide⟩
        have hata109 : cla109.slots[((1 : Int32)).toNatClampNeg]? = some (.int mid) := Has.at Hsa109 hina109 rfl
        refine Go.st (X108.iaload hx (j := (1 : Int32)) (v := (.int mid)) (by rw [e108]; exact Ara109.1) (State.isArrayOf_alike hZ.alike Ara109.2.1) Ara109.2.2 hina109 hata109 (g := (mkF m 15 #[.val (.ref a), .val (.int t), .val (.int (1 : Int32))] [(.int (1 : Int32)), (.ref b)])) rfl rfl (hb hby d6_15)) ?_
        show Go p e below _ (T108.setTop (mkF m 16 #[.val (.ref a), .val (.int t), .val (.int (1 : Int32))] [(.int mid)]))
        refine Go.st (fun t' k' => XS.iloadN X108.here hx rfl (hb hby d6_16) rfl k') ?_
        show Go p e below _ (T108.setTop (mkF m 17 #[.val (.ref a), .val (.int t), .val (.int (1 : Int32))] [(.int t), (.int mid)]))
        by_cases hc17_110 : mid = t
        · refine Go.st (fun t' k' => XS.icmpNo X108.here hx rfl (hb hby d6_17) rfl (teq hc17_110).2 k') ?_
          show Go p e below _ (T108.setTop (mkF m 20 #[.val (.ref a), .val (.int t), .val (.int (1 : Int32))] []))
          refine Go.st (fun t' k' => XS.iconst X108.here hx rfl (hb hby d6_20) k') ?_
          show Go p e below _ (T108.setTop (mkF m 21 #[.val (.ref a), .val (.int t), .val (.int (1 : Int32))] [(.int (0 : Int32))]))
          exact Go.outN X108 hx hlk (t := .boolean) hret (by simp) (hb hby d6_21) (Q := Q_rmPrint Z a t k b kb lo mid hi h0) (by rw [e108]; exact ⟨(by refine congrArg (fun z => some (Value.int z)) ?_; unfold own_pr; split; all_goals (rename_i hh); all_goals first | rfl | (exfalso; simp only [Int32.lt_iff_toInt_lt, ← Int32.toInt_inj, Int32.reduceToInt] at hh hk hc7_102 hc17_105 hc7_107 hc17_110; omega)), rfl, rfl⟩) (by decide) (by decide)
        · refine Go.st (fun t' k' => XS.icmpYes X108.here hx rfl (pc0 := 17) (pc' := 22) rfl (hb hby d6_17) rfl (feq hc17_110).2 (by decide) (by decide) k') ?_
          show Go p e below _ (T108.setTop (mkF m 22 #[.val (.ref a), .val (.int t), .val (.int (1 : Int32))] []))
          refine Go.st (fun t' k' => XS.iinc X108.here hx rfl (hb hby d6_22) rfl (l' := #[.val (.ref a), .val (.int t), .val (.int (2 : Int32))]) rfl k') ?_
          show Go p e below _ (T108.setTop (mkF m 25 #[.val (.ref a), .val (.int t), .val (.int (2 : Int32))] []))
          refine Go.st (fun t' k' => XS.goto X108.here hx rfl (pc0 := 25) (pc' := 2) rfl (hb hby d6_25) (by decide) (by decide) k') ?_
          show Go p e below _ (T108.setTop (mkF m 2 #[.val (.ref a), .val (.int t), .val (.int (2 : Int32))] []))
          refine Go.st (fun t' k' => XS.iloadN X108.here hx rfl (hb hby d6_2) rfl k') ?_
          show Go p e below _ (T108.setTop (mkF m 3 #[.val (.ref a), .val (.int t), .val (.int (2 : Int32))] [(.int (2 : Int32))]))
          refine Go.st (fun t' k' => XS.aloadN X108.here hx rfl (hb hby d6_3) rfl rfl k') ?_
          show Go p e below _ (T108.setTop (mkF m 4 #[.val (.ref a), .val (.int t), .val (.int (2 : Int32))] [(.ref a), (.int (2 : Int32))]))
          obtain ⟨T111, X111, e111, st111⟩ := getF X108 hx hZ hown (host := "") (Or.inl (hw _ (List.mem_of_getElem? (i := 48) rfl))) Via.refl e108 Fc (g := (mkF m 4 #[.val (.ref a), .val (.int t), .val (.int (2 : Int32))] [(.ref a), (.int (2 : Int32))])) rfl rfl (hb hby d6_4)
          refine Go.st st111 ?_
          show Go p e below _ (T111.setTop (mkF m 7 #[.val (.ref a), .val (.int t), .val (.int (2 : Int32))] [(.int k), (.int (2 : Int32))]))
          by_cases hc7_112 : (2 : Int32) < k
          · refine Go.st (fun t' k' => XS.icmpNo X111.here hx rfl (hb hby d6_7) rfl (tlt hc7_112).2.1 k') ?_
            show Go p e below _ (T111.setTop (mkF m 10 #[.val (.ref a), .val (.int t), .val (.int (2 : Int32))] []))
            refine Go.st (fun t' k' => XS.aloadN X111.here hx rfl (hb hby d6_10) rfl rfl k') ?_
            show Go p e below _ (T111.setTop (mkF m 11 #[.val (.ref a), .val (.int t), .val (.int (2 : Int32))] [(.ref a)]))
            obtain ⟨T113, X113, e113, st113⟩ := getF X111 hx hZ hown (host := "") (Or.inl (hw _ (List.mem_of_getElem? (i := 26) rfl))) Via.refl e111 Fu (g := (mkF m 11 #[.val (.ref a), .val (.int t), .val (.int (2 : Int32))] [(.ref a)])) rfl rfl (hb hby d6_11)
            refine Go.st st113 ?_
            show Go p e below _ (T113.setTop (mkF m 14 #[.val (.ref a), .val (.int t), .val (.int (2 : Int32))] [(.ref b)]))
            refine Go.st (fun t' k' => XS.iloadN X113.here hx rfl (hb hby d6_14) rfl k') ?_
            show Go p e below _ (T113.setTop (mkF m 15 #[.val (.ref a), .val (.int t), .val (.int (2 : Int32))] [(.int (2 : Int32)), (.ref b)]))
            obtain ⟨cla114, Ara114, qa114, Sza114, Nza114, Hsa114, Gsa114⟩ := (id Vb)
            have hina114 : ¬ ((2 : Int32) < 0 ∨ cla114.slots.size ≤ ((2 : Int32)).toNatClampNeg) := inb_of Sza114 ⟨by decide, by decide⟩
            have hata114 : cla114.slots[((2 : Int32)).toNatClampNeg]? = some (.int hi) := Has.at Hsa114 hina114 rfl
            refine Go.st (X113.iaload hx (j := (2 : Int32)) (v := (.int hi)) (by rw [e113]; exact Ara114.1) (State.isArrayOf_alike hZ.alike Ara114.2.1) Ara114.2.2 hina114 hata114 (g := (mkF m 15 #[.val (.ref a), .val (.int t), .val (.int (2 : Int32))] [(.int (2 : Int32)), (.ref b)])) rfl rfl (hb hby d6_15)) ?_
            show Go p e below _ (T113.setTop (mkF m 16 #[.val (.ref a), .val (.int t), .val (.int (2 : Int32))] [(.int hi)]))
            refine Go.st (fun t' k' => XS.iloadN X113.here hx rfl (hb hby d6_16) rfl k') ?_
            show Go p e below _ (T113.setTop (mkF m 17 #[.val (.ref a), .val (.int t), .val (.int (2 : Int32))] [(.int t), (.int hi)]))
            by_cases hc17_115 : hi = t
            · refine Go.st (fun t' k' => XS.icmpNo X113.here hx rfl (hb hby d6_17) rfl (teq hc17_115).2 k') ?_
              show Go p e below _ (T113.setTop (mkF m 20 #[.val (.ref a), .val (.int t), .val (.int (2 : Int32))] []))
              refine Go.st (fun t' k' => XS.iconst X113.here hx rfl (hb hby d6_20) k') ?_
              show Go p e below _ (T113.setTop (mkF m 21 #[.val (.ref a), .val (.int t), .val (.int (2 : Int32))] [(.int (0 : Int32))]))
              exact Go.outN X113 hx hlk (t := .boolean) hret (by simp) (hb hby d6_21) (Q := Q_rmPrint Z a t k b kb lo mid hi h0) (by rw [e113]; exact ⟨(by refine congrArg (fun z => some (Value.int z)) ?_; unfold own_pr; split; all_goals (rename_i hh); all_goals first | rfl | (exfalso; simp only [Int32.lt_iff_toInt_lt, ← Int32.toInt_inj, Int32.reduceToInt] at hh hk hc7_102 hc17_105 hc7_107 hc17_110 hc7_112 hc17_115; omega)), rfl, rfl⟩) (by decide) (by decide)
            · refine Go.st (fun t' k' => XS.icmpYes X113.here hx rfl (pc0 := 17) (pc' := 22) rfl (hb hby d6_17) rfl (feq hc17_115).2 (by decide) (by decide) k') ?_
              show Go p e below _ (T113.setTop (mkF m 22 #[.val (.ref a), .val (.int t), .val (.int (2 : Int32))] []))
              refine Go.st (fun t' k' => XS.iinc X113.here hx rfl (hb hby d6_22) rfl (l' := #[.val (.ref a), .val (.int t), .val (.int (3 : Int32))]) rfl k') ?_
              show Go p e below _ (T113.setTop (mkF m 25 #[.val (.ref a), .val (.int t), .val (.int (3 : Int32))] []))
              refine Go.st (fun t' k' => XS.goto X113.here hx rfl (pc0 := 25) (pc' := 2) rfl (hb hby d6_25) (by decide) (by decide) k') ?_
              show Go p e below _ (T113.setTop (mkF m 2 #[.val (.ref a), .val (.int t), .val (.int (3 : Int32))] []))
              refine Go.st (fun t' k' => XS.iloadN X113.here hx rfl (hb hby d6_2) rfl k') ?_
              show Go p e below _ (T113.setTop (mkF m 3 #[.val (.ref a), .val (.int t), .val (.int (3 : Int32))] [(.int (3 : Int32))]))
              refine Go.st (fun t' k' => XS.aloadN X113.here hx rfl (hb hby d6_3) rfl rfl k') ?_
              show Go p e below _ (T113.setTop (mkF m 4 #[.val (.ref a), .val (.int t), .val (.int (3 : Int32))] [(.ref a), (.int (3 : Int32))]))
              obtain ⟨T116, X116, e116, st116⟩ := getF X113 hx hZ hown (host := "") (Or.inl (hw _ (List.mem_of_getElem? (i := 48) rfl))) Via.refl e113 Fc (g := (mkF m 4 #[.val (.ref a), .val (.int t), .val (.int (3 : Int32))] [(.ref a), (.int (3 : Int32))])) rfl rfl (hb hby d6_4)
              refine Go.st st116 ?_
              show Go p e below _ (T116.setTop (mkF m 7 #[.val (.ref a), .val (.int t), .val (.int (3 : Int32))] [(.int k), (.int (3 : Int32))]))
              refine Go.st (fun t' k' => XS.icmpYes X116.here hx rfl (pc0 := 7) (pc' := 28) rfl (hb hby d6_7) rfl (flt (by simp only [Int32.lt_iff_toInt_lt, ← Int32.toInt_inj, Int32.reduceToInt] at hk ⊢; omega : ¬ ((3 : Int32) < k))).2.1 (by decide) (by decide) k') ?_
              show Go p e below _ (T116.setTop (mkF m 28 #[.val (.ref a), .val (.int t), .val (.int (3 : Int32))] []))
              refine Go.st (fun t' k' => XS.iconst X116.here hx rfl (hb hby d6_28) k') ?_
              show Go p e below _ (T116.setTop (mkF m 29 #[.val (.ref a), .val (.int t), .val (.int (3 : Int32))] [(.int (1 : Int32))]))
              exact Go.outN X116 hx hlk (t := .boolean) hret (by simp) (hb hby d6_29) (Q := Q_rmPrint Z a t k b kb lo mid hi h0) (by rw [e116]; exact ⟨(by refine congrArg (fun z => some (Value.int z)) ?_; unfold own_pr; split; all_goals (rename_i hh); all_goals first | rfl | (exfalso; simp only [Int32.lt_iff_toInt_lt, ← Int32.toInt_inj, Int32.reduceToInt] at hh hk hc7_102 hc17_105 hc7_107 hc17_110 hc7_112 hc17_115; omega)), rfl, rfl⟩) (by decide) (by decide)
          · refine Go.st (fun t' k' => XS.icmpYes X111.here hx rfl (pc0 := 7) (pc' := 28) rfl (hb hby d6_7) rfl (flt hc7_112).2.1 (by decide) (by decide) k') ?_
            show Go p e below _ (T111.setTop (mkF m 28 #[.val (.ref a), .val (.int t), .val (.int (2 : Int32))] []))
            refine Go.st (fun t' k' => XS.iconst X111.here hx rfl (hb hby d6_28) k') ?_
            show Go p e below _ (T111.setTop (mkF m 29 #[.val (.ref a), .val (.int t), .val (.int (2 : Int32))] [(.int (1 : Int32))]))
            exact Go.outN X111 hx hlk (t := .boolean) hret (by simp) (hb hby d6_29) (Q := Q_rmPrint Z a t k b kb lo mid hi h0) (by rw [e111]; exact ⟨(by refine congrArg (fun z => some (Value.int z)) ?_; unfold own_pr; split; all_goals (rename_i hh); all_goals first | rfl | (exfalso; simp only [Int32.lt_iff_toInt_lt, ← Int32.toInt_inj, Int32.reduceToInt] at hh hk hc7_102 hc17_105 hc7_107 hc17_110 hc7_112; omega)), rfl, rfl⟩) (by decide) (by decide)
      · refine Go.st (fun t' k' => XS.icmpYes X106.here hx rfl (pc0 := 7) (pc' := 28) rfl (hb hby d6_7) rfl (flt hc7_107).2.1 (by decide) (by decide) k') ?_
        show Go p e below _ (T106.setTop (mkF m 28 #[.val (.ref a), .val (.int t), .val (.int (1 : Int32))] []))
        refine Go.st (fun t' k' => XS.iconst X106.here hx rfl (hb hby d6_28) k') ?_
        show Go p e below _ (T106.setTop (mkF m 29 #[.val (.ref a), .val (.int t), .val (.int (1 : Int32))] [(.int (1 : Int32))]))
        exact Go.outN X106 hx hlk (t := .boolean) hret (by simp) (hb hby d6_29) (Q := Q_rmPrint Z a t k b kb lo mid hi h0) (by rw [e106]; exact ⟨(by refine congrArg (fun z => some (Value.int z)) ?_; unfold own_pr; split; all_goals (rename_i hh); all_goals first | rfl | (exfalso; simp only [Int32.lt_iff_toInt_lt, ← Int32.toInt_inj, Int32.reduceToInt] at hh hk hc7_102 hc17_105 hc7_107; omega)), rfl, rfl⟩) (by decide) (by decide)
  · refine Go.st (fun t' k' => XS.icmpYes X101.here hx rfl (pc0 := 7) (pc' := 28) rfl (hb hby d6_7) rfl (flt hc7_102).2.1 (by decide) (by decide) k') ?_
    show Go p e below _ (T101.setTop (mkF m 28 #[.val (.ref a), .val (.int t), .val (.int (0 : Int32))] []))
    refine Go.st (fun t' k' => XS.iconst X101.here hx rfl (hb hby d6_28) k') ?_
    show Go p e below _ (T101.setTop (mkF m 29 #[.val (.ref a), .val (.int t), .val (.int (0 : Int32))] [(.int (1 : Int32))]))
    exact Go.outN X101 hx hlk (t := .boolean) hret (by simp) (hb hby d6_29) (Q := Q_rmPrint Z a t k b kb lo mid hi h0) (by rw [e101]; exact ⟨(by refine congrArg (fun z => some (Value.int z)) ?_; unfold own_pr; split; all_goals (rename_i hh); all_goals first | rfl | (exfalso; simp only [Int32.lt_iff_toInt_lt, ← Int32.toInt_inj, Int32.reduceToInt] at hh hk hc7_102; omega)), rfl, rfl⟩) (by decide) (by decide)
def Q_rm0 (Z : State) (a : Int32) (b : Int32) (cc : Int32) (q : Int32) (n : Int32) (w_NO_BYTES : Addr) (w_NO_NUMBERS : Addr) (k_B : ClassId) (k_N : ClassId) (h0 : Heap) (v : Option Value) (h : Heap) (L : List Loc) : Prop := v = some (.int (1 : Int32)) ∧ Fr Z.heap.size L
theorem pd___V : parseMethodDescriptor "()V" = some ⟨[], none⟩ := by decide +kernel
theorem pd__IJJ_B_IIJ_II_V : parseMethodDescriptor "(IJJ[B[IIJ[II)V" = some ⟨[.int, .long, .long, (.array .byte), (.array .int), .int, .long, (.array .int), .int], none⟩ := by decide +kernel
theorem pd__I_Z : parseMethodDescriptor "(I)Z" = some ⟨[.int], some .boolean⟩ := by decide +kernel
set_option maxRecDepth 65536 in
set_option maxHeartbeats 40000000 in
theorem blk152 {p : Program} {l : Launch} {e : Env} {s : State} {m : MethodId} {below : List Frame} {meth : Method} {c : Code} {T0 : State} {locs : List Loc} (Z : State) (a0 : Array Value) (hw : ∀ d ∈ tables_1, d.before a0 Z = true) (a : Int32) (b : Int32) (cc : Int32) (q : Int32) (n : Int32) (w_NO_BYTES : Addr) (w_NO_NUMBERS : Addr) (k_B : ClassId) (k_N : ClassId) (h0 : Heap) (S_NO_BYTES : Sta Z Z.heap "com/example/harakeke/harakeke/model/Record" "NO_BYTES" "[B" (.ref w_NO_BYTES)) (S_NO_NUMBERS : Sta Z Z.heap "com/example/harakeke/harakeke/model/Record" "NO_NUMBERS" "[I" (.ref w_NO_NUMBERS)) (A_NO_BYTES : Arv Z Z.heap w_NO_BYTES k_B .byte (0 : Int32) [] (.int (0 : Int32))) (A_NO_NUMBERS : Arv Z Z.heap w_NO_NUMBERS k_N .int (0 : Int32) [] (.int (0 : Int32))) (lo : Int32) (hi : Int32) (mid : Int32) (k : Int32) (sel : Int32) (t : Int32) (h : Heap) (X0 : Stand p l e room_1 s m #[(.int a), (.int b), (.int cc), (.int q), (.int n)] below meth c T0 locs 0 0)
    (hx : p.tables.exec = Jvm.exec) (hZ : Z.Warmed39 s.vm) (hby : c.code = code) (hml : c.maxLocals = 16) (hown : s.vm.findClass "com/example/harakeke/harakeke/model/RecordIsPrintablePinLaw" = some m.cls) (hret : meth.sig.returnType = ret) (hlk : meth.locks = false) (e0 : T0.heap = h) (N0 : Fr Z.heap.size locs) (O0 : Ext Z.heap h) (hk : k = 0 ∨ k = 1 ∨ k = 2 ∨ k = 3) :
    Go p e below (GO s (Q_rm0 Z a b cc q n w_NO_BYTES w_NO_NUMBERS k_B k_N h0) room_1.cells room_1.slots) (T0.setTop (mkF m 152 #[.val (.int a), .val (.int b), .val (.int cc), .val (.int q), .val (.int n), .val (.int lo), .val (.int hi), .val (.int mid), .val (.int k), .val (.int sel), .val (.int t), .unset, .unset, .unset, .unset, .unset] [])) := by
  show Go p e below _ (T0.setTop (mkF m 152 #[.val (.int a), .val (.int b), .val (.int cc), .val (.int q), .val (.int n), .val (.int lo), .val (.int hi), .val (.int mid), .val (.int k), .val (.int sel), .val (.int t), .unset, .unset, .unset, .unset, .unset] []))
  refine Go.st (fun t' k' => XS.iconst X0.here hx rfl (hb hby at_152) k') ?_
  show Go p e below _ (T0.setTop (mkF m 153 #[.val (.int a), .val (.int b), .val (.int cc), .val (.int q), .val (.int n), .val (.int lo), .val (.int hi), .val (.int mid), .val (.int k), .val (.int sel), .val (.int t), .unset, .unset, .unset, .unset, .unset] [(.int (0 : Int32))]))
  obtain ⟨T101, h101, k101, X101, e101, E101, A101, st101⟩ := newP X0 hx hZ (hw _ (List.mem_of_getElem? (i := 7) rfl)) e0 (g := (mkF m 153 #[.val (.int a), .val (.int b), .val (.int cc), .val (.int q), .val (.int n), .val (.int lo), .val (.int hi), .val (.int mid), .val (.int k), .val (.int sel), .val (.int t), .unset, .unset, .unset, .unset, .unset] [(.int (0 : Int32))])) rfl (hb hby at_153) rfl (by decide) (cap := 0) (by decide) (by decide) (by decide) (by decide)
  obtain ⟨b101, g101⟩ : ∃ z, z = h.size := ⟨_, rfl⟩
  rw [← g101] at A101 st101
  refine Go.st st101 ?_
  have ne_w_NO_BYTES_b101 : w_NO_BYTES ≠ b101 := Nat.ne_of_lt (Nat.lt_of_lt_of_le (A_NO_BYTES.ext O0).lt (Nat.le_of_eq g101.symm))
  have ne_w_NO_NUMBERS_b101 : w_NO_NUMBERS ≠ b101 := Nat.ne_of_lt (Nat.lt_of_lt_of_le (A_NO_NUMBERS.ext O0).lt (Nat.le_of_eq g101.symm))
  have g_b101 : Z.heap.size ≤ b101 := Nat.le_trans O0.1 (Nat.le_of_eq g101.symm)
  have O101 := own_ext_trans O0 E101
  have V_b101 : Arv Z h101 b101 k101 .byte (0 : Int32) [] (.int (0 : Int32)) := (Arv.new A101 (by decide)).pad (pad_rep [] (.int (0 : Int32)) 0)
  show Go p e below _ (T101.setTop (mkF m 155 #[.val (.int a), .val (.int b), .val (.int cc), .val (.int q), .val (.int n), .val (.int lo), .val (.int hi), .val (.int mid), .val (.int k), .val (.int sel), .val (.int t), .unset, .unset, .unset, .unset, .unset] [(.ref b101)]))
  refine Go.st (fun t' k' => XS.astore X101.here hx rfl (hb hby at_155) rfl rfl (l' := #[.val (.int a), .val (.int b), .val (.int cc), .val (.int q), .val (.int n), .val (.int lo), .val (.int hi), .val (.int mid), .val (.int k), .val (.int sel), .val (.int t), .val (.ref b101), .unset, .unset, .unset, .unset]) rfl k') ?_
  show Go p e below _ (T101.setTop (mkF m 157 #[.val (.int a), .val (.int b), .val (.int cc), .val (.int q), .val (.int n), .val (.int lo), .val (.int hi), .val (.int mid), .val (.int k), .val (.int sel), .val (.int t), .val (.ref b101), .unset, .unset, .unset, .unset] []))
  refine Go.st (fun t' k' => XS.iconst X101.here hx rfl (hb hby at_157) k') ?_
  show Go p e below _ (T101.setTop (mkF m 158 #[.val (.int a), .val (.int b), .val (.int cc), .val (.int q), .val (.int n), .val (.int lo), .val (.int hi), .val (.int mid), .val (.int k), .val (.int sel), .val (.int t), .val (.ref b101), .unset, .unset, .unset, .unset] [(.int (0 : Int32))]))
  obtain ⟨T103, h103, k103, X103, e103, E103, A103, st103⟩ := newP X101 hx hZ (hw _ (List.mem_of_getElem? (i := 8) rfl)) e101 (g := (mkF m 158 #[.val (.int a), .val (.int b), .val (.int cc), .val (.int q), .val (.int n), .val (.int lo), .val (.int hi), .val (.int mid), .val (.int k), .val (.int sel), .val (.int t), .val (.ref b101), .unset, .unset, .unset, .unset] [(.int (0 : Int32))])) rfl (hb hby at_158) rfl (by decide) (cap := 0) (by decide) (by decide) (by decide) (by decide)
  obtain ⟨b103, g103⟩ : ∃ z, z = h101.size := ⟨_, rfl⟩
  rw [← g103] at A103 st103
  refine Go.st st103 ?_
  have ne_w_NO_BYTES_b103 : w_NO_BYTES ≠ b103 := Nat.ne_of_lt (Nat.lt_of_lt_of_le (A_NO_BYTES.ext O101).lt (Nat.le_of_eq g103.symm))
  have ne_w_NO_NUMBERS_b103 : w_NO_NUMBERS ≠ b103 := Nat.ne_of_lt (Nat.lt_of_lt_of_le (A_NO_NUMBERS.ext O101).lt (Nat.le_of_eq g103.symm))
  have ne_b101_b103 : b101 ≠ b103 := Nat.ne_of_lt (Nat.lt_of_lt_of_le V_b101.lt (Nat.le_of_eq g103.symm))
  have g_b103 : Z.heap.size ≤ b103 := Nat.le_trans O101.1 (Nat.le_of_eq g103.symm)
  have V_b101_h104 := V_b101.ext E103
  have O103 := own_ext_trans O101 E103
  have V_b103 : Arv Z h103 b103 k103 .int (0 : Int32) [] (.int (0 : Int32)) := (Arv.new A103 (by decide)).pad (pad_rep [] (.int (0 : Int32)) 0)
  show Go p e below _ (T103.setTop (mkF m 160 #[.val (.int a), .val (.int b), .val (.int cc), .val (.int q), .val (.int n), .val (.int lo), .val (.int hi), .val (.int mid), .val (.int k), .val (.int sel), .val (.int t), .val (.ref b101), .unset, .unset, .unset, .unset] [(.ref b103)]))
  refine Go.st (fun t' k' => XS.astore X103.here hx rfl (hb hby at_160) rfl rfl (l' := #[.val (.int a), .val (.int b), .val (.int cc), .val (.int q), .val (.int n), .val (.int lo), .val (.int hi), .val (.int mid), .val (.int k), .val (.int sel), .val (.int t), .val (.ref b101), .val (.ref b103), .unset, .unset, .unset]) rfl k') ?_
  show Go p e below _ (T103.setTop (mkF m 162 #[.val (.int a), .val (.int b), .val (.int cc), .val (.int q), .val (.int n), .val (.int lo), .val (.int hi), .val (.int mid), .val (.int k), .val (.int sel), .val (.int t), .val (.ref b101), .val (.ref b103), .unset, .unset, .unset] []))
  refine Go.st (fun t' k' => XS.iconst X103.here hx rfl (hb hby at_162) k') ?_
  show Go p e below _ (T103.setTop (mkF m 163 #[.val (.int a), .val (.int b), .val (.int cc), .val (.int q), .val (.int n), .val (.int lo), .val (.int hi), .val (.int mid), .val (.int k), .val (.int sel), .val (.int t), .val (.ref b101), .val (.ref b103), .unset, .unset, .unset] [(.int (3 : Int32))]))
  obtain ⟨T105, h105, k105, X105, e105, E105, A105, st105⟩ := newP X103 hx hZ (hw _ (List.mem_of_getElem? (i := 8) rfl)) e103 (g := (mkF m 163 #[.val (.int a), .val (.int b), .val (.int cc), .val (.int q), .val (.int n), .val (.int lo), .val (.int hi), .val (.int mid), .val (.int k), .val (.int sel), .val (.int t), .val (.ref b101), .val (.ref b103), .unset, .unset, .unset] [(.int (3 : Int32))])) rfl (hb hby at_163) rfl (by decide) (cap := 3) (by decide) (by decide) (by decide) (by decide)
  obtain ⟨b105, g105⟩ : ∃ z, z = h103.size := ⟨_, rfl⟩
  rw [← g105] at A105 st105
  refine Go.st st105 ?_
  have ne_w_NO_BYTES_b105 : w_NO_BYTES ≠ b105 := Nat.ne_of_lt (Nat.lt_of_lt_of_le (A_NO_BYTES.ext O103).lt (Nat.le_of_eq g105.symm))
  have ne_w_NO_NUMBERS_b105 : w_NO_NUMBERS ≠ b105 := Nat.ne_of_lt (Nat.lt_of_lt_of_le (A_NO_NUMBERS.ext O103).lt (Nat.le_of_eq g105.symm))
  have ne_b101_b105 : b101 ≠ b105 := Nat.ne_of_lt (Nat.lt_of_lt_of_le V_b101_h104.lt (Nat.le_of_eq g105.symm))
  have ne_b103_b105 : b103 ≠ b105 := Nat.ne_of_lt (Nat.lt_of_lt_of_le V_b103.lt (Nat.le_of_eq g105.symm))
  have g_b105 : Z.heap.size ≤ b105 := Nat.le_trans O103.1 (Nat.le_of_eq g105.symm)
  have V_b101_h106 := V_b101_h104.ext E105
  have V_b103_h106 := V_b103.ext E105
  have O105 := own_ext_trans O103 E105
  have V_b105 : Arv Z h105 b105 k105 .int (3 : Int32) [(.int (0 : Int32)), (.int (0 : Int32)), (.int (0 : Int32))] (.int (0 : Int32)) := (Arv.new A105 (by decide)).pad (pad_rep [] (.int (0 : Int32)) 3)
  show Go p e below _ (T105.setTop (mkF m 165 #[.val (.int a), .val (.int b), .val (.int cc), .val (.int q), .val (.int n), .val (.int lo), .val (.int hi), .val (.int mid), .val (.int k), .val (.int sel), .val (.int t), .val (.ref b101), .val (.ref b103), .unset, .unset, .unset] [(.ref b105)]))
  refine Go.st (fun t' k' => XS.dup X105.here hx rfl (hb hby at_165) rfl rfl k') ?_
  show Go p e below _ (T105.setTop (mkF m 166 #[.val (.int a), .val (.int b), .val (.int cc), .val (.int q), .val (.int n), .val (.int lo), .val (.int hi), .val (.int mid), .val (.int k), .val (.int sel), .val (.int t), .val (.ref b101), .val (.ref b103), .unset, .unset, .unset] [(.ref b105), (.ref b105)]))
  refine Go.st (fun t' k' => XS.iconst X105.here hx rfl (hb hby at_166) k') ?_
  show Go p e below _ (T105.setTop (mkF m 167 #[.val (.int a), .val (.int b), .val (.int cc), .val (.int q), .val (.int n), .val (.int lo), .val (.int hi), .val (.int mid), .val (.int k), .val (.int sel), .val (.int t), .val (.ref b101), .val (.ref b103), .unset, .unset, .unset] [(.int (0 : Int32)), (.ref b105), (.ref b105)]))
  refine Go.st (fun t' k' => XS.iload X105.here hx rfl (hb hby at_167) rfl k') ?_
  show Go p e below _ (T105.setTop (mkF m 169 #[.val (.int a), .val (.int b), .val (.int cc), .val (.int q), .val (.int n), .val (.int lo), .val (.int hi), .val (.int mid), .val (.int k), .val (.int sel), .val (.int t), .val (.ref b101), .val (.ref b103), .unset, .unset, .unset] [(.int lo), (.int (0 : Int32)), (.ref b105), (.ref b105)]))
  obtain ⟨cls107, Ars107, qs107, Szs107, Nzs107, Hss107, Gss107⟩ := (id V_b105)
  have hins107 : ¬ ((0 : Int32) < 0 ∨ cls107.slots.size ≤ ((0 : Int32)).toNatClampNeg) := inb_of Szs107 ⟨by decide, by decide⟩
  obtain ⟨T108, h108, X108, e108, W108, st108⟩ := stI X105 hx hZ e105 Ars107 (j := (0 : Int32)) hins107 (g := (mkF m 169 #[.val (.int a), .val (.int b), .val (.int cc), .val (.int q), .val (.int n), .val (.int lo), .val (.int hi), .val (.int mid), .val (.int k), .val (.int sel), .val (.int t), .val (.ref b101), .val (.ref b103), .unset, .unset, .unset] [(.int lo), (.int (0 : Int32)), (.ref b105), (.ref b105)])) rfl rfl (hb hby at_169)
  refine Go.st st108 ?_
  have V_b105_108 : Arv Z h108 b105 k105 .int (3 : Int32) [(.int lo), (.int (0 : Int32)), (.int (0 : Int32))] (.int (0 : Int32)) := (Arv.set Ars107 qs107 Szs107 Nzs107 Hss107 Gss107 rfl W108 0 rfl (Nat.le_of_ble_eq_true rfl))
  have V_b101_h109 := V_b101_h106.other W108 ne_b101_b105
  have V_b103_h109 := V_b103_h106.other W108 ne_b103_b105
  have O108 := own_ext_wr O105 W108 g_b105
  have N108 := Fr.snoc X108 N0 g_b105
  show Go p e below _ (T108.setTop (mkF m 170 #[.val (.int a), .val (.int b), .val (.int cc), .val (.int q), .val (.int n), .val (.int lo), .val (.int hi), .val (.int mid), .val (.int k), .val (.int sel), .val (.int t), .val (.ref b101), .val (.ref b103), .unset, .unset, .unset] [(.ref b105)]))
  refine Go.st (fun t' k' => XS.dup X108.here hx rfl (hb hby at_170) rfl rfl k') ?_
  show Go p e below _ (T108.setTop (mkF m 171 #[.val (.int a), .val (.int b), .val (.int cc), .val (.int q), .val (.int n), .val (.int lo), .val (.int hi), .val (.int mid), .val (.int k), .val (.int sel), .val (.int t), .val (.ref b101), .val (.ref b103), .unset, .unset, .unset] [(.ref b105), (.ref b105)]))
  refine Go.st (fun t' k' => XS.iconst X108.here hx rfl (hb hby at_171) k') ?_
  show Go p e below _ (T108.setTop (mkF m 172 #[.val (.int a), .val (.int b), .val (.int cc), .val (.int q), .val (.int n), .val (.int lo), .val (.int hi), .val (.int mid), .val (.int k), .val (.int sel), .val (.int t), .val (.ref b101), .val (.ref b103), .unset, .unset, .unset] [(.int (1 : Int32)), (.ref b105), (.ref b105)]))
  refine Go.st (fun t' k' => XS.iload X108.here hx rfl (hb hby at_172) rfl k') ?_
  show Go p e below _ (T108.setTop (mkF m 174 #[.val (.int a), .val (.int b), .val (.int cc), .val (.int q), .val (.int n), .val (.int lo), .val (.int hi), .val (.int mid), .val (.int k), .val (.int sel), .val (.int t), .val (.ref b101), .val (.ref b103), .unset, .unset, .unset] [(.int mid), (.int (1 : Int32)), (.ref b105), (.ref b105)]))
  obtain ⟨cls110, Ars110, qs110, Szs110, Nzs110, Hss110, Gss110⟩ := (id V_b105_108)
  have hins110 : ¬ ((1 : Int32) < 0 ∨ cls110.slots.size ≤ ((1 : Int32)).toNatClampNeg) := inb_of Szs110 ⟨by decide, by decide⟩
  obtain ⟨T111, h111, X111, e111, W111, st111⟩ := stI X108 hx hZ e108 Ars110 (j := (1 : Int32)) hins110 (g := (mkF m 174 #[.val (.int a), .val (.int b), .val (.int cc), .val (.int q), .val (.int n), .val (.int lo), .val (.int hi), .val (.int mid), .val (.int k), .val (.int sel), .val (.int t), .val (.ref b101), .val (.ref b103), .unset, .unset, .unset] [(.int mid), (.int (1 : Int32)), (.ref b105), (.ref b105)])) rfl rfl (hb hby at_174)
  refine Go.st st111 ?_
  have V_b105_111 : Arv Z h111 b105 k105 .int (3 : Int32) [(.int lo), (.int mid), (.int (0 : Int32))] (.int (0 : Int32)) := (Arv.set Ars110 qs110 Szs110 Nzs110 Hss110 Gss110 rfl W111 1 rfl (Nat.le_of_ble_eq_true rfl))
  have V_b101_h112 := V_b101_h109.other W111 ne_b101_b105
  have V_b103_h112 := V_b103_h109.other W111 ne_b103_b105
  have O111 := own_ext_wr O108 W111 g_b105
  have N111 := Fr.snoc X111 N108 g_b105
  show Go p e below _ (T111.setTop (mkF m 175 #[.val (.int a), .val (.int b), .val (.int cc), .val (.int q), .val (.int n), .val (.int lo), .val (.int hi), .val (.int mid), .val (.int k), .val (.int sel), .val (.int t), .val (.ref b101), .val (.ref b103), .unset, .unset, .unset] [(.ref b105)]))
  refine Go.st (fun t' k' => XS.dup X111.here hx rfl (hb hby at_175) rfl rfl k') ?_
  show Go p e below _ (T111.setTop (mkF m 176 #[.val (.int a), .val (.int b), .val (.int cc), .val (.int q), .val (.int n), .val (.int lo), .val (.int hi), .val (.int mid), .val (.int k), .val (.int sel), .val (.int t), .val (.ref b101), .val (.ref b103), .unset, .unset, .unset] [(.ref b105), (.ref b105)]))
  refine Go.st (fun t' k' => XS.iconst X111.here hx rfl (hb hby at_176) k') ?_
  show Go p e below _ (T111.setTop (mkF m 177 #[.val (.int a), .val (.int b), .val (.int cc), .val (.int q), .val (.int n), .val (.int lo), .val (.int hi), .val (.int mid), .val (.int k), .val (.int sel), .val (.int t), .val (.ref b101), .val (.ref b103), .unset, .unset, .unset] [(.int (2 : Int32)), (.ref b105), (.ref b105)]))
  refine Go.st (fun t' k' => XS.iload X111.here hx rfl (hb hby at_177) rfl k') ?_
  show Go p e below _ (T111.setTop (mkF m 179 #[.val (.int a), .val (.int b), .val (.int cc), .val (.int q), .val (.int n), .val (.int lo), .val (.int hi), .val (.int mid), .val (.int k), .val (.int sel), .val (.int t), .val (.ref b101), .val (.ref b103), .unset, .unset, .unset] [(.int hi), (.int (2 : Int32)), (.ref b105), (.ref b105)]))
  obtain ⟨cls113, Ars113, qs113, Szs113, Nzs113, Hss113, Gss113⟩ := (id V_b105_111)
  have hins113 : ¬ ((2 : Int32) < 0 ∨ cls113.slots.size ≤ ((2 : Int32)).toNatClampNeg) := inb_of Szs113 ⟨by decide, by decide⟩
  obtain ⟨T114, h114, X114, e114, W114, st114⟩ := stI X111 hx hZ e111 Ars113 (j := (2 : Int32)) hins113 (g := (mkF m 179 #[.val (.int a), .val (.int b), .val (.int cc), .val (.int q), .val (.int n), .val (.int lo), .val (.int hi), .val (.int mid), .val (.int k), .val (.int sel), .val (.int t), .val (.ref b101), .val (.ref b103), .unset, .unset, .unset] [(.int hi), (.int (2 : Int32)), (.ref b105), (.ref b105)])) rfl rfl (hb hby at_179)
  refine Go.st st114 ?_
  have V_b105_114 : Arv Z h114 b105 k105 .int (3 : Int32) [(.int lo), (.int mid), (.int hi)] (.int (0 : Int32)) := (Arv.set Ars113 qs113 Szs113 Nzs113 Hss113 Gss113 rfl W114 2 rfl (Nat.le_of_ble_eq_true rfl))
  have V_b101_h115 := V_b101_h112.other W114 ne_b101_b105
  have V_b103_h115 := V_b103_h112.other W114 ne_b103_b105
  have O114 := own_ext_wr O111 W114 g_b105
  have N114 := Fr.snoc X114 N111 g_b105
  show Go p e below _ (T114.setTop (mkF m 180 #[.val (.int a), .val (.int b), .val (.int cc), .val (.int q), .val (.int n), .val (.int lo), .val (.int hi), .val (.int mid), .val (.int k), .val (.int sel), .val (.int t), .val (.ref b101), .val (.ref b103), .unset, .unset, .unset] [(.ref b105)]))
  refine Go.st (fun t' k' => XS.astore X114.here hx rfl (hb hby at_180) rfl rfl (l' := #[.val (.int a), .val (.int b), .val (.int cc), .val (.int q), .val (.int n), .val (.int lo), .val (.int hi), .val (.int mid), .val (.int k), .val (.int sel), .val (.int t), .val (.ref b101), .val (.ref b103), .val (.ref b105), .unset, .unset]) rfl k') ?_
  show Go p e below _ (T114.setTop (mkF m 182 #[.val (.int a), .val (.int b), .val (.int cc), .val (.int q), .val (.int n), .val (.int lo), .val (.int hi), .val (.int mid), .val (.int k), .val (.int sel), .val (.int t), .val (.ref b101), .val (.ref b103), .val (.ref b105), .unset, .unset] []))
  obtain ⟨T116, h116, X116, e116, E116, A116, D116, -, st116⟩ := newO X114 hx hZ hown (hw _ (List.mem_of_getElem? (i := 9) rfl)) (hw _ (List.mem_of_getElem? (i := 10) rfl)) (hw _ (List.mem_of_getElem? (i := 11) rfl)) e114 (g := (mkF m 182 #[.val (.int a), .val (.int b), .val (.int cc), .val (.int q), .val (.int n), .val (.int lo), .val (.int hi), .val (.int mid), .val (.int k), .val (.int sel), .val (.int t), .val (.ref b101), .val (.ref b103), .val (.ref b105), .unset, .unset] [])) rfl (hb hby at_182) (by decide) (by decide)
  obtain ⟨b116, g116⟩ : ∃ z, z = h114.size := ⟨_, rfl⟩
  rw [← g116] at A116 D116 st116
  refine Go.st st116 ?_
  have ne_w_NO_BYTES_b116 : w_NO_BYTES ≠ b116 := Nat.ne_of_lt (Nat.lt_of_lt_of_le (A_NO_BYTES.ext O114).lt (Nat.le_of_eq g116.symm))
  have ne_w_NO_NUMBERS_b116 : w_NO_NUMBERS ≠ b116 := Nat.ne_of_lt (Nat.lt_of_lt_of_le (A_NO_NUMBERS.ext O114).lt (Nat.le_of_eq g116.symm))
  have ne_b101_b116 : b101 ≠ b116 := Nat.ne_of_lt (Nat.lt_of_lt_of_le V_b101_h115.lt (Nat.le_of_eq g116.symm))
  have ne_b103_b116 : b103 ≠ b116 := Nat.ne_of_lt (Nat.lt_of_lt_of_le V_b103_h115.lt (Nat.le_of_eq g116.symm))
  have ne_b105_b116 : b105 ≠ b116 := Nat.ne_of_lt (Nat.lt_of_lt_of_le V_b105_114.lt (Nat.le_of_eq g116.symm))
  have g_b116 : Z.heap.size ≤ b116 := Nat.le_trans O114.1 (Nat.le_of_eq g116.symm)
  have V_b101_h117 := V_b101_h115.ext E116
  have V_b103_h117 := V_b103_h115.ext E116
  have V_b105_114_h117 := V_b105_114.ext E116
  have O116 := own_ext_trans O114 E116
  have F_bytes_b116 : Fld Z h116 b116 "com/example/harakeke/harakeke/model/Record" "bytes" "[B" .null := D116 (Or.inl (hw _ (List.mem_of_getElem? (i := 21) rfl))) (ty := (.array .byte)) (by decide)
  have F_ends_b116 : Fld Z h116 b116 "com/example/harakeke/harakeke/model/Record" "ends" "[I" .null := D116 (Or.inl (hw _ (List.mem_of_getElem? (i := 25) rfl))) (ty := (.array .int)) (by decide)
  have F_unprintable_b116 : Fld Z h116 b116 "com/example/harakeke/harakeke/model/Record" "unprintable" "[I" .null := D116 (Or.inl (hw _ (List.mem_of_getElem? (i := 27) rfl))) (ty := (.array .int)) (by decide)
  have F_line_b116 : Fld Z h116 b116 "com/example/harakeke/harakeke/model/Record" "line" "I" (.int (0 : Int32)) := D116 (Or.inl (hw _ (List.mem_of_getElem? (i := 39) rfl))) (ty := .int) (by decide)
  have F_offset_b116 : Fld Z h116 b116 "com/example/harakeke/harakeke/model/Record" "offset" "J" (.long (0 : Int64)) := D116 (Or.inl (hw _ (List.mem_of_getElem? (i := 41) rfl))) (ty := .long) (by decide)
  have F_length_b116 : Fld Z h116 b116 "com/example/harakeke/harakeke/model/Record" "length" "J" (.long (0 : Int64)) := D116 (Or.inl (hw _ (List.mem_of_getElem? (i := 43) rfl))) (ty := .long) (by decide)
  have F_kept_b116 : Fld Z h116 b116 "com/example/harakeke/harakeke/model/Record" "kept" "I" (.int (0 : Int32)) := D116 (Or.inl (hw _ (List.mem_of_getElem? (i := 45) rfl))) (ty := .int) (by decide)
  have F_fieldCount_b116 : Fld Z h116 b116 "com/example/harakeke/harakeke/model/Record" "fieldCount" "J" (.long (0 : Int64)) := D116 (Or.inl (hw _ (List.mem_of_getElem? (i := 47) rfl))) (ty := .long) (by decide)
  have F_unprintableCount_b116 : Fld Z h116 b116 "com/example/harakeke/harakeke/model/Record" "unprintableCount" "I" (.int (0 : Int32)) := D116 (Or.inl (hw _ (List.mem_of_getElem? (i := 49) rfl))) (ty := .int) (by decide)
  show Go p e below _ (T116.setTop (mkF m 185 #[.val (.int a), .val (.int b), .val (.int cc), .val (.int q), .val (.int n), .val (.int lo), .val (.int hi), .val (.int mid), .val (.int k), .val (.int sel), .val (.int t), .val (.ref b101), .val (.ref b103), .val (.ref b105), .unset, .unset] [(.ref b116)]))
  refine Go.st (fun t' k' => XS.dup X116.here hx rfl (hb hby at_185) rfl rfl k') ?_
  show Go p e below _ (T116.setTop (mkF m 186 #[.val (.int a), .val (.int b), .val (.int cc), .val (.int q), .val (.int n), .val (.int lo), .val (.int hi), .val (.int mid), .val (.int k), .val (.int sel), .val (.int t), .val (.ref b101), .val (.ref b103), .val (.ref b105), .unset, .unset] [(.ref b116), (.ref b116)]))
  obtain ⟨_, _, ⟨T118, L118, k118, n118⟩, -, X118, ⟨Lc118, hQ118, l118, y118, z118⟩, st118⟩ := X116.specialBack hx (y := (⟨"com/example/harakeke/harakeke/model/Record", "<init>", "()V"⟩ : MethodName)) rfl hown (mvT hZ (hw _ (List.mem_of_getElem? (i := 12) rfl))) (mvT hZ (hw _ (List.mem_of_getElem? (i := 13) rfl))) (mvT hZ (hw _ (List.mem_of_getElem? (i := 14) rfl))) (by decide) (backOf (W := 1) (rmInit l Z a0 hw [] b116 w_NO_BYTES w_NO_NUMBERS h116 O116 S_NO_BYTES S_NO_NUMBERS A116 g_b116 F_bytes_b116 F_ends_b116 F_unprintable_b116 F_line_b116 F_offset_b116 F_length_b116 F_kept_b116 F_fieldCount_b116 F_unprintableCount_b116) hZ (hw _ (List.mem_of_getElem? (i := 14) rfl)) (hw _ (List.mem_of_getElem? (i := 11) rfl)) (by decide) (by decide)) (g := (mkF m 186 #[.val (.int a), .val (.int b), .val (.int cc), .val (.int q), .val (.int n), .val (.int lo), .val (.int hi), .val (.int mid), .val (.int k), .val (.int sel), .val (.int t), .val (.ref b101), .val (.ref b103), .val (.ref b105), .unset, .unset] [(.ref b116), (.ref b116)])) rfl (by rw [hml]; rfl) (Steps.refl _) (a := b116) (argsL := []) (rest := [(.ref b116)]) (lenOf pd___V rfl) rfl (by show 2 * 0 + _ ≤ _; exact Nat.le_of_eq rfl) (hb hby at_186) (fun _ _ => ⟨rfl, e116, (by decide : 4 + 0 ≤ _), (by decide : 12 + 0 ≤ _)⟩)
  dsimp only [Pt.U, Pt.locs, Pt.cells, Pt.slots] at X118 l118 y118 z118 st118 hQ118
  subst l118 y118 z118
  obtain ⟨rfl, N118q, O118, Kc118, Pb_118, Pe_118, Pu_118, Pline_118, Poffset_118, Plength_118, Pkept_118, PfieldCount_118, PunprintableCount_118⟩ := hQ118
  have N118 := Fr.app N114 N118q
  refine Go.tr st118 ?_
  have V_b101_h119 := V_b101_h117.keep Kc118 (ninS ne_b101_b116 nin0)
  have V_b103_h119 := V_b103_h117.keep Kc118 (ninS ne_b103_b116 nin0)
  have V_b105_114_h119 := V_b105_114_h117.keep Kc118 (ninS ne_b105_b116 nin0)
  have A116_h119 := A116.keep Kc118
  show Go p e below _ (T118.setTop (mkF m 189 #[.val (.int a), .val (.int b), .val (.int cc), .val (.int q), .val (.int n), .val (.int lo), .val (.int hi), .val (.int mid), .val (.int k), .val (.int sel), .val (.int t), .val (.ref b101), .val (.ref b103), .val (.ref b105), .unset, .unset] [(.ref b116)]))
  refine Go.st (fun t' k' => XS.astore X118.here hx rfl (hb hby at_189) rfl rfl (l' := #[.val (.int a), .val (.int b), .val (.int cc), .val (.int q), .val (.int n), .val (.int lo), .val (.int hi), .val (.int mid), .val (.int k), .val (.int sel), .val (.int t), .val (.ref b101), .val (.ref b103), .val (.ref b105), .val (.ref b116), .unset]) rfl k') ?_
  show Go p e below _ (T118.setTop (mkF m 191 #[.val (.int a), .val (.int b), .val (.int cc), .val (.int q), .val (.int n), .val (.int lo), .val (.int hi), .val (.int mid), .val (.int k), .val (.int sel), .val (.int t), .val (.ref b101), .val (.ref b103), .val (.ref b105), .val (.ref b116), .unset] []))
  refine Go.st (fun t' k' => XS.aload X118.here hx rfl (hb hby at_191) rfl rfl k') ?_
  show Go p e below _ (T118.setTop (mkF m 193 #[.val (.int a), .val (.int b), .val (.int cc), .val (.int q), .val (.int n), .val (.int lo), .val (.int hi), .val (.int mid), .val (.int k), .val (.int sel), .val (.int t), .val (.ref b101), .val (.ref b103), .val (.ref b105), .val (.ref b116), .unset] [(.ref b116)]))
  refine Go.st (fun t' k' => XS.iconst X118.here hx rfl (hb hby at_193) k') ?_
  show Go p e below _ (T118.setTop (mkF m 194 #[.val (.int a), .val (.int b), .val (.int cc), .val (.int q), .val (.int n), .val (.int lo), .val (.int hi), .val (.int mid), .val (.int k), .val (.int sel), .val (.int t), .val (.ref b101), .val (.ref b103), .val (.ref b105), .val (.ref b116), .unset] [(.int (1 : Int32)), (.ref b116)]))
  refine Go.st (fun t' k' => XS.lconst X118.here hx rfl (hb hby at_194) k') ?_
  show Go p e below _ (T118.setTop (mkF m 195 #[.val (.int a), .val (.int b), .val (.int cc), .val (.int q), .val (.int n), .val (.int lo), .val (.int hi), .val (.int mid), .val (.int k), .val (.int sel), .val (.int t), .val (.ref b101), .val (.ref b103), .val (.ref b105), .val (.ref b116), .unset] [(.long (0 : Int64)), (.int (1 : Int32)), (.ref b116)]))
  refine Go.st (fun t' k' => XS.lconst X118.here hx rfl (hb hby at_195) k') ?_
  show Go p e below _ (T118.setTop (mkF m 196 #[.val (.int a), .val (.int b), .val (.int cc), .val (.int q), .val (.int n), .val (.int lo), .val (.int hi), .val (.int mid), .val (.int k), .val (.int sel), .val (.int t), .val (.ref b101), .val (.ref b103), .val (.ref b105), .val (.ref b116), .unset] [(.long (0 : Int64)), (.long (0 : Int64)), (.int (1 : Int32)), (.ref b116)]))
  refine Go.st (fun t' k' => XS.aload X118.here hx rfl (hb hby at_196) rfl rfl k') ?_
  show Go p e below _ (T118.setTop (mkF m 198 #[.val (.int a), .val (.int b), .val (.int cc), .val (.int q), .val (.int n), .val (.int lo), .val (.int hi), .val (.int mid), .val (.int k), .val (.int sel), .val (.int t), .val (.ref b101), .val (.ref b103), .val (.ref b105), .val (.ref b116), .unset] [(.ref b101), (.long (0 : Int64)), (.long (0 : Int64)), (.int (1 : Int32)), (.ref b116)]))
  refine Go.st (fun t' k' => XS.aload X118.here hx rfl (hb hby at_198) rfl rfl k') ?_
  show Go p e below _ (T118.setTop (mkF m 200 #[.val (.int a), .val (.int b), .val (.int cc), .val (.int q), .val (.int n), .val (.int lo), .val (.int hi), .val (.int mid), .val (.int k), .val (.int sel), .val (.int t), .val (.ref b101), .val (.ref b103), .val (.ref b105), .val (.ref b116), .unset] [(.ref b103), (.ref b101), (.long (0 : Int64)), (.long (0 : Int64)), (.int (1 : Int32)), (.ref b116)]))
  refine Go.st (fun t' k' => XS.iconst X118.here hx rfl (hb hby at_200) k') ?_
  show Go p e below _ (T118.setTop (mkF m 201 #[.val (.int a), .val (.int b), .val (.int cc), .val (.int q), .val (.int n), .val (.int lo), .val (.int hi), .val (.int mid), .val (.int k), .val (.int sel), .val (.int t), .val (.ref b101), .val (.ref b103), .val (.ref b105), .val (.ref b116), .unset] [(.int (0 : Int32)), (.ref b103), (.ref b101), (.long (0 : Int64)), (.long (0 : Int64)), (.int (1 : Int32)), (.ref b116)]))
  refine Go.st (fun t' k' => XS.lconst X118.here hx rfl (hb hby at_201) k') ?_
  show Go p e below _ (T118.setTop (mkF m 202 #[.val (.int a), .val (.int b), .val (.int cc), .val (.int q), .val (.int n), .val (.int lo), .val (.int hi), .val (.int mid), .val (.int k), .val (.int sel), .val (.int t), .val (.ref b101), .val (.ref b103), .val (.ref b105), .val (.ref b116), .unset] [(.long (0 : Int64)), (.int (0 : Int32)), (.ref b103), (.ref b101), (.long (0 : Int64)), (.long (0 : Int64)), (.int (1 : Int32)), (.ref b116)]))
  refine Go.st (fun t' k' => XS.aload X118.here hx rfl (hb hby at_202) rfl rfl k') ?_
  show Go p e below _ (T118.setTop (mkF m 204 #[.val (.int a), .val (.int b), .val (.int cc), .val (.int q), .val (.int n), .val (.int lo), .val (.int hi), .val (.int mid), .val (.int k), .val (.int sel), .val (.int t), .val (.ref b101), .val (.ref b103), .val (.ref b105), .val (.ref b116), .unset] [(.ref b105), (.long (0 : Int64)), (.int (0 : Int32)), (.ref b103), (.ref b101), (.long (0 : Int64)), (.long (0 : Int64)), (.int (1 : Int32)), (.ref b116)]))
  refine Go.st (fun t' k' => XS.iconst X118.here hx rfl (hb hby at_204) k') ?_
  show Go p e below _ (T118.setTop (mkF m 205 #[.val (.int a), .val (.int b), .val (.int cc), .val (.int q), .val (.int n), .val (.int lo), .val (.int hi), .val (.int mid), .val (.int k), .val (.int sel), .val (.int t), .val (.ref b101), .val (.ref b103), .val (.ref b105), .val (.ref b116), .unset] [(.int (3 : Int32)), (.ref b105), (.long (0 : Int64)), (.int (0 : Int32)), (.ref b103), (.ref b101), (.long (0 : Int64)), (.long (0 : Int64)), (.int (1 : Int32)), (.ref b116)]))
  obtain ⟨cq120, kq120, q120a, q120b, q120c⟩ := isOf hZ rfl A116_h119
  obtain ⟨_, _, ⟨T120, L120, k120, n120⟩, -, X120, ⟨Lc120, hQ120, l120, y120, z120⟩, st120⟩ := X118.virtualBack hx (y := (⟨"com/example/harakeke/harakeke/model/Record", "set", "(IJJ[B[IIJ[II)V"⟩ : MethodName)) (z := (⟨"com/example/harakeke/harakeke/model/Record", "set", "(IJJ[B[IIJ[II)V"⟩ : MethodName)) hown (mvT hZ (hw _ (List.mem_of_getElem? (i := 28) rfl))) (mvT hZ (hw _ (List.mem_of_getElem? (i := 29) rfl))) (notFace_of_selects (args := #[]) (mvT hZ (hw _ (List.mem_of_getElem? (i := 31) rfl)))) (mvT hZ (hw _ (List.mem_of_getElem? (i := 31) rfl))) (mvT hZ (hw _ (List.mem_of_getElem? (i := 30) rfl))) (by decide) (backOf (W := 0) (rmSet1 l Z a0 hw [] b116 b101 b103 b105 w_NO_BYTES w_NO_NUMBERS k_B k_N k101 k103 k105 lo mid hi T118.heap O118 A_NO_BYTES A_NO_NUMBERS A116_h119 g_b116 Pb_118 Pe_118 Pu_118 Pline_118 Poffset_118 Plength_118 Pkept_118 PfieldCount_118 PunprintableCount_118 V_b101_h119 V_b103_h119 V_b105_114_h119 ne_b101_b116 ne_b103_b116 ne_b105_b116) hZ (hw _ (List.mem_of_getElem? (i := 32) rfl)) (hw _ (List.mem_of_getElem? (i := 11) rfl)) (by decide) (by decide)) q120a q120c (g := (mkF m 205 #[.val (.int a), .val (.int b), .val (.int cc), .val (.int q), .val (.int n), .val (.int lo), .val (.int hi), .val (.int mid), .val (.int k), .val (.int sel), .val (.int t), .val (.ref b101), .val (.ref b103), .val (.ref b105), .val (.ref b116), .unset] [(.int (3 : Int32)), (.ref b105), (.long (0 : Int64)), (.int (0 : Int32)), (.ref b103), (.ref b101), (.long (0 : Int64)), (.long (0 : Int64)), (.int (1 : Int32)), (.ref b116)])) rfl (by rw [hml]; rfl) (Steps.refl _) (argsL := [(.int (1 : Int32)), (.long (0 : Int64)), (.long (0 : Int64)), (.ref b101), (.ref b103), (.int (0 : Int32)), (.long (0 : Int64)), (.ref b105), (.int (3 : Int32))]) (rest := []) (lenOf pd__IJJ_B_IIJ_II_V rfl) rfl (by show 2 * 0 + _ ≤ _; exact Nat.le_of_eq rfl) (hb hby at_205) (fun _ _ => ⟨rfl, rfl, (by decide : 4 + 1 ≤ _), (by decide : 12 + 8 ≤ _)⟩)
  dsimp only [Pt.U, Pt.locs, Pt.cells, Pt.slots] at X120 l120 y120 z120 st120 hQ120
  subst l120 y120 z120
  obtain ⟨b_120, kb_120, rfl, N120q, O120, Kc120, Pb_120, Pe_120, Pu_120, Vb_120, Gb_120, Sb_120, Nab_120, Pline_120, Poffset_120, Plength_120, Pkept_120, PfieldCount_120, PunprintableCount_120⟩ := hQ120
  have N120 := Fr.app N118 N120q
  refine Go.tr st120 ?_
  have V_b101_h121 := V_b101_h119.keep Kc120 (ninS ne_b101_b116 nin0)
  have V_b103_h121 := V_b103_h119.keep Kc120 (ninS ne_b103_b116 nin0)
  have V_b105_114_h121 := V_b105_114_h119.keep Kc120 (ninS ne_b105_b116 nin0)
  have A116_h121 := A116_h119.keep Kc120
  have ne_w_NO_BYTES_b_120 : w_NO_BYTES ≠ b_120 := Nat.ne_of_lt (Nat.lt_of_lt_of_le (A_NO_BYTES.ext O118).lt Sb_120)
  have ne_w_NO_NUMBERS_b_120 : w_NO_NUMBERS ≠ b_120 := Nat.ne_of_lt (Nat.lt_of_lt_of_le (A_NO_NUMBERS.ext O118).lt Sb_120)
  have ne_b101_b_120 : b101 ≠ b_120 := Nat.ne_of_lt (Nat.lt_of_lt_of_le V_b101_h119.lt Sb_120)
  have ne_b103_b_120 : b103 ≠ b_120 := Nat.ne_of_lt (Nat.lt_of_lt_of_le V_b103_h119.lt Sb_120)
  have ne_b105_b_120 : b105 ≠ b_120 := Nat.ne_of_lt (Nat.lt_of_lt_of_le V_b105_114_h119.lt Sb_120)
  show Go p e below _ (T120.setTop (mkF m 208 #[.val (.int a), .val (.int b), .val (.int cc), .val (.int q), .val (.int n), .val (.int lo), .val (.int hi), .val (.int mid), .val (.int k), .val (.int sel), .val (.int t), .val (.ref b101), .val (.ref b103), .val (.ref b105), .val (.ref b116), .unset] []))
  refine Go.st (fun t' k' => XS.aload X120.here hx rfl (hb hby at_208) rfl rfl k') ?_
  show Go p e below _ (T120.setTop (mkF m 210 #[.val (.int a), .val (.int b), .val (.int cc), .val (.int q), .val (.int n), .val (.int lo), .val (.int hi), .val (.int mid), .val (.int k), .val (.int sel), .val (.int t), .val (.ref b101), .val (.ref b103), .val (.ref b105), .val (.ref b116), .unset] [(.ref b116)]))
  refine Go.st (fun t' k' => XS.iconst X120.here hx rfl (hb hby at_210) k') ?_
  show Go p e below _ (T120.setTop (mkF m 211 #[.val (.int a), .val (.int b), .val (.int cc), .val (.int q), .val (.int n), .val (.int lo), .val (.int hi), .val (.int mid), .val (.int k), .val (.int sel), .val (.int t), .val (.ref b101), .val (.ref b103), .val (.ref b105), .val (.ref b116), .unset] [(.int (2 : Int32)), (.ref b116)]))
  refine Go.st (fun t' k' => XS.lconst X120.here hx rfl (hb hby at_211) k') ?_
  show Go p e below _ (T120.setTop (mkF m 212 #[.val (.int a), .val (.int b), .val (.int cc), .val (.int q), .val (.int n), .val (.int lo), .val (.int hi), .val (.int mid), .val (.int k), .val (.int sel), .val (.int t), .val (.ref b101), .val (.ref b103), .val (.ref b105), .val (.ref b116), .unset] [(.long (0 : Int64)), (.int (2 : Int32)), (.ref b116)]))
  refine Go.st (fun t' k' => XS.lconst X120.here hx rfl (hb hby at_212) k') ?_
  show Go p e below _ (T120.setTop (mkF m 213 #[.val (.int a), .val (.int b), .val (.int cc), .val (.int q), .val (.int n), .val (.int lo), .val (.int hi), .val (.int mid), .val (.int k), .val (.int sel), .val (.int t), .val (.ref b101), .val (.ref b103), .val (.ref b105), .val (.ref b116), .unset] [(.long (0 : Int64)), (.long (0 : Int64)), (.int (2 : Int32)), (.ref b116)]))
  refine Go.st (fun t' k' => XS.aload X120.here hx rfl (hb hby at_213) rfl rfl k') ?_
  show Go p e below _ (T120.setTop (mkF m 215 #[.val (.int a), .val (.int b), .val (.int cc), .val (.int q), .val (.int n), .val (.int lo), .val (.int hi), .val (.int mid), .val (.int k), .val (.int sel), .val (.int t), .val (.ref b101), .val (.ref b103), .val (.ref b105), .val (.ref b116), .unset] [(.ref b101), (.long (0 : Int64)), (.long (0 : Int64)), (.int (2 : Int32)), (.ref b116)]))
  refine Go.st (fun t' k' => XS.aload X120.here hx rfl (hb hby at_215) rfl rfl k') ?_
  show Go p e below _ (T120.setTop (mkF m 217 #[.val (.int a), .val (.int b), .val (.int cc), .val (.int q), .val (.int n), .val (.int lo), .val (.int hi), .val (.int mid), .val (.int k), .val (.int sel), .val (.int t), .val (.ref b101), .val (.ref b103), .val (.ref b105), .val (.ref b116), .unset] [(.ref b103), (.ref b101), (.long (0 : Int64)), (.long (0 : Int64)), (.int (2 : Int32)), (.ref b116)]))
  refine Go.st (fun t' k' => XS.iconst X120.here hx rfl (hb hby at_217) k') ?_
  show Go p e below _ (T120.setTop (mkF m 218 #[.val (.int a), .val (.int b), .val (.int cc), .val (.int q), .val (.int n), .val (.int lo), .val (.int hi), .val (.int mid), .val (.int k), .val (.int sel), .val (.int t), .val (.ref b101), .val (.ref b103), .val (.ref b105), .val (.ref b116), .unset] [(.int (0 : Int32)), (.ref b103), (.ref b101), (.long (0 : Int64)), (.long (0 : Int64)), (.int (2 : Int32)), (.ref b116)]))
  refine Go.st (fun t' k' => XS.lconst X120.here hx rfl (hb hby at_218) k') ?_
  show Go p e below _ (T120.setTop (mkF m 219 #[.val (.int a), .val (.int b), .val (.int cc), .val (.int q), .val (.int n), .val (.int lo), .val (.int hi), .val (.int mid), .val (.int k), .val (.int sel), .val (.int t), .val (.ref b101), .val (.ref b103), .val (.ref b105), .val (.ref b116), .unset] [(.long (0 : Int64)), (.int (0 : Int32)), (.ref b103), (.ref b101), (.long (0 : Int64)), (.long (0 : Int64)), (.int (2 : Int32)), (.ref b116)]))
  refine Go.st (fun t' k' => XS.aload X120.here hx rfl (hb hby at_219) rfl rfl k') ?_
  show Go p e below _ (T120.setTop (mkF m 221 #[.val (.int a), .val (.int b), .val (.int cc), .val (.int q), .val (.int n), .val (.int lo), .val (.int hi), .val (.int mid), .val (.int k), .val (.int sel), .val (.int t), .val (.ref b101), .val (.ref b103), .val (.ref b105), .val (.ref b116), .unset] [(.ref b105), (.long (0 : Int64)), (.int (0 : Int32)), (.ref b103), (.ref b101), (.long (0 : Int64)), (.long (0 : Int64)), (.int (2 : Int32)), (.ref b116)]))
  refine Go.st (fun t' k' => XS.iload X120.here hx rfl (hb hby at_221) rfl k') ?_
  show Go p e below _ (T120.setTop (mkF m 223 #[.val (.int a), .val (.int b), .val (.int cc), .val (.int q), .val (.int n), .val (.int lo), .val (.int hi), .val (.int mid), .val (.int k), .val (.int sel), .val (.int t), .val (.ref b101), .val (.ref b103), .val (.ref b105), .val (.ref b116), .unset] [(.int k), (.ref b105), (.long (0 : Int64)), (.int (0 : Int32)), (.ref b103), (.ref b101), (.long (0 : Int64)), (.long (0 : Int64)), (.int (2 : Int32)), (.ref b116)]))
  obtain ⟨cq122, kq122, q122a, q122b, q122c⟩ := isOf hZ rfl A116_h121
  obtain ⟨_, _, ⟨T122, L122, k122, n122⟩, -, X122, ⟨Lc122, hQ122, l122, y122, z122⟩, st122⟩ := X120.virtualBack hx (y := (⟨"com/example/harakeke/harakeke/model/Record", "set", "(IJJ[B[IIJ[II)V"⟩ : MethodName)) (z := (⟨"com/example/harakeke/harakeke/model/Record", "set", "(IJJ[B[IIJ[II)V"⟩ : MethodName)) hown (mvT hZ (hw _ (List.mem_of_getElem? (i := 28) rfl))) (mvT hZ (hw _ (List.mem_of_getElem? (i := 29) rfl))) (notFace_of_selects (args := #[]) (mvT hZ (hw _ (List.mem_of_getElem? (i := 31) rfl)))) (mvT hZ (hw _ (List.mem_of_getElem? (i := 31) rfl))) (mvT hZ (hw _ (List.mem_of_getElem? (i := 30) rfl))) (by decide) (backOf (W := 0) (rmSet2 l Z a0 hw [] b116 b101 b103 b105 k w_NO_BYTES w_NO_NUMBERS k_B k_N k101 k103 k105 lo mid hi b_120 kb_120 T120.heap O120 A_NO_BYTES A_NO_NUMBERS A116_h121 g_b116 Pb_120 Pe_120 Pu_120 Pline_120 Poffset_120 Plength_120 Pkept_120 PfieldCount_120 PunprintableCount_120 V_b101_h121 V_b103_h121 V_b105_114_h121 ne_b101_b116 ne_b103_b116 ne_b105_b116 Vb_120 Gb_120 Nab_120 ne_b101_b_120 ne_b103_b_120 ne_b105_b_120 hk) hZ (hw _ (List.mem_of_getElem? (i := 32) rfl)) (hw _ (List.mem_of_getElem? (i := 11) rfl)) (by decide) (by decide)) q122a q122c (g := (mkF m 223 #[.val (.int a), .val (.int b), .val (.int cc), .val (.int q), .val (.int n), .val (.int lo), .val (.int hi), .val (.int mid), .val (.int k), .val (.int sel), .val (.int t), .val (.ref b101), .val (.ref b103), .val (.ref b105), .val (.ref b116), .unset] [(.int k), (.ref b105), (.long (0 : Int64)), (.int (0 : Int32)), (.ref b103), (.ref b101), (.long (0 : Int64)), (.long (0 : Int64)), (.int (2 : Int32)), (.ref b116)])) rfl (by rw [hml]; rfl) (Steps.refl _) (argsL := [(.int (2 : Int32)), (.long (0 : Int64)), (.long (0 : Int64)), (.ref b101), (.ref b103), (.int (0 : Int32)), (.long (0 : Int64)), (.ref b105), (.int k)]) (rest := []) (lenOf pd__IJJ_B_IIJ_II_V rfl) rfl (by show 2 * 0 + _ ≤ _; exact Nat.le_of_eq rfl) (hb hby at_223) (fun _ _ => ⟨rfl, rfl, (by decide : 5 + 0 ≤ _), (by decide : 20 + 0 ≤ _)⟩)
  dsimp only [Pt.U, Pt.locs, Pt.cells, Pt.slots] at X122 l122 y122 z122 st122 hQ122
  subst l122 y122 z122
  obtain ⟨rfl, N122q, O122, Kc122, Pb_122, Pe_122, Pu_122, Qb_122, Pline_122, Poffset_122, Plength_122, Pkept_122, PfieldCount_122, PunprintableCount_122⟩ := hQ122
  have N122 := Fr.app N120 N122q
  refine Go.tr st122 ?_
  have V_b101_h123 := V_b101_h121.keep Kc122 (ninS ne_b101_b116 (ninS ne_b101_b_120 nin0))
  have V_b103_h123 := V_b103_h121.keep Kc122 (ninS ne_b103_b116 (ninS ne_b103_b_120 nin0))
  have V_b105_114_h123 := V_b105_114_h121.keep Kc122 (ninS ne_b105_b116 (ninS ne_b105_b_120 nin0))
  have A116_h123 := A116_h121.keep Kc122
  show Go p e below _ (T122.setTop (mkF m 226 #[.val (.int a), .val (.int b), .val (.int cc), .val (.int q), .val (.int n), .val (.int lo), .val (.int hi), .val (.int mid), .val (.int k), .val (.int sel), .val (.int t), .val (.ref b101), .val (.ref b103), .val (.ref b105), .val (.ref b116), .unset] []))
  refine Go.st (fun t' k' => XS.iload X122.here hx rfl (hb hby at_226) rfl k') ?_
  show Go p e below _ (T122.setTop (mkF m 228 #[.val (.int a), .val (.int b), .val (.int cc), .val (.int q), .val (.int n), .val (.int lo), .val (.int hi), .val (.int mid), .val (.int k), .val (.int sel), .val (.int t), .val (.ref b101), .val (.ref b103), .val (.ref b105), .val (.ref b116), .unset] [(.int k)]))
  refine Go.st (fun t' k' => XS.iconst X122.here hx rfl (hb hby at_228) k') ?_
  show Go p e below _ (T122.setTop (mkF m 229 #[.val (.int a), .val (.int b), .val (.int cc), .val (.int q), .val (.int n), .val (.int lo), .val (.int hi), .val (.int mid), .val (.int k), .val (.int sel), .val (.int t), .val (.ref b101), .val (.ref b103), .val (.ref b105), .val (.ref b116), .unset] [(.int (1 : Int32)), (.int k)]))
  by_cases hc229_124 : k < (1 : Int32)
  · refine Go.st (fun t' k' => XS.icmpYes X122.here hx rfl (pc0 := 229) (pc' := 239) rfl (hb hby at_229) rfl (tlt hc229_124).1 (by decide) (by decide) k') ?_
    show Go p e below _ (T122.setTop (mkF m 239 #[.val (.int a), .val (.int b), .val (.int cc), .val (.int q), .val (.int n), .val (.int lo), .val (.int hi), .val (.int mid), .val (.int k), .val (.int sel), .val (.int t), .val (.ref b101), .val (.ref b103), .val (.ref b105), .val (.ref b116), .unset] []))
    refine Go.st (fun t' k' => XS.iload X122.here hx rfl (hb hby at_239) rfl k') ?_
    show Go p e below _ (T122.setTop (mkF m 241 #[.val (.int a), .val (.int b), .val (.int cc), .val (.int q), .val (.int n), .val (.int lo), .val (.int hi), .val (.int mid), .val (.int k), .val (.int sel), .val (.int t), .val (.ref b101), .val (.ref b103), .val (.ref b105), .val (.ref b116), .unset] [(.int k)]))
    refine Go.st (fun t' k' => XS.iconst X122.here hx rfl (hb hby at_241) k') ?_
    show Go p e below _ (T122.setTop (mkF m 242 #[.val (.int a), .val (.int b), .val (.int cc), .val (.int q), .val (.int n), .val (.int lo), .val (.int hi), .val (.int mid), .val (.int k), .val (.int sel), .val (.int t), .val (.ref b101), .val (.ref b103), .val (.ref b105), .val (.ref b116), .unset] [(.int (2 : Int32)), (.int k)]))
    by_cases hc242_125 : k < (2 : Int32)
    · refine Go.st (fun t' k' => XS.icmpYes X122.here hx rfl (pc0 := 242) (pc' := 252) rfl (hb hby at_242) rfl (tlt hc242_125).1 (by decide) (by decide) k') ?_
      show Go p e below _ (T122.setTop (mkF m 252 #[.val (.int a), .val (.int b), .val (.int cc), .val (.int q), .val (.int n), .val (.int lo), .val (.int hi), .val (.int mid), .val (.int k), .val (.int sel), .val (.int t), .val (.ref b101), .val (.ref b103), .val (.ref b105), .val (.ref b116), .unset] []))
      refine Go.st (fun t' k' => XS.iload X122.here hx rfl (hb hby at_252) rfl k') ?_
      show Go p e below _ (T122.setTop (mkF m 254 #[.val (.int a), .val (.int b), .val (.int cc), .val (.int q), .val (.int n), .val (.int lo), .val (.int hi), .val (.int mid), .val (.int k), .val (.int sel), .val (.int t), .val (.ref b101), .val (.ref b103), .val (.ref b105), .val (.ref b116), .unset] [(.int k)]))
      refine Go.st (fun t' k' => XS.iconst X122.here hx rfl (hb hby at_254) k') ?_
      show Go p e below _ (T122.setTop (mkF m 255 #[.val (.int a), .val (.int b), .val (.int cc), .val (.int q), .val (.int n), .val (.int lo), .val (.int hi), .val (.int mid), .val (.int k), .val (.int sel), .val (.int t), .val (.ref b101), .val (.ref b103), .val (.ref b105), .val (.ref b116), .unset] [(.int (3 : Int32)), (.int k)]))
      by_cases hc255_126 : k < (3 : Int32)
      · refine Go.st (fun t' k' => XS.icmpYes X122.here hx rfl (pc0 := 255) (pc' := 269) rfl (hb hby at_255) rfl (tlt hc255_126).1 (by decide) (by decide) k') ?_
        show Go p e below _ (T122.setTop (mkF m 269 #[.val (.int a), .val (.int b), .val (.int cc), .val (.int q), .val (.int n), .val (.int lo), .val (.int hi), .val (.int mid), .val (.int k), .val (.int sel), .val (.int t), .val (.ref b101), .val (.ref b103), .val (.ref b105), .val (.ref b116), .unset] []))
        refine Go.st (fun t' k' => XS.iconst X122.here hx rfl (hb hby at_269) k') ?_
        show Go p e below _ (T122.setTop (mkF m 270 #[.val (.int a), .val (.int b), .val (.int cc), .val (.int q), .val (.int n), .val (.int lo), .val (.int hi), .val (.int mid), .val (.int k), .val (.int sel), .val (.int t), .val (.ref b101), .val (.ref b103), .val (.ref b105), .val (.ref b116), .unset] [(.int (0 : Int32))]))
        refine Go.st (fun t' k' => XS.istore X122.here hx rfl (hb hby at_270) rfl (l' := #[.val (.int a), .val (.int b), .val (.int cc), .val (.int q), .val (.int n), .val (.int lo), .val (.int hi), .val (.int mid), .val (.int k), .val (.int sel), .val (.int t), .val (.ref b101), .val (.ref b103), .val (.ref b105), .val (.ref b116), .val (.int (0 : Int32))]) rfl k') ?_
        show Go p e below _ (T122.setTop (mkF m 272 #[.val (.int a), .val (.int b), .val (.int cc), .val (.int q), .val (.int n), .val (.int lo), .val (.int hi), .val (.int mid), .val (.int k), .val (.int sel), .val (.int t), .val (.ref b101), .val (.ref b103), .val (.ref b105), .val (.ref b116), .val (.int (0 : Int32))] []))
        refine Go.st (fun t' k' => XS.aload X122.here hx rfl (hb hby at_272) rfl rfl k') ?_
        show Go p e below _ (T122.setTop (mkF m 274 #[.val (.int a), .val (.int b), .val (.int cc), .val (.int q), .val (.int n), .val (.int lo), .val (.int hi), .val (.int mid), .val (.int k), .val (.int sel), .val (.int t), .val (.ref b101), .val (.ref b103), .val (.ref b105), .val (.ref b116), .val (.int (0 : Int32))] [(.ref b116)]))
        refine Go.st (fun t' k' => XS.iload X122.here hx rfl (hb hby at_274) rfl k') ?_
        show Go p e below _ (T122.setTop (mkF m 276 #[.val (.int a), .val (.int b), .val (.int cc), .val (.int q), .val (.int n), .val (.int lo), .val (.int hi), .val (.int mid), .val (.int k), .val (.int sel), .val (.int t), .val (.ref b101), .val (.ref b103), .val (.ref b105), .val (.ref b116), .val (.int (0 : Int32))] [(.int t), (.ref b116)]))
        obtain ⟨cq127, kq127, q127a, q127b, q127c⟩ := isOf hZ rfl A116_h123
        obtain ⟨_, _, ⟨T127, L127, k127, n127⟩, -, X127, ⟨Lc127, hQ127, l127, y127, z127⟩, st127⟩ := X122.virtualBack hx (y := (⟨"com/example/harakeke/harakeke/model/Record", "isPrintable", "(I)Z"⟩ : MethodName)) (z := (⟨"com/example/harakeke/harakeke/model/Record", "isPrintable", "(I)Z"⟩ : MethodName)) hown (mvT hZ (hw _ (List.mem_of_getElem? (i := 50) rfl))) (mvT hZ (hw _ (List.mem_of_getElem? (i := 51) rfl))) (notFace_of_selects (args := #[]) (mvT hZ (hw _ (List.mem_of_getElem? (i := 53) rfl)))) (mvT hZ (hw _ (List.mem_of_getElem? (i := 53) rfl))) (mvT hZ (hw _ (List.mem_of_getElem? (i := 52) rfl))) (by decide) (backOf (W := 0) (rmPrint l Z a0 hw [] b116 t k b_120 kb_120 lo mid hi T122.heap O122 PunprintableCount_122 Pu_122 Qb_122 hk) hZ (hw _ (List.mem_of_getElem? (i := 54) rfl)) (hw _ (List.mem_of_getElem? (i := 11) rfl)) (by decide) (by decide)) q127a q127c (g := (mkF m 276 #[.val (.int a), .val (.int b), .val (.int cc), .val (.int q), .val (.int n), .val (.int lo), .val (.int hi), .val (.int mid), .val (.int k), .val (.int sel), .val (.int t), .val (.ref b101), .val (.ref b103), .val (.ref b105), .val (.ref b116), .val (.int (0 : Int32))] [(.int t), (.ref b116)])) rfl (by rw [hml]; rfl) (Steps.refl _) (argsL := [(.int t)]) (rest := []) (lenOf pd__I_Z rfl) rfl (by show 2 * 0 + _ ≤ _; exact Nat.le_of_eq rfl) (hb hby at_276) (fun _ _ => ⟨rfl, rfl, (by decide : 5 + 0 ≤ _), (by decide : 20 + 0 ≤ _)⟩)
        dsimp only [Pt.U, Pt.locs, Pt.cells, Pt.slots] at X127 l127 y127 z127 st127 hQ127
        subst l127 y127 z127
        obtain ⟨rfl, rfl, e127⟩ := hQ127
        have N127 := Fr.app N122 (Fr.nil _)
        refine Go.tr st127 ?_
        show Go p e below _ (T127.setTop (mkF m 279 #[.val (.int a), .val (.int b), .val (.int cc), .val (.int q), .val (.int n), .val (.int lo), .val (.int hi), .val (.int mid), .val (.int k), .val (.int sel), .val (.int t), .val (.ref b101), .val (.ref b103), .val (.ref b105), .val (.ref b116), .val (.int (0 : Int32))] [(.int (own_pr k t lo mid hi))]))
        refine Go.st (fun t' k' => XS.iload X127.here hx rfl (hb hby at_279) rfl k') ?_
        show Go p e below _ (T127.setTop (mkF m 281 #[.val (.int a), .val (.int b), .val (.int cc), .val (.int q), .val (.int n), .val (.int lo), .val (.int hi), .val (.int mid), .val (.int k), .val (.int sel), .val (.int t), .val (.ref b101), .val (.ref b103), .val (.ref b105), .val (.ref b116), .val (.int (0 : Int32))] [(.int (0 : Int32)), (.int (own_pr k t lo mid hi))]))
        refine Go.st (fun t' k' => XS.ifNo X127.here hx rfl (hb hby at_281) rfl ((if0 _ _).trans (teq (by decide : (0 : Int32) = (0 : Int32))).2) k') ?_
        show Go p e below _ (T127.setTop (mkF m 284 #[.val (.int a), .val (.int b), .val (.int cc), .val (.int q), .val (.int n), .val (.int lo), .val (.int hi), .val (.int mid), .val (.int k), .val (.int sel), .val (.int t), .val (.ref b101), .val (.ref b103), .val (.ref b105), .val (.ref b116), .val (.int (0 : Int32))] [(.int (own_pr k t lo mid hi))]))
        refine Go.st (fun t' k' => XS.iconst X127.here hx rfl (hb hby at_284) k') ?_
        show Go p e below _ (T127.setTop (mkF m 285 #[.val (.int a), .val (.int b), .val (.int cc), .val (.int q), .val (.int n), .val (.int lo), .val (.int hi), .val (.int mid), .val (.int k), .val (.int sel), .val (.int t), .val (.ref b101), .val (.ref b103), .val (.ref b105), .val (.ref b116), .val (.int (0 : Int32))] [(.int (1 : Int32)), (.int (own_pr k t lo mid hi))]))
        refine Go.st (fun t' k' => XS.goto X127.here hx rfl (pc0 := 285) (pc' := 289) rfl (hb hby at_285) (by decide) (by decide) k') ?_
        show Go p e below _ (T127.setTop (mkF m 289 #[.val (.int a), .val (.int b), .val (.int cc), .val (.int q), .val (.int n), .val (.int lo), .val (.int hi), .val (.int mid), .val (.int k), .val (.int sel), .val (.int t), .val (.ref b101), .val (.ref b103), .val (.ref b105), .val (.ref b116), .val (.int (0 : Int32))] [(.int (1 : Int32)), (.int (own_pr k t lo mid hi))]))
        refine Go.st (fun t' k' => XS.icmpNo X127.here hx rfl (hb hby at_289) rfl (teq (by unfold own_pr; split; all_goals (rename_i hh); all_goals first | rfl | (exfalso; simp only [Int32.lt_iff_toInt_lt, ← Int32.toInt_inj, Int32.reduceToInt] at hh hk hc229_124 hc242_125 hc255_126; omega))).2 k') ?_
        show Go p e below _ (T127.setTop (mkF m 292 #[.val (.int a), .val (.int b), .val (.int cc), .val (.int q), .val (.int n), .val (.int lo), .val (.int hi), .val (.int mid), .val (.int k), .val (.int sel), .val (.int t), .val (.ref b101), .val (.ref b103), .val (.ref b105), .val (.ref b116), .val (.int (0 : Int32))] []))
        refine Go.st (fun t' k' => XS.iconst X127.here hx rfl (hb hby at_292) k') ?_
        show Go p e below _ (T127.setTop (mkF m 293 #[.val (.int a), .val (.int b), .val (.int cc), .val (.int q), .val (.int n), .val (.int lo), .val (.int hi), .val (.int mid), .val (.int k), .val (.int sel), .val (.int t), .val (.ref b101), .val (.ref b103), .val (.ref b105), .val (.ref b116), .val (.int (0 : Int32))] [(.int (1 : Int32))]))
        refine Go.st (fun t' k' => XS.goto X127.here hx rfl (pc0 := 293) (pc' := 297) rfl (hb hby at_293) (by decide) (by decide) k') ?_
        show Go p e below _ (T127.setTop (mkF m 297 #[.val (.int a), .val (.int b), .val (.int cc), .val (.int q), .val (.int n), .val (.int lo), .val (.int hi), .val (.int mid), .val (.int k), .val (.int sel), .val (.int t), .val (.ref b101), .val (.ref b103), .val (.ref b105), .val (.ref b116), .val (.int (0 : Int32))] [(.int (1 : Int32))]))
        exact Go.outN X127 hx hlk (t := .boolean) hret (by simp) (hb hby at_297) (Q := Q_rm0 Z a b cc q n w_NO_BYTES w_NO_NUMBERS k_B k_N h0) (by rw [e127]; exact ⟨rfl, N127⟩) (by decide) (by decide)
      · refine Go.st (fun t' k' => XS.icmpNo X122.here hx rfl (hb hby at_255) rfl (flt hc255_126).1 k') ?_
        show Go p e below _ (T122.setTop (mkF m 258 #[.val (.int a), .val (.int b), .val (.int cc), .val (.int q), .val (.int n), .val (.int lo), .val (.int hi), .val (.int mid), .val (.int k), .val (.int sel), .val (.int t), .val (.ref b101), .val (.ref b103), .val (.ref b105), .val (.ref b116), .unset] []))
        refine Go.st (fun t' k' => XS.iload X122.here hx rfl (hb hby at_258) rfl k') ?_
        show Go p e below _ (T122.setTop (mkF m 260 #[.val (.int a), .val (.int b), .val (.int cc), .val (.int q), .val (.int n), .val (.int lo), .val (.int hi), .val (.int mid), .val (.int k), .val (.int sel), .val (.int t), .val (.ref b101), .val (.ref b103), .val (.ref b105), .val (.ref b116), .unset] [(.int t)]))
        refine Go.st (fun t' k' => XS.iload X122.here hx rfl (hb hby at_260) rfl k') ?_
        show Go p e below _ (T122.setTop (mkF m 262 #[.val (.int a), .val (.int b), .val (.int cc), .val (.int q), .val (.int n), .val (.int lo), .val (.int hi), .val (.int mid), .val (.int k), .val (.int sel), .val (.int t), .val (.ref b101), .val (.ref b103), .val (.ref b105), .val (.ref b116), .unset] [(.int hi), (.int t)]))
        by_cases hc262_128 : t = hi
        · refine Go.st (fun t' k' => XS.icmpNo X122.here hx rfl (hb hby at_262) rfl (teq hc262_128).2 k') ?_
          show Go p e below _ (T122.setTop (mkF m 265 #[.val (.int a), .val (.int b), .val (.int cc), .val (.int q), .val (.int n), .val (.int lo), .val (.int hi), .val (.int mid), .val (.int k), .val (.int sel), .val (.int t), .val (.ref b101), .val (.ref b103), .val (.ref b105), .val (.ref b116), .unset] []))
          refine Go.st (fun t' k' => XS.iconst X122.here hx rfl (hb hby at_265) k') ?_
          show Go p e below _ (T122.setTop (mkF m 266 #[.val (.int a), .val (.int b), .val (.int cc), .val (.int q), .val (.int n), .val (.int lo), .val (.int hi), .val (.int mid), .val (.int k), .val (.int sel), .val (.int t), .val (.ref b101), .val (.ref b103), .val (.ref b105), .val (.ref b116), .unset] [(.int (1 : Int32))]))
          refine Go.st (fun t' k' => XS.goto X122.here hx rfl (pc0 := 266) (pc' := 270) rfl (hb hby at_266) (by decide) (by decide) k') ?_
          show Go p e below _ (T122.setTop (mkF m 270 #[.val (.int a), .val (.int b), .val (.int cc), .val (.int q), .val (.int n), .val (.int lo), .val (.int hi), .val (.int mid), .val (.int k), .val (.int sel), .val (.int t), .val (.ref b101), .val (.ref b103), .val (.ref b105), .val (.ref b116), .unset] [(.int (1 : Int32))]))
          refine Go.st (fun t' k' => XS.istore X122.here hx rfl (hb hby at_270) rfl (l' := #[.val (.int a), .val (.int b), .val (.int cc), .val (.int q), .val (.int n), .val (.int lo), .val (.int hi), .val (.int mid), .val (.int k), .val (.int sel), .val (.int t), .val (.ref b101), .val (.ref b103), .val (.ref b105), .val (.ref b116), .val (.int (1 : Int32))]) rfl k') ?_
          show Go p e below _ (T122.setTop (mkF m 272 #[.val (.int a), .val (.int b), .val (.int cc), .val (.int q), .val (.int n), .val (.int lo), .val (.int hi), .val (.int mid), .val (.int k), .val (.int sel), .val (.int t), .val (.ref b101), .val (.ref b103), .val (.ref b105), .val (.ref b116), .val (.int (1 : Int32))] []))
          refine Go.st (fun t' k' => XS.aload X122.here hx rfl (hb hby at_272) rfl rfl k') ?_
          show Go p e below _ (T122.setTop (mkF m 274 #[.val (.int a), .val (.int b), .val (.int cc), .val (.int q), .val (.int n), .val (.int lo), .val (.int hi), .val (.int mid), .val (.int k), .val (.int sel), .val (.int t), .val (.ref b101), .val (.ref b103), .val (.ref b105), .val (.ref b116), .val (.int (1 : Int32))] [(.ref b116)]))
          refine Go.st (fun t' k' => XS.iload X122.here hx rfl (hb hby at_274) rfl k') ?_
          show Go p e below _ (T122.setTop (mkF m 276 #[.val (.int a), .val (.int b), .val (.int cc), .val (.int q), .val (.int n), .val (.int lo), .val (.int hi), .val (.int mid), .val (.int k), .val (.int sel), .val (.int t), .val (.ref b101), .val (.ref b103), .val (.ref b105), .val (.ref b116), .val (.int (1 : Int32))] [(.int t), (.ref b116)]))
          obtain ⟨cq129, kq129, q129a, q129b, q129c⟩ := isOf hZ rfl A116_h123
          obtain ⟨_, _, ⟨T129, L129, k129, n129⟩, -, X129, ⟨Lc129, hQ129, l129, y129, z129⟩, st129⟩ := X122.virtualBack hx (y := (⟨"com/example/harakeke/harakeke/model/Record", "isPrintable", "(I)Z"⟩ : MethodName)) (z := (⟨"com/example/harakeke/harakeke/model/Record", "isPrintable", "(I)Z"⟩ : MethodName)) hown (mvT hZ (hw _ (List.mem_of_getElem? (i := 50) rfl))) (mvT hZ (hw _ (List.mem_of_getElem? (i := 51) rfl))) (notFace_of_selects (args := #[]) (mvT hZ (hw _ (List.mem_of_getElem? (i := 53) rfl)))) (mvT hZ (hw _ (List.mem_of_getElem? (i := 53) rfl))) (mvT hZ (hw _ (List.mem_of_getElem? (i := 52) rfl))) (by decide) (backOf (W := 0) (rmPrint l Z a0 hw [] b116 t k b_120 kb_120 lo mid hi T122.heap O122 PunprintableCount_122 Pu_122 Qb_122 hk) hZ (hw _ (List.mem_of_getElem? (i := 54) rfl)) (hw _ (List.mem_of_getElem? (i := 11) rfl)) (by decide) (by decide)) q129a q129c (g := (mkF m 276 #[.val (.int a), .val (.int b), .val (.int cc), .val (.int q), .val (.int n), .val (.int lo), .val (.int hi), .val (.int mid), .val (.int k), .val (.int sel), .val (.int t), .val (.ref b101), .val (.ref b103), .val (.ref b105), .val (.ref b116), .val (.int (1 : Int32))] [(.int t), (.ref b116)])) rfl (by rw [hml]; rfl) (Steps.refl _) (argsL := [(.int t)]) (rest := []) (lenOf pd__I_Z rfl) rfl (by show 2 * 0 + _ ≤ _; exact Nat.le_of_eq rfl) (hb hby at_276) (fun _ _ => ⟨rfl, rfl, (by decide : 5 + 0 ≤ _), (by decide : 20 + 0 ≤ _)⟩)
          dsimp only [Pt.U, Pt.locs, Pt.cells, Pt.slots] at X129 l129 y129 z129 st129 hQ129
          subst l129 y129 z129
          obtain ⟨rfl, rfl, e129⟩ := hQ129
          have N129 := Fr.app N122 (Fr.nil _)
          refine Go.tr st129 ?_
          show Go p e below _ (T129.setTop (mkF m 279 #[.val (.int a), .val (.int b), .val (.int cc), .val (.int q), .val (.int n), .val (.int lo), .val (.int hi), .val (.int mid), .val (.int k), .val (.int sel), .val (.int t), .val (.ref b101), .val (.ref b103), .val (.ref b105), .val (.ref b116), .val (.int (1 : Int32))] [(.int (own_pr k t lo mid hi))]))
          refine Go.st (fun t' k' => XS.iload X129.here hx rfl (hb hby at_279) rfl k') ?_
          show Go p e below _ (T129.setTop (mkF m 281 #[.val (.int a), .val (.int b), .val (.int cc), .val (.int q), .val (.int n), .val (.int lo), .val (.int hi), .val (.int mid), .val (.int k), .val (.int sel), .val (.int t), .val (.ref b101), .val (.ref b103), .val (.ref b105), .val (.ref b116), .val (.int (1 : Int32))] [(.int (1 : Int32)), (.int (own_pr k t lo mid hi))]))
          refine Go.st (fun t' k' => XS.ifYes X129.here hx rfl (pc0 := 281) (pc' := 288) rfl (hb hby at_281) rfl ((if0 _ _).trans (feq (by decide : ¬ ((1 : Int32) = (0 : Int32)))).2) (by decide) (by decide) k') ?_
          show Go p e below _ (T129.setTop (mkF m 288 #[.val (.int a), .val (.int b), .val (.int cc), .val (.int q), .val (.int n), .val (.int lo), .val (.int hi), .val (.int mid), .val (.int k), .val (.int sel), .val (.int t), .val (.ref b101), .val (.ref b103), .val (.ref b105), .val (.ref b116), .val (.int (1 : Int32))] [(.int (own_pr k t lo mid hi))]))
          refine Go.st (fun t' k' => XS.iconst X129.here hx rfl (hb hby at_288) k') ?_
          show Go p e below _ (T129.setTop (mkF m 289 #[.val (.int a), .val (.int b), .val (.int cc), .val (.int q), .val (.int n), .val (.int lo), .val (.int hi), .val (.int mid), .val (.int k), .val (.int sel), .val (.int t), .val (.ref b101), .val (.ref b103), .val (.ref b105), .val (.ref b116), .val (.int (1 : Int32))] [(.int (0 : Int32)), (.int (own_pr k t lo mid hi))]))
          refine Go.st (fun t' k' => XS.icmpNo X129.here hx rfl (hb hby at_289) rfl (teq (by unfold own_pr; split; all_goals (rename_i hh); all_goals first | rfl | (exfalso; simp only [Int32.lt_iff_toInt_lt, ← Int32.toInt_inj, Int32.reduceToInt] at hh hk hc229_124 hc242_125 hc255_126 hc262_128; omega))).2 k') ?_
          show Go p e below _ (T129.setTop (mkF m 292 #[.val (.int a), .val (.int b), .val (.int cc), .val (.int q), .val (.int n), .val (.int lo), .val (.int hi), .val (.int mid), .val (.int k), .val (.int sel), .val (.int t), .val (.ref b101), .val (.ref b103), .val (.ref b105), .val (.ref b116), .val (.int (1 : Int32))] []))
          refine Go.st (fun t' k' => XS.iconst X129.here hx rfl (hb hby at_292) k') ?_
          show Go p e below _ (T129.setTop (mkF m 293 #[.val (.int a), .val (.int b), .val (.int cc), .val (.int q), .val (.int n), .val (.int lo), .val (.int hi), .val (.int mid), .val (.int k), .val (.int sel), .val (.int t), .val (.ref b101), .val (.ref b103), .val (.ref b105), .val (.ref b116), .val (.int (1 : Int32))] [(.int (1 : Int32))]))
          refine Go.st (fun t' k' => XS.goto X129.here hx rfl (pc0 := 293) (pc' := 297) rfl (hb hby at_293) (by decide) (by decide) k') ?_
          show Go p e below _ (T129.setTop (mkF m 297 #[.val (.int a), .val (.int b), .val (.int cc), .val (.int q), .val (.int n), .val (.int lo), .val (.int hi), .val (.int mid), .val (.int k), .val (.int sel), .val (.int t), .val (.ref b101), .val (.ref b103), .val (.ref b105), .val (.ref b116), .val (.int (1 : Int32))] [(.int (1 : Int32))]))
          exact Go.outN X129 hx hlk (t := .boolean) hret (by simp) (hb hby at_297) (Q := Q_rm0 Z a b cc q n w_NO_BYTES w_NO_NUMBERS k_B k_N h0) (by rw [e129]; exact ⟨rfl, N129⟩) (by decide) (by decide)
        · refine Go.st (fun t' k' => XS.icmpYes X122.here hx rfl (pc0 := 262) (pc' := 269) rfl (hb hby at_262) rfl (feq hc262_128).2 (by decide) (by decide) k') ?_
          show Go p e below _ (T122.setTop (mkF m 269 #[.val (.int a), .val (.int b), .val (.int cc), .val (.int q), .val (.int n), .val (.int lo), .val (.int hi), .val (.int mid), .val (.int k), .val (.int sel), .val (.int t), .val (.ref b101), .val (.ref b103), .val (.ref b105), .val (.ref b116), .unset] []))
          refine Go.st (fun t' k' => XS.iconst X122.here hx rfl (hb hby at_269) k') ?_
          show Go p e below _ (T122.setTop (mkF m 270 #[.val (.int a), .val (.int b), .val (.int cc), .val (.int q), .val (.int n), .val (.int lo), .val (.int hi), .val (.int mid), .val (.int k), .val (.int sel), .val (.int t), .val (.ref b101), .val (.ref b103), .val (.ref b105), .val (.ref b116), .unset] [(.int (0 : Int32))]))
          refine Go.st (fun t' k' => XS.istore X122.here hx rfl (hb hby at_270) rfl (l' := #[.val (.int a), .val (.int b), .val (.int cc), .val (.int q), .val (.int n), .val (.int lo), .val (.int hi), .val (.int mid), .val (.int k), .val (.int sel), .val (.int t), .val (.ref b101), .val (.ref b103), .val (.ref b105), .val (.ref b116), .val (.int (0 : Int32))]) rfl k') ?_
          show Go p e below _ (T122.setTop (mkF m 272 #[.val (.int a), .val (.int b), .val (.int cc), .val (.int q), .val (.int n), .val (.int lo), .val (.int hi), .val (.int mid), .val (.int k), .val (.int sel), .val (.int t), .val (.ref b101), .val (.ref b103), .val (.ref b105), .val (.ref b116), .val (.int (0 : Int32))] []))
          refine Go.st (fun t' k' => XS.aload X122.here hx rfl (hb hby at_272) rfl rfl k') ?_
          show Go p e below _ (T122.setTop (mkF m 274 #[.val (.int a), .val (.int b), .val (.int cc), .val (.int q), .val (.int n), .val (.int lo), .val (.int hi), .val (.int mid), .val (.int k), .val (.int sel), .val (.int t), .val (.ref b101), .val (.ref b103), .val (.ref b105), .val (.ref b116), .val (.int (0 : Int32))] [(.ref b116)]))
          refine Go.st (fun t' k' => XS.iload X122.here hx rfl (hb hby at_274) rfl k') ?_
          show Go p e below _ (T122.setTop (mkF m 276 #[.val (.int a), .val (.int b), .val (.int cc), .val (.int q), .val (.int n), .val (.int lo), .val (.int hi), .val (.int mid), .val (.int k), .val (.int sel), .val (.int t), .val (.ref b101), .val (.ref b103), .val (.ref b105), .val (.ref b116), .val (.int (0 : Int32))] [(.int t), (.ref b116)]))
          obtain ⟨cq130, kq130, q130a, q130b, q130c⟩ := isOf hZ rfl A116_h123
          obtain ⟨_, _, ⟨T130, L130, k130, n130⟩, -, X130, ⟨Lc130, hQ130, l130, y130, z130⟩, st130⟩ := X122.virtualBack hx (y := (⟨"com/example/harakeke/harakeke/model/Record", "isPrintable", "(I)Z"⟩ : MethodName)) (z := (⟨"com/example/harakeke/harakeke/model/Record", "isPrintable", "(I)Z"⟩ : MethodName)) hown (mvT hZ (hw _ (List.mem_of_getElem? (i := 50) rfl))) (mvT hZ (hw _ (List.mem_of_getElem? (i := 51) rfl))) (notFace_of_selects (args := #[]) (mvT hZ (hw _ (List.mem_of_getElem? (i := 53) rfl)))) (mvT hZ (hw _ (List.mem_of_getElem? (i := 53) rfl))) (mvT hZ (hw _ (List.mem_of_getElem? (i := 52) rfl))) (by decide) (backOf (W := 0) (rmPrint l Z a0 hw [] b116 t k b_120 kb_120 lo mid hi T122.heap O122 PunprintableCount_122 Pu_122 Qb_122 hk) hZ (hw _ (List.mem_of_getElem? (i := 54) rfl)) (hw _ (List.mem_of_getElem? (i := 11) rfl)) (by decide) (by decide)) q130a q130c (g := (mkF m 276 #[.val (.int a), .val (.int b), .val (.int cc), .val (.int q), .val (.int n), .val (.int lo), .val (.int hi), .val (.int mid), .val (.int k), .val (.int sel), .val (.int t), .val (.ref b101), .val (.ref b103), .val (.ref b105), .val (.ref b116), .val (.int (0 : Int32))] [(.int t), (.ref b116)])) rfl (by rw [hml]; rfl) (Steps.refl _) (argsL := [(.int t)]) (rest := []) (lenOf pd__I_Z rfl) rfl (by show 2 * 0 + _ ≤ _; exact Nat.le_of_eq rfl) (hb hby at_276) (fun _ _ => ⟨rfl, rfl, (by decide : 5 + 0 ≤ _), (by decide : 20 + 0 ≤ _)⟩)
          dsimp only [Pt.U, Pt.locs, Pt.cells, Pt.slots] at X130 l130 y130 z130 st130 hQ130
          subst l130 y130 z130
          obtain ⟨rfl, rfl, e130⟩ := hQ130
          have N130 := Fr.app N122 (Fr.nil _)
          refine Go.tr st130 ?_
          show Go p e below _ (T130.setTop (mkF m 279 #[.val (.int a), .val (.int b), .val (.int cc), .val (.int q), .val (.int n), .val (.int lo), .val (.int hi), .val (.int mid), .val (.int k), .val (.int sel), .val (.int t), .val (.ref b101), .val (.ref b103), .val (.ref b105), .val (.ref b116), .val (.int (0 : Int32))] [(.int (own_pr k t lo mid hi))]))
          refine Go.st (fun t' k' => XS.iload X130.here hx rfl (hb hby at_279) rfl k') ?_
          show Go p e below _ (T130.setTop (mkF m 281 #[.val (.int a), .val (.int b), .val (.int cc), .val (.int q), .val (.int n), .val (.int lo), .val (.int hi), .val (.int mid), .val (.int k), .val (.int sel), .val (.int t), .val (.ref b101), .val (.ref b103), .val (.ref b105), .val (.ref b116), .val (.int (0 : Int32))] [(.int (0 : Int32)), (.int (own_pr k t lo mid hi))]))
          refine Go.st (fun t' k' => XS.ifNo X130.here hx rfl (hb hby at_281) rfl ((if0 _ _).trans (teq (by decide : (0 : Int32) = (0 : Int32))).2) k') ?_
          show Go p e below _ (T130.setTop (mkF m 284 #[.val (.int a), .val (.int b), .val (.int cc), .val (.int q), .val (.int n), .val (.int lo), .val (.int hi), .val (.int mid), .val (.int k), .val (.int sel), .val (.int t), .val (.ref b101), .val (.ref b103), .val (.ref b105), .val (.ref b116), .val (.int (0 : Int32))] [(.int (own_pr k t lo mid hi))]))
          refine Go.st (fun t' k' => XS.iconst X130.here hx rfl (hb hby at_284) k') ?_
          show Go p e below _ (T130.setTop (mkF m 285 #[.val (.int a), .val (.int b), .val (.int cc), .val (.int q), .val (.int n), .val (.int lo), .val (.int hi), .val (.int mid), .val (.int k), .val (.int sel), .val (.int t), .val (.ref b101), .val (.ref b103), .val (.ref b105), .val (.ref b116), .val (.int (0 : Int32))] [(.int (1 : Int32)), (.int (own_pr k t lo mid hi))]))
          refine Go.st (fun t' k' => XS.goto X130.here hx rfl (pc0 := 285) (pc' := 289) rfl (hb hby at_285) (by decide) (by decide) k') ?_
          show Go p e below _ (T130.setTop (mkF m 289 #[.val (.int a), .val (.int b), .val (.int cc), .val (.int q), .val (.int n), .val (.int lo), .val (.int hi), .val (.int mid), .val (.int k), .val (.int sel), .val (.int t), .val (.ref b101), .val (.ref b103), .val (.ref b105), .val (.ref b116), .val (.int (0 : Int32))] [(.int (1 : Int32)), (.int (own_pr k t lo mid hi))]))
          refine Go.st (fun t' k' => XS.icmpNo X130.here hx rfl (hb hby at_289) rfl (teq (by unfold own_pr; split; all_goals (rename_i hh); all_goals first | rfl | (exfalso; simp only [Int32.lt_iff_toInt_lt, ← Int32.toInt_inj, Int32.reduceToInt] at hh hk hc229_124 hc242_125 hc255_126 hc262_128; omega))).2 k') ?_
          show Go p e below _ (T130.setTop (mkF m 292 #[.val (.int a), .val (.int b), .val (.int cc), .val (.int q), .val (.int n), .val (.int lo), .val (.int hi), .val (.int mid), .val (.int k), .val (.int sel), .val (.int t), .val (.ref b101), .val (.ref b103), .val (.ref b105), .val (.ref b116), .val (.int (0 : Int32))] []))
          refine Go.st (fun t' k' => XS.iconst X130.here hx rfl (hb hby at_292) k') ?_
          show Go p e below _ (T130.setTop (mkF m 293 #[.val (.int a), .val (.int b), .val (.int cc), .val (.int q), .val (.int n), .val (.int lo), .val (.int hi), .val (.int mid), .val (.int k), .val (.int sel), .val (.int t), .val (.ref b101), .val (.ref b103), .val (.ref b105), .val (.ref b116), .val (.int (0 : Int32))] [(.int (1 : Int32))]))
          refine Go.st (fun t' k' => XS.goto X130.here hx rfl (pc0 := 293) (pc' := 297) rfl (hb hby at_293) (by decide) (by decide) k') ?_
          show Go p e below _ (T130.setTop (mkF m 297 #[.val (.int a), .val (.int b), .val (.int cc), .val (.int q), .val (.int n), .val (.int lo), .val (.int hi), .val (.int mid), .val (.int k), .val (.int sel), .val (.int t), .val (.ref b101), .val (.ref b103), .val (.ref b105), .val (.ref b116), .val (.int (0 : Int32))] [(.int (1 : Int32))]))
          exact Go.outN X130 hx hlk (t := .boolean) hret (by simp) (hb hby at_297) (Q := Q_rm0 Z a b cc q n w_NO_BYTES w_NO_NUMBERS k_B k_N h0) (by rw [e130]; exact ⟨rfl, N130⟩) (by decide) (by decide)
    · refine Go.st (fun t' k' => XS.icmpNo X122.here hx rfl (hb hby at_242) rfl (flt hc242_125).1 k') ?_
      show Go p e below _ (T122.setTop (mkF m 245 #[.val (.int a), .val (.int b), .val (.int cc), .val (.int q), .val (.int n), .val (.int lo), .val (.int hi), .val (.int mid), .val (.int k), .val (.int sel), .val (.int t), .val (.ref b101), .val (.ref b103), .val (.ref b105), .val (.ref b116), .unset] []))
      refine Go.st (fun t' k' => XS.iload X122.here hx rfl (hb hby at_245) rfl k') ?_
      show Go p e below _ (T122.setTop (mkF m 247 #[.val (.int a), .val (.int b), .val (.int cc), .val (.int q), .val (.int n), .val (.int lo), .val (.int hi), .val (.int mid), .val (.int k), .val (.int sel), .val (.int t), .val (.ref b101), .val (.ref b103), .val (.ref b105), .val (.ref b116), .unset] [(.int t)]))
      refine Go.st (fun t' k' => XS.iload X122.here hx rfl (hb hby at_247) rfl k') ?_
      show Go p e below _ (T122.setTop (mkF m 249 #[.val (.int a), .val (.int b), .val (.int cc), .val (.int q), .val (.int n), .val (.int lo), .val (.int hi), .val (.int mid), .val (.int k), .val (.int sel), .val (.int t), .val (.ref b101), .val (.ref b103), .val (.ref b105), .val (.ref b116), .unset] [(.int mid), (.int t)]))
      by_cases hc249_131 : t = mid
      · refine Go.st (fun t' k' => XS.icmpYes X122.here hx rfl (pc0 := 249) (pc' := 265) rfl (hb hby at_249) rfl (teq hc249_131).1 (by decide) (by decide) k') ?_
        show Go p e below _ (T122.setTop (mkF m 265 #[.val (.int a), .val (.int b), .val (.int cc), .val (.int q), .val (.int n), .val (.int lo), .val (.int hi), .val (.int mid), .val (.int k), .val (.int sel), .val (.int t), .val (.ref b101), .val (.ref b103), .val (.ref b105), .val (.ref b116), .unset] []))
        refine Go.st (fun t' k' => XS.iconst X122.here hx rfl (hb hby at_265) k') ?_
        show Go p e below _ (T122.setTop (mkF m 266 #[.val (.int a), .val (.int b), .val (.int cc), .val (.int q), .val (.int n), .val (.int lo), .val (.int hi), .val (.int mid), .val (.int k), .val (.int sel), .val (.int t), .val (.ref b101), .val (.ref b103), .val (.ref b105), .val (.ref b116), .unset] [(.int (1 : Int32))]))
        refine Go.st (fun t' k' => XS.goto X122.here hx rfl (pc0 := 266) (pc' := 270) rfl (hb hby at_266) (by decide) (by decide) k') ?_
        show Go p e below _ (T122.setTop (mkF m 270 #[.val (.int a), .val (.int b), .val (.int cc), .val (.int q), .val (.int n), .val (.int lo), .val (.int hi), .val (.int mid), .val (.int k), .val (.int sel), .val (.int t), .val (.ref b101), .val (.ref b103), .val (.ref b105), .val (.ref b116), .unset] [(.int (1 : Int32))]))
        refine Go.st (fun t' k' => XS.istore X122.here hx rfl (hb hby at_270) rfl (l' := #[.val (.int a), .val (.int b), .val (.int cc), .val (.int q), .val (.int n), .val (.int lo), .val (.int hi), .val (.int mid), .val (.int k), .val (.int sel), .val (.int t), .val (.ref b101), .val (.ref b103), .val (.ref b105), .val (.ref b116), .val (.int (1 : Int32))]) rfl k') ?_
        show Go p e below _ (T122.setTop (mkF m 272 #[.val (.int a), .val (.int b), .val (.int cc), .val (.int q), .val (.int n), .val (.int lo), .val (.int hi), .val (.int mid), .val (.int k), .val (.int sel), .val (.int t), .val (.ref b101), .val (.ref b103), .val (.ref b105), .val (.ref b116), .val (.int (1 : Int32))] []))
        refine Go.st (fun t' k' => XS.aload X122.here hx rfl (hb hby at_272) rfl rfl k') ?_
        show Go p e below _ (T122.setTop (mkF m 274 #[.val (.int a), .val (.int b), .val (.int cc), .val (.int q), .val (.int n), .val (.int lo), .val (.int hi), .val (.int mid), .val (.int k), .val (.int sel), .val (.int t), .val (.ref b101), .val (.ref b103), .val (.ref b105), .val (.ref b116), .val (.int (1 : Int32))] [(.ref b116)]))
        refine Go.st (fun t' k' => XS.iload X122.here hx rfl (hb hby at_274) rfl k') ?_
        show Go p e below _ (T122.setTop (mkF m 276 #[.val (.int a), .val (.int b), .val (.int cc), .val (.int q), .val (.int n), .val (.int lo), .val (.int hi), .val (.int mid), .val (.int k), .val (.int sel), .val (.int t), .val (.ref b101), .val (.ref b103), .val (.ref b105), .val (.ref b116), .val (.int (1 : Int32))] [(.int t), (.ref b116)]))
        obtain ⟨cq132, kq132, q132a, q132b, q132c⟩ := isOf hZ rfl A116_h123
        obtain ⟨_, _, ⟨T132, L132, k132, n132⟩, -, X132, ⟨Lc132, hQ132, l132, y132, z132⟩, st132⟩ := X122.virtualBack hx (y := (⟨"com/example/harakeke/harakeke/model/Record", "isPrintable", "(I)Z"⟩ : MethodName)) (z := (⟨"com/example/harakeke/harakeke/model/Record", "isPrintable", "(I)Z"⟩ : MethodName)) hown (mvT hZ (hw _ (List.mem_of_getElem? (i := 50) rfl))) (mvT hZ (hw _ (List.mem_of_getElem? (i := 51) rfl))) (notFace_of_selects (args := #[]) (mvT hZ (hw _ (List.mem_of_getElem? (i := 53) rfl)))) (mvT hZ (hw _ (List.mem_of_getElem? (i := 53) rfl))) (mvT hZ (hw _ (List.mem_of_getElem? (i := 52) rfl))) (by decide) (backOf (W := 0) (rmPrint l Z a0 hw [] b116 t k b_120 kb_120 lo mid hi T122.heap O122 PunprintableCount_122 Pu_122 Qb_122 hk) hZ (hw _ (List.mem_of_getElem? (i := 54) rfl)) (hw _ (List.mem_of_getElem? (i := 11) rfl)) (by decide) (by decide)) q132a q132c (g := (mkF m 276 #[.val (.int a), .val (.int b), .val (.int cc), .val (.int q), .val (.int n), .val (.int lo), .val (.int hi), .val (.int mid), .val (.int k), .val (.int sel), .val (.int t), .val (.ref b101), .val (.ref b103), .val (.ref b105), .val (.ref b116), .val (.int (1 : Int32))] [(.int t), (.ref b116)])) rfl (by rw [hml]; rfl) (Steps.refl _) (argsL := [(.int t)]) (rest := []) (lenOf pd__I_Z rfl) rfl (by show 2 * 0 + _ ≤ _; exact Nat.le_of_eq rfl) (hb hby at_276) (fun _ _ => ⟨rfl, rfl, (by decide : 5 + 0 ≤ _), (by decide : 20 + 0 ≤ _)⟩)
        dsimp only [Pt.U, Pt.locs, Pt.cells, Pt.slots] at X132 l132 y132 z132 st132 hQ132
        subst l132 y132 z132
        obtain ⟨rfl, rfl, e132⟩ := hQ132
        have N132 := Fr.app N122 (Fr.nil _)
        refine Go.tr st132 ?_
        show Go p e below _ (T132.setTop (mkF m 279 #[.val (.int a), .val (.int b), .val (.int cc), .val (.int q), .val (.int n), .val (.int lo), .val (.int hi), .val (.int mid), .val (.int k), .val (.int sel), .val (.int t), .val (.ref b101), .val (.ref b103), .val (.ref b105), .val (.ref b116), .val (.int (1 : Int32))] [(.int (own_pr k t lo mid hi))]))
        refine Go.st (fun t' k' => XS.iload X132.here hx rfl (hb hby at_279) rfl k') ?_
        show Go p e below _ (T132.setTop (mkF m 281 #[.val (.int a), .val (.int b), .val (.int cc), .val (.int q), .val (.int n), .val (.int lo), .val (.int hi), .val (.int mid), .val (.int k), .val (.int sel), .val (.int t), .val (.ref b101), .val (.ref b103), .val (.ref b105), .val (.ref b116), .val (.int (1 : Int32))] [(.int (1 : Int32)), (.int (own_pr k t lo mid hi))]))
        refine Go.st (fun t' k' => XS.ifYes X132.here hx rfl (pc0 := 281) (pc' := 288) rfl (hb hby at_281) rfl ((if0 _ _).trans (feq (by decide : ¬ ((1 : Int32) = (0 : Int32)))).2) (by decide) (by decide) k') ?_
        show Go p e below _ (T132.setTop (mkF m 288 #[.val (.int a), .val (.int b), .val (.int cc), .val (.int q), .val (.int n), .val (.int lo), .val (.int hi), .val (.int mid), .val (.int k), .val (.int sel), .val (.int t), .val (.ref b101), .val (.ref b103), .val (.ref b105), .val (.ref b116), .val (.int (1 : Int32))] [(.int (own_pr k t lo mid hi))]))
        refine Go.st (fun t' k' => XS.iconst X132.here hx rfl (hb hby at_288) k') ?_
        show Go p e below _ (T132.setTop (mkF m 289 #[.val (.int a), .val (.int b), .val (.int cc), .val (.int q), .val (.int n), .val (.int lo), .val (.int hi), .val (.int mid), .val (.int k), .val (.int sel), .val (.int t), .val (.ref b101), .val (.ref b103), .val (.ref b105), .val (.ref b116), .val (.int (1 : Int32))] [(.int (0 : Int32)), (.int (own_pr k t lo mid hi))]))
        refine Go.st (fun t' k' => XS.icmpNo X132.here hx rfl (hb hby at_289) rfl (teq (by unfold own_pr; split; all_goals (rename_i hh); all_goals first | rfl | (exfalso; simp only [Int32.lt_iff_toInt_lt, ← Int32.toInt_inj, Int32.reduceToInt] at hh hk hc229_124 hc242_125 hc249_131; omega))).2 k') ?_
        show Go p e below _ (T132.setTop (mkF m 292 #[.val (.int a), .val (.int b), .val (.int cc), .val (.int q), .val (.int n), .val (.int lo), .val (.int hi), .val (.int mid), .val (.int k), .val (.int sel), .val (.int t), .val (.ref b101), .val (.ref b103), .val (.ref b105), .val (.ref b116), .val (.int (1 : Int32))] []))
        refine Go.st (fun t' k' => XS.iconst X132.here hx rfl (hb hby at_292) k') ?_
        show Go p e below _ (T132.setTop (mkF m 293 #[.val (.int a), .val (.int b), .val (.int cc), .val (.int q), .val (.int n), .val (.int lo), .val (.int hi), .val (.int mid), .val (.int k), .val (.int sel), .val (.int t), .val (.ref b101), .val (.ref b103), .val (.ref b105), .val (.ref b116), .val (.int (1 : Int32))] [(.int (1 : Int32))]))
        refine Go.st (fun t' k' => XS.goto X132.here hx rfl (pc0 := 293) (pc' := 297) rfl (hb hby at_293) (by decide) (by decide) k') ?_
        show Go p e below _ (T132.setTop (mkF m 297 #[.val (.int a), .val (.int b), .val (.int cc), .val (.int q), .val (.int n), .val (.int lo), .val (.int hi), .val (.int mid), .val (.int k), .val (.int sel), .val (.int t), .val (.ref b101), .val (.ref b103), .val (.ref b105), .val (.ref b116), .val (.int (1 : Int32))] [(.int (1 : Int32))]))
        exact Go.outN X132 hx hlk (t := .boolean) hret (by simp) (hb hby at_297) (Q := Q_rm0 Z a b cc q n w_NO_BYTES w_NO_NUMBERS k_B k_N h0) (by rw [e132]; exact ⟨rfl, N132⟩) (by decide) (by decide)
      · refine Go.st (fun t' k' => XS.icmpNo X122.here hx rfl (hb hby at_249) rfl (feq hc249_131).1 k') ?_
        show Go p e below _ (T122.setTop (mkF m 252 #[.val (.int a), .val (.int b), .val (.int cc), .val (.int q), .val (.int n), .val (.int lo), .val (.int hi), .val (.int mid), .val (.int k), .val (.int sel), .val (.int t), .val (.ref b101), .val (.ref b103), .val (.ref b105), .val (.ref b116), .unset] []))
        refine Go.st (fun t' k' => XS.iload X122.here hx rfl (hb hby at_252) rfl k') ?_
        show Go p e below _ (T122.setTop (mkF m 254 #[.val (.int a), .val (.int b), .val (.int cc), .val (.int q), .val (.int n), .val (.int lo), .val (.int hi), .val (.int mid), .val (.int k), .val (.int sel), .val (.int t), .val (.ref b101), .val (.ref b103), .val (.ref b105), .val (.ref b116), .unset] [(.int k)]))
        refine Go.st (fun t' k' => XS.iconst X122.here hx rfl (hb hby at_254) k') ?_
        show Go p e below _ (T122.setTop (mkF m 255 #[.val (.int a), .val (.int b), .val (.int cc), .val (.int q), .val (.int n), .val (.int lo), .val (.int hi), .val (.int mid), .val (.int k), .val (.int sel), .val (.int t), .val (.ref b101), .val (.ref b103), .val (.ref b105), .val (.ref b116), .unset] [(.int (3 : Int32)), (.int k)]))
        by_cases hc255_133 : k < (3 : Int32)
        · refine Go.st (fun t' k' => XS.icmpYes X122.here hx rfl (pc0 := 255) (pc' := 269) rfl (hb hby at_255) rfl (tlt hc255_133).1 (by decide) (by decide) k') ?_
          show Go p e below _ (T122.setTop (mkF m 269 #[.val (.int a), .val (.int b), .val (.int cc), .val (.int q), .val (.int n), .val (.int lo), .val (.int hi), .val (.int mid), .val (.int k), .val (.int sel), .val (.int t), .val (.ref b101), .val (.ref b103), .val (.ref b105), .val (.ref b116), .unset] []))
          refine Go.st (fun t' k' => XS.iconst X122.here hx rfl (hb hby at_269) k') ?_
          show Go p e below _ (T122.setTop (mkF m 270 #[.val (.int a), .val (.int b), .val (.int cc), .val (.int q), .val (.int n), .val (.int lo), .val (.int hi), .val (.int mid), .val (.int k), .val (.int sel), .val (.int t), .val (.ref b101), .val (.ref b103), .val (.ref b105), .val (.ref b116), .unset] [(.int (0 : Int32))]))
          refine Go.st (fun t' k' => XS.istore X122.here hx rfl (hb hby at_270) rfl (l' := #[.val (.int a), .val (.int b), .val (.int cc), .val (.int q), .val (.int n), .val (.int lo), .val (.int hi), .val (.int mid), .val (.int k), .val (.int sel), .val (.int t), .val (.ref b101), .val (.ref b103), .val (.ref b105), .val (.ref b116), .val (.int (0 : Int32))]) rfl k') ?_
          show Go p e below _ (T122.setTop (mkF m 272 #[.val (.int a), .val (.int b), .val (.int cc), .val (.int q), .val (.int n), .val (.int lo), .val (.int hi), .val (.int mid), .val (.int k), .val (.int sel), .val (.int t), .val (.ref b101), .val (.ref b103), .val (.ref b105), .val (.ref b116), .val (.int (0 : Int32))] []))
          refine Go.st (fun t' k' => XS.aload X122.here hx rfl (hb hby at_272) rfl rfl k') ?_
          show Go p e below _ (T122.setTop (mkF m 274 #[.val (.int a), .val (.int b), .val (.int cc), .val (.int q), .val (.int n), .val (.int lo), .val (.int hi), .val (.int mid), .val (.int k), .val (.int sel), .val (.int t), .val (.ref b101), .val (.ref b103), .val (.ref b105), .val (.ref b116), .val (.int (0 : Int32))] [(.ref b116)]))
          refine Go.st (fun t' k' => XS.iload X122.here hx rfl (hb hby at_274) rfl k') ?_
          show Go p e below _ (T122.setTop (mkF m 276 #[.val (.int a), .val (.int b), .val (.int cc), .val (.int q), .val (.int n), .val (.int lo), .val (.int hi), .val (.int mid), .val (.int k), .val (.int sel), .val (.int t), .val (.ref b101), .val (.ref b103), .val (.ref b105), .val (.ref b116), .val (.int (0 : Int32))] [(.int t), (.ref b116)]))
          obtain ⟨cq134, kq134, q134a, q134b, q134c⟩ := isOf hZ rfl A116_h123
          obtain ⟨_, _, ⟨T134, L134, k134, n134⟩, -, X134, ⟨Lc134, hQ134, l134, y134, z134⟩, st134⟩ := X122.virtualBack hx (y := (⟨"com/example/harakeke/harakeke/model/Record", "isPrintable", "(I)Z"⟩ : MethodName)) (z := (⟨"com/example/harakeke/harakeke/model/Record", "isPrintable", "(I)Z"⟩ : MethodName)) hown (mvT hZ (hw _ (List.mem_of_getElem? (i := 50) rfl))) (mvT hZ (hw _ (List.mem_of_getElem? (i := 51) rfl))) (notFace_of_selects (args := #[]) (mvT hZ (hw _ (List.mem_of_getElem? (i := 53) rfl)))) (mvT hZ (hw _ (List.mem_of_getElem? (i := 53) rfl))) (mvT hZ (hw _ (List.mem_of_getElem? (i := 52) rfl))) (by decide) (backOf (W := 0) (rmPrint l Z a0 hw [] b116 t k b_120 kb_120 lo mid hi T122.heap O122 PunprintableCount_122 Pu_122 Qb_122 hk) hZ (hw _ (List.mem_of_getElem? (i := 54) rfl)) (hw _ (List.mem_of_getElem? (i := 11) rfl)) (by decide) (by decide)) q134a q134c (g := (mkF m 276 #[.val (.int a), .val (.int b), .val (.int cc), .val (.int q), .val (.int n), .val (.int lo), .val (.int hi), .val (.int mid), .val (.int k), .val (.int sel), .val (.int t), .val (.ref b101), .val (.ref b103), .val (.ref b105), .val (.ref b116), .val (.int (0 : Int32))] [(.int t), (.ref b116)])) rfl (by rw [hml]; rfl) (Steps.refl _) (argsL := [(.int t)]) (rest := []) (lenOf pd__I_Z rfl) rfl (by show 2 * 0 + _ ≤ _; exact Nat.le_of_eq rfl) (hb hby at_276) (fun _ _ => ⟨rfl, rfl, (by decide : 5 + 0 ≤ _), (by decide : 20 + 0 ≤ _)⟩)
          dsimp only [Pt.U, Pt.locs, Pt.cells, Pt.slots] at X134 l134 y134 z134 st134 hQ134
          subst l134 y134 z134
          obtain ⟨rfl, rfl, e134⟩ := hQ134
          have N134 := Fr.app N122 (Fr.nil _)
          refine Go.tr st134 ?_
          show Go p e below _ (T134.setTop (mkF m 279 #[.val (.int a), .val (.int b), .val (.int cc), .val (.int q), .val (.int n), .val (.int lo), .val (.int hi), .val (.int mid), .val (.int k), .val (.int sel), .val (.int t), .val (.ref b101), .val (.ref b103), .val (.ref b105), .val (.ref b116), .val (.int (0 : Int32))] [(.int (own_pr k t lo mid hi))]))
          refine Go.st (fun t' k' => XS.iload X134.here hx rfl (hb hby at_279) rfl k') ?_
          show Go p e below _ (T134.setTop (mkF m 281 #[.val (.int a), .val (.int b), .val (.int cc), .val (.int q), .val (.int n), .val (.int lo), .val (.int hi), .val (.int mid), .val (.int k), .val (.int sel), .val (.int t), .val (.ref b101), .val (.ref b103), .val (.ref b105), .val (.ref b116), .val (.int (0 : Int32))] [(.int (0 : Int32)), (.int (own_pr k t lo mid hi))]))
          refine Go.st (fun t' k' => XS.ifNo X134.here hx rfl (hb hby at_281) rfl ((if0 _ _).trans (teq (by decide : (0 : Int32) = (0 : Int32))).2) k') ?_
          show Go p e below _ (T134.setTop (mkF m 284 #[.val (.int a), .val (.int b), .val (.int cc), .val (.int q), .val (.int n), .val (.int lo), .val (.int hi), .val (.int mid), .val (.int k), .val (.int sel), .val (.int t), .val (.ref b101), .val (.ref b103), .val (.ref b105), .val (.ref b116), .val (.int (0 : Int32))] [(.int (own_pr k t lo mid hi))]))
          refine Go.st (fun t' k' => XS.iconst X134.here hx rfl (hb hby at_284) k') ?_
          show Go p e below _ (T134.setTop (mkF m 285 #[.val (.int a), .val (.int b), .val (.int cc), .val (.int q), .val (.int n), .val (.int lo), .val (.int hi), .val (.int mid), .val (.int k), .val (.int sel), .val (.int t), .val (.ref b101), .val (.ref b103), .val (.ref b105), .val (.ref b116), .val (.int (0 : Int32))] [(.int (1 : Int32)), (.int (own_pr k t lo mid hi))]))
          refine Go.st (fun t' k' => XS.goto X134.here hx rfl (pc0 := 285) (pc' := 289) rfl (hb hby at_285) (by decide) (by decide) k') ?_
          show Go p e below _ (T134.setTop (mkF m 289 #[.val (.int a), .val (.int b), .val (.int cc), .val (.int q), .val (.int n), .val (.int lo), .val (.int hi), .val (.int mid), .val (.int k), .val (.int sel), .val (.int t), .val (.ref b101), .val (.ref b103), .val (.ref b105), .val (.ref b116), .val (.int (0 : Int32))] [(.int (1 : Int32)), (.int (own_pr k t lo mid hi))]))
          refine Go.st (fun t' k' => XS.icmpNo X134.here hx rfl (hb hby at_289) rfl (teq (by unfold own_pr; split; all_goals (rename_i hh); all_goals first | rfl | (exfalso; simp only [Int32.lt_iff_toInt_lt, ← Int32.toInt_inj, Int32.reduceToInt] at hh hk hc229_124 hc242_125 hc249_131 hc255_133; omega))).2 k') ?_
          show Go p e below _ (T134.setTop (mkF m 292 #[.val (.int a), .val (.int b), .val (.int cc), .val (.int q), .val (.int n), .val (.int lo), .val (.int hi), .val (.int mid), .val (.int k), .val (.int sel), .val (.int t), .val (.ref b101), .val (.ref b103), .val (.ref b105), .val (.ref b116), .val (.int (0 : Int32))] []))
          refine Go.st (fun t' k' => XS.iconst X134.here hx rfl (hb hby at_292) k') ?_
          show Go p e below _ (T134.setTop (mkF m 293 #[.val (.int a), .val (.int b), .val (.int cc), .val (.int q), .val (.int n), .val (.int lo), .val (.int hi), .val (.int mid), .val (.int k), .val (.int sel), .val (.int t), .val (.ref b101), .val (.ref b103), .val (.ref b105), .val (.ref b116), .val (.int (0 : Int32))] [(.int (1 : Int32))]))
          refine Go.st (fun t' k' => XS.goto X134.here hx rfl (pc0 := 293) (pc' := 297) rfl (hb hby at_293) (by decide) (by decide) k') ?_
          show Go p e below _ (T134.setTop (mkF m 297 #[.val (.int a), .val (.int b), .val (.int cc), .val (.int q), .val (.int n), .val (.int lo), .val (.int hi), .val (.int mid), .val (.int k), .val (.int sel), .val (.int t), .val (.ref b101), .val (.ref b103), .val (.ref b105), .val (.ref b116), .val (.int (0 : Int32))] [(.int (1 : Int32))]))
          exact Go.outN X134 hx hlk (t := .boolean) hret (by simp) (hb hby at_297) (Q := Q_rm0 Z a b cc q n w_NO_BYTES w_NO_NUMBERS k_B k_N h0) (by rw [e134]; exact ⟨rfl, N134⟩) (by decide) (by decide)
        · refine Go.st (fun t' k' => XS.icmpNo X122.here hx rfl (hb hby at_255) rfl (flt hc255_133).1 k') ?_
          show Go p e below _ (T122.setTop (mkF m 258 #[.val (.int a), .val (.int b), .val (.int cc), .val (.int q), .val (.int n), .val (.int lo), .val (.int hi), .val (.int mid), .val (.int k), .val (.int sel), .val (.int t), .val (.ref b101), .val (.ref b103), .val (.ref b105), .val (.ref b116), .unset] []))
          refine Go.st (fun t' k' => XS.iload X122.here hx rfl (hb hby at_258) rfl k') ?_
          show Go p e below _ (T122.setTop (mkF m 260 #[.val (.int a), .val (.int b), .val (.int cc), .val (.int q), .val (.int n), .val (.int lo), .val (.int hi), .val (.int mid), .val (.int k), .val (.int sel), .val (.int t), .val (.ref b101), .val (.ref b103), .val (.ref b105), .val (.ref b116), .unset] [(.int t)]))
          refine Go.st (fun t' k' => XS.iload X122.here hx rfl (hb hby at_260) rfl k') ?_
          show Go p e below _ (T122.setTop (mkF m 262 #[.val (.int a), .val (.int b), .val (.int cc), .val (.int q), .val (.int n), .val (.int lo), .val (.int hi), .val (.int mid), .val (.int k), .val (.int sel), .val (.int t), .val (.ref b101), .val (.ref b103), .val (.ref b105), .val (.ref b116), .unset] [(.int hi), (.int t)]))
          by_cases hc262_135 : t = hi
          · refine Go.st (fun t' k' => XS.icmpNo X122.here hx rfl (hb hby at_262) rfl (teq hc262_135).2 k') ?_
            show Go p e below _ (T122.setTop (mkF m 265 #[.val (.int a), .val (.int b), .val (.int cc), .val (.int q), .val (.int n), .val (.int lo), .val (.int hi), .val (.int mid), .val (.int k), .val (.int sel), .val (.int t), .val (.ref b101), .val (.ref b103), .val (.ref b105), .val (.ref b116), .unset] []))
            refine Go.st (fun t' k' => XS.iconst X122.here hx rfl (hb hby at_265) k') ?_
            show Go p e below _ (T122.setTop (mkF m 266 #[.val (.int a), .val (.int b), .val (.int cc), .val (.int q), .val (.int n), .val (.int lo), .val (.int hi), .val (.int mid), .val (.int k), .val (.int sel), .val (.int t), .val (.ref b101), .val (.ref b103), .val (.ref b105), .val (.ref b116), .unset] [(.int (1 : Int32))]))
            refine Go.st (fun t' k' => XS.goto X122.here hx rfl (pc0 := 266) (pc' := 270) rfl (hb hby at_266) (by decide) (by decide) k') ?_
            show Go p e below _ (T122.setTop (mkF m 270 #[.val (.int a), .val (.int b), .val (.int cc), .val (.int q), .val (.int n), .val (.int lo), .val (.int hi), .val (.int mid), .val (.int k), .val (.int sel), .val (.int t), .val (.ref b101), .val (.ref b103), .val (.ref b105), .val (.ref b116), .unset] [(.int (1 : Int32))]))
            refine Go.st (fun t' k' => XS.istore X122.here hx rfl (hb hby at_270) rfl (l' := #[.val (.int a), .val (.int b), .val (.int cc), .val (.int q), .val (.int n), .val (.int lo), .val (.int hi), .val (.int mid), .val (.int k), .val (.int sel), .val (.int t), .val (.ref b101), .val (.ref b103), .val (.ref b105), .val (.ref b116), .val (.int (1 : Int32))]) rfl k') ?_
            show Go p e below _ (T122.setTop (mkF m 272 #[.val (.int a), .val (.int b), .val (.int cc), .val (.int q), .val (.int n), .val (.int lo), .val (.int hi), .val (.int mid), .val (.int k), .val (.int sel), .val (.int t), .val (.ref b101), .val (.ref b103), .val (.ref b105), .val (.ref b116), .val (.int (1 : Int32))] []))
            refine Go.st (fun t' k' => XS.aload X122.here hx rfl (hb hby at_272) rfl rfl k') ?_
            show Go p e below _ (T122.setTop (mkF m 274 #[.val (.int a), .val (.int b), .val (.int cc), .val (.int q), .val (.int n), .val (.int lo), .val (.int hi), .val (.int mid), .val (.int k), .val (.int sel), .val (.int t), .val (.ref b101), .val (.ref b103), .val (.ref b105), .val (.ref b116), .val (.int (1 : Int32))] [(.ref b116)]))
            refine Go.st (fun t' k' => XS.iload X122.here hx rfl (hb hby at_274) rfl k') ?_
            show Go p e below _ (T122.setTop (mkF m 276 #[.val (.int a), .val (.int b), .val (.int cc), .val (.int q), .val (.int n), .val (.int lo), .val (.int hi), .val (.int mid), .val (.int k), .val (.int sel), .val (.int t), .val (.ref b101), .val (.ref b103), .val (.ref b105), .val (.ref b116), .val (.int (1 : Int32))] [(.int t), (.ref b116)]))
            obtain ⟨cq136, kq136, q136a, q136b, q136c⟩ := isOf hZ rfl A116_h123
            obtain ⟨_, _, ⟨T136, L136, k136, n136⟩, -, X136, ⟨Lc136, hQ136, l136, y136, z136⟩, st136⟩ := X122.virtualBack hx (y := (⟨"com/example/harakeke/harakeke/model/Record", "isPrintable", "(I)Z"⟩ : MethodName)) (z := (⟨"com/example/harakeke/harakeke/model/Record", "isPrintable", "(I)Z"⟩ : MethodName)) hown (mvT hZ (hw _ (List.mem_of_getElem? (i := 50) rfl))) (mvT hZ (hw _ (List.mem_of_getElem? (i := 51) rfl))) (notFace_of_selects (args := #[]) (mvT hZ (hw _ (List.mem_of_getElem? (i := 53) rfl)))) (mvT hZ (hw _ (List.mem_of_getElem? (i := 53) rfl))) (mvT hZ (hw _ (List.mem_of_getElem? (i := 52) rfl))) (by decide) (backOf (W := 0) (rmPrint l Z a0 hw [] b116 t k b_120 kb_120 lo mid hi T122.heap O122 PunprintableCount_122 Pu_122 Qb_122 hk) hZ (hw _ (List.mem_of_getElem? (i := 54) rfl)) (hw _ (List.mem_of_getElem? (i := 11) rfl)) (by decide) (by decide)) q136a q136c (g := (mkF m 276 #[.val (.int a), .val (.int b), .val (.int cc), .val (.int q), .val (.int n), .val (.int lo), .val (.int hi), .val (.int mid), .val (.int k), .val (.int sel), .val (.int t), .val (.ref b101), .val (.ref b103), .val (.ref b105), .val (.ref b116), .val (.int (1 : Int32))] [(.int t), (.ref b116)])) rfl (by rw [hml]; rfl) (Steps.refl _) (argsL := [(.int t)]) (rest := []) (lenOf pd__I_Z rfl) rfl (by show 2 * 0 + _ ≤ _; exact Nat.le_of_eq rfl) (hb hby at_276) (fun _ _ => ⟨rfl, rfl, (by decide : 5 + 0 ≤ _), (by decide : 20 + 0 ≤ _)⟩)
            dsimp only [Pt.U, Pt.locs, Pt.cells, Pt.slots] at X136 l136 y136 z136 st136 hQ136
            subst l136 y136 z136
            obtain ⟨rfl, rfl, e136⟩ := hQ136
            have N136 := Fr.app N122 (Fr.nil _)
            refine Go.tr st136 ?_
            show Go p e below _ (T136.setTop (mkF m 279 #[.val (.int a), .val (.int b), .val (.int cc), .val (.int q), .val (.int n), .val (.int lo), .val (.int hi), .val (.int mid), .val (.int k), .val (.int sel), .val (.int t), .val (.ref b101), .val (.ref b103), .val (.ref b105), .val (.ref b116), .val (.int (1 : Int32))] [(.int (own_pr k t lo mid hi))]))
            refine Go.st (fun t' k' => XS.iload X136.here hx rfl (hb hby at_279) rfl k') ?_
            show Go p e below _ (T136.setTop (mkF m 281 #[.val (.int a), .val (.int b), .val (.int cc), .val (.int q), .val (.int n), .val (.int lo), .val (.int hi), .val (.int mid), .val (.int k), .val (.int sel), .val (.int t), .val (.ref b101), .val (.ref b103), .val (.ref b105), .val (.ref b116), .val (.int (1 : Int32))] [(.int (1 : Int32)), (.int (own_pr k t lo mid hi))]))
            refine Go.st (fun t' k' => XS.ifYes X136.here hx rfl (pc0 := 281) (pc' := 288) rfl (hb hby at_281) rfl ((if0 _ _).trans (feq (by decide : ¬ ((1 : Int32) = (0 : Int32)))).2) (by decide) (by decide) k') ?_
            show Go p e below _ (T136.setTop (mkF m 288 #[.val (.int a), .val (.int b), .val (.int cc), .val (.int q), .val (.int n), .val (.int lo), .val (.int hi), .val (.int mid), .val (.int k), .val (.int sel), .val (.int t), .val (.ref b101), .val (.ref b103), .val (.ref b105), .val (.ref b116), .val (.int (1 : Int32))] [(.int (own_pr k t lo mid hi))]))
            refine Go.st (fun t' k' => XS.iconst X136.here hx rfl (hb hby at_288) k') ?_
            show Go p e below _ (T136.setTop (mkF m 289 #[.val (.int a), .val (.int b), .val (.int cc), .val (.int q), .val (.int n), .val (.int lo), .val (.int hi), .val (.int mid), .val (.int k), .val (.int sel), .val (.int t), .val (.ref b101), .val (.ref b103), .val (.ref b105), .val (.ref b116), .val (.int (1 : Int32))] [(.int (0 : Int32)), (.int (own_pr k t lo mid hi))]))
            refine Go.st (fun t' k' => XS.icmpNo X136.here hx rfl (hb hby at_289) rfl (teq (by unfold own_pr; split; all_goals (rename_i hh); all_goals first | rfl | (exfalso; simp only [Int32.lt_iff_toInt_lt, ← Int32.toInt_inj, Int32.reduceToInt] at hh hk hc229_124 hc242_125 hc249_131 hc255_133 hc262_135; omega))).2 k') ?_
            show Go p e below _ (T136.setTop (mkF m 292 #[.val (.int a), .val (.int b), .val (.int cc), .val (.int q), .val (.int n), .val (.int lo), .val (.int hi), .val (.int mid), .val (.int k), .val (.int sel), .val (.int t), .val (.ref b101), .val (.ref b103), .val (.ref b105), .val (.ref b116), .val (.int (1 : Int32))] []))
            refine Go.st (fun t' k' => XS.iconst X136.here hx rfl (hb hby at_292) k') ?_
            show Go p e below _ (T136.setTop (mkF m 293 #[.val (.int a), .val (.int b), .val (.int cc), .val (.int q), .val (.int n), .val (.int lo), .val (.int hi), .val (.int mid), .val (.int k), .val (.int sel), .val (.int t), .val (.ref b101), .val (.ref b103), .val (.ref b105), .val (.ref b116), .val (.int (1 : Int32))] [(.int (1 : Int32))]))
            refine Go.st (fun t' k' => XS.goto X136.here hx rfl (pc0 := 293) (pc' := 297) rfl (hb hby at_293) (by decide) (by decide) k') ?_
            show Go p e below _ (T136.setTop (mkF m 297 #[.val (.int a), .val (.int b), .val (.int cc), .val (.int q), .val (.int n), .val (.int lo), .val (.int hi), .val (.int mid), .val (.int k), .val (.int sel), .val (.int t), .val (.ref b101), .val (.ref b103), .val (.ref b105), .val (.ref b116), .val (.int (1 : Int32))] [(.int (1 : Int32))]))
            exact Go.outN X136 hx hlk (t := .boolean) hret (by simp) (hb hby at_297) (Q := Q_rm0 Z a b cc q n w_NO_BYTES w_NO_NUMBERS k_B k_N h0) (by rw [e136]; exact ⟨rfl, N136⟩) (by decide) (by decide)
          · refine Go.st (fun t' k' => XS.icmpYes X122.here hx rfl (pc0 := 262) (pc' := 269) rfl (hb hby at_262) rfl (feq hc262_135).2 (by decide) (by decide) k') ?_
            show Go p e below _ (T122.setTop (mkF m 269 #[.val (.int a), .val (.int b), .val (.int cc), .val (.int q), .val (.int n), .val (.int lo), .val (.int hi), .val (.int mid), .val (.int k), .val (.int sel), .val (.int t), .val (.ref b101), .val (.ref b103), .val (.ref b105), .val (.ref b116), .unset] []))
            refine Go.st (fun t' k' => XS.iconst X122.here hx rfl (hb hby at_269) k') ?_
            show Go p e below _ (T122.setTop (mkF m 270 #[.val (.int a), .val (.int b), .val (.int cc), .val (.int q), .val (.int n), .val (.int lo), .val (.int hi), .val (.int mid), .val (.int k), .val (.int sel), .val (.int t), .val (.ref b101), .val (.ref b103), .val (.ref b105), .val (.ref b116), .unset] [(.int (0 : Int32))]))
            refine Go.st (fun t' k' => XS.istore X122.here hx rfl (hb hby at_270) rfl (l' := #[.val (.int a), .val (.int b), .val (.int cc), .val (.int q), .val (.int n), .val (.int lo), .val (.int hi), .val (.int mid), .val (.int k), .val (.int sel), .val (.int t), .val (.ref b101), .val (.ref b103), .val (.ref b105), .val (.ref b116), .val (.int (0 : Int32))]) rfl k') ?_
            show Go p e below _ (T122.setTop (mkF m 272 #[.val (.int a), .val (.int b), .val (.int cc), .val (.int q), .val (.int n), .val (.int lo), .val (.int hi), .val (.int mid), .val (.int k), .val (.int sel), .val (.int t), .val (.ref b101), .val (.ref b103), .val (.ref b105), .val (.ref b116), .val (.int (0 : Int32))] []))
            refine Go.st (fun t' k' => XS.aload X122.here hx rfl (hb hby at_272) rfl rfl k') ?_
            show Go p e below _ (T122.setTop (mkF m 274 #[.val (.int a), .val (.int b), .val (.int cc), .val (.int q), .val (.int n), .val (.int lo), .val (.int hi), .val (.int mid), .val (.int k), .val (.int sel), .val (.int t), .val (.ref b101), .val (.ref b103), .val (.ref b105), .val (.ref b116), .val (.int (0 : Int32))] [(.ref b116)]))
            refine Go.st (fun t' k' => XS.iload X122.here hx rfl (hb hby at_274) rfl k') ?_
            show Go p e below _ (T122.setTop (mkF m 276 #[.val (.int a), .val (.int b), .val (.int cc), .val (.int q), .val (.int n), .val (.int lo), .val (.int hi), .val (.int mid), .val (.int k), .val (.int sel), .val (.int t), .val (.ref b101), .val (.ref b103), .val (.ref b105), .val (.ref b116), .val (.int (0 : Int32))] [(.int t), (.ref b116)]))
            obtain ⟨cq137, kq137, q137a, q137b, q137c⟩ := isOf hZ rfl A116_h123
            obtain ⟨_, _, ⟨T137, L137, k137, n137⟩, -, X137, ⟨Lc137, hQ137, l137, y137, z137⟩, st137⟩ := X122.virtualBack hx (y := (⟨"com/example/harakeke/harakeke/model/Record", "isPrintable", "(I)Z"⟩ : MethodName)) (z := (⟨"com/example/harakeke/harakeke/model/Record", "isPrintable", "(I)Z"⟩ : MethodName)) hown (mvT hZ (hw _ (List.mem_of_getElem? (i := 50) rfl))) (mvT hZ (hw _ (List.mem_of_getElem? (i := 51) rfl))) (notFace_of_selects (args := #[]) (mvT hZ (hw _ (List.mem_of_getElem? (i := 53) rfl)))) (mvT hZ (hw _ (List.mem_of_getElem? (i := 53) rfl))) (mvT hZ (hw _ (List.mem_of_getElem? (i := 52) rfl))) (by decide) (backOf (W := 0) (rmPrint l Z a0 hw [] b116 t k b_120 kb_120 lo mid hi T122.heap O122 PunprintableCount_122 Pu_122 Qb_122 hk) hZ (hw _ (List.mem_of_getElem? (i := 54) rfl)) (hw _ (List.mem_of_getElem? (i := 11) rfl)) (by decide) (by decide)) q137a q137c (g := (mkF m 276 #[.val (.int a), .val (.int b), .val (.int cc), .val (.int q), .val (.int n), .val (.int lo), .val (.int hi), .val (.int mid), .val (.int k), .val (.int sel), .val (.int t), .val (.ref b101), .val (.ref b103), .val (.ref b105), .val (.ref b116), .val (.int (0 : Int32))] [(.int t), (.ref b116)])) rfl (by rw [hml]; rfl) (Steps.refl _) (argsL := [(.int t)]) (rest := []) (lenOf pd__I_Z rfl) rfl (by show 2 * 0 + _ ≤ _; exact Nat.le_of_eq rfl) (hb hby at_276) (fun _ _ => ⟨rfl, rfl, (by decide : 5 + 0 ≤ _), (by decide : 20 + 0 ≤ _)⟩)
            dsimp only [Pt.U, Pt.locs, Pt.cells, Pt.slots] at X137 l137 y137 z137 st137 hQ137
            subst l137 y137 z137
            obtain ⟨rfl, rfl, e137⟩ := hQ137
            have N137 := Fr.app N122 (Fr.nil _)
            refine Go.tr st137 ?_
            show Go p e below _ (T137.setTop (mkF m 279 #[.val (.int a), .val (.int b), .val (.int cc), .val (.int q), .val (.int n), .val (.int lo), .val (.int hi), .val (.int mid), .val (.int k), .val (.int sel), .val (.int t), .val (.ref b101), .val (.ref b103), .val (.ref b105), .val (.ref b116), .val (.int (0 : Int32))] [(.int (own_pr k t lo mid hi))]))
            refine Go.st (fun t' k' => XS.iload X137.here hx rfl (hb hby at_279) rfl k') ?_
            show Go p e below _ (T137.setTop (mkF m 281 #[.val (.int a), .val (.int b), .val (.int cc), .val (.int q), .val (.int n), .val (.int lo), .val (.int hi), .val (.int mid), .val (.int k), .val (.int sel), .val (.int t), .val (.ref b101), .val (.ref b103), .val (.ref b105), .val (.ref b116), .val (.int (0 : Int32))] [(.int (0 : Int32)), (.int (own_pr k t lo mid hi))]))
            refine Go.st (fun t' k' => XS.ifNo X137.here hx rfl (hb hby at_281) rfl ((if0 _ _).trans (teq (by decide : (0 : Int32) = (0 : Int32))).2) k') ?_
            show Go p e below _ (T137.setTop (mkF m 284 #[.val (.int a), .val (.int b), .val (.int cc), .val (.int q), .val (.int n), .val (.int lo), .val (.int hi), .val (.int mid), .val (.int k), .val (.int sel), .val (.int t), .val (.ref b101), .val (.ref b103), .val (.ref b105), .val (.ref b116), .val (.int (0 : Int32))] [(.int (own_pr k t lo mid hi))]))
            refine Go.st (fun t' k' => XS.iconst X137.here hx rfl (hb hby at_284) k') ?_
            show Go p e below _ (T137.setTop (mkF m 285 #[.val (.int a), .val (.int b), .val (.int cc), .val (.int q), .val (.int n), .val (.int lo), .val (.int hi), .val (.int mid), .val (.int k), .val (.int sel), .val (.int t), .val (.ref b101), .val (.ref b103), .val (.ref b105), .val (.ref b116), .val (.int (0 : Int32))] [(.int (1 : Int32)), (.int (own_pr k t lo mid hi))]))
            refine Go.st (fun t' k' => XS.goto X137.here hx rfl (pc0 := 285) (pc' := 289) rfl (hb hby at_285) (by decide) (by decide) k') ?_
            show Go p e below _ (T137.setTop (mkF m 289 #[.val (.int a), .val (.int b), .val (.int cc), .val (.int q), .val (.int n), .val (.int lo), .val (.int hi), .val (.int mid), .val (.int k), .val (.int sel), .val (.int t), .val (.ref b101), .val (.ref b103), .val (.ref b105), .val (.ref b116), .val (.int (0 : Int32))] [(.int (1 : Int32)), (.int (own_pr k t lo mid hi))]))
            refine Go.st (fun t' k' => XS.icmpNo X137.here hx rfl (hb hby at_289) rfl (teq (by unfold own_pr; split; all_goals (rename_i hh); all_goals first | rfl | (exfalso; simp only [Int32.lt_iff_toInt_lt, ← Int32.toInt_inj, Int32.reduceToInt] at hh hk hc229_124 hc242_125 hc249_131 hc255_133 hc262_135; omega))).2 k') ?_
            show Go p e below _ (T137.setTop (mkF m 292 #[.val (.int a), .val (.int b), .val (.int cc), .val (.int q), .val (.int n), .val (.int lo), .val (.int hi), .val (.int mid), .val (.int k), .val (.int sel), .val (.int t), .val (.ref b101), .val (.ref b103), .val (.ref b105), .val (.ref b116), .val (.int (0 : Int32))] []))
            refine Go.st (fun t' k' => XS.iconst X137.here hx rfl (hb hby at_292) k') ?_
            show Go p e below _ (T137.setTop (mkF m 293 #[.val (.int a), .val (.int b), .val (.int cc), .val (.int q), .val (.int n), .val (.int lo), .val (.int hi), .val (.int mid), .val (.int k), .val (.int sel), .val (.int t), .val (.ref b101), .val (.ref b103), .val (.ref b105), .val (.ref b116), .val (.int (0 : Int32))] [(.int (1 : Int32))]))
            refine Go.st (fun t' k' => XS.goto X137.here hx rfl (pc0 := 293) (pc' := 297) rfl (hb hby at_293) (by decide) (by decide) k') ?_
            show Go p e below _ (T137.setTop (mkF m 297 #[.val (.int a), .val (.int b), .val (.int cc), .val (.int q), .val (.int n), .val (.int lo), .val (.int hi), .val (.int mid), .val (.int k), .val (.int sel), .val (.int t), .val (.ref b101), .val (.ref b103), .val (.ref b105), .val (.ref b116), .val (.int (0 : Int32))] [(.int (1 : Int32))]))
            exact Go.outN X137 hx hlk (t := .boolean) hret (by simp) (hb hby at_297) (Q := Q_rm0 Z a b cc q n w_NO_BYTES w_NO_NUMBERS k_B k_N h0) (by rw [e137]; exact ⟨rfl, N137⟩) (by decide) (by decide)
  · refine Go.st (fun t' k' => XS.icmpNo X122.here hx rfl (hb hby at_229) rfl (flt hc229_124).1 k') ?_
    show Go p e below _ (T122.setTop (mkF m 232 #[.val (.int a), .val (.int b), .val (.int cc), .val (.int q), .val (.int n), .val (.int lo), .val (.int hi), .val (.int mid), .val (.int k), .val (.int sel), .val (.int t), .val (.ref b101), .val (.ref b103), .val (.ref b105), .val (.ref b116), .unset] []))
    refine Go.st (fun t' k' => XS.iload X122.here hx rfl (hb hby at_232) rfl k') ?_
    show Go p e below _ (T122.setTop (mkF m 234 #[.val (.int a), .val (.int b), .val (.int cc), .val (.int q), .val (.int n), .val (.int lo), .val (.int hi), .val (.int mid), .val (.int k), .val (.int sel), .val (.int t), .val (.ref b101), .val (.ref b103), .val (.ref b105), .val (.ref b116), .unset] [(.int t)]))
    refine Go.st (fun t' k' => XS.iload X122.here hx rfl (hb hby at_234) rfl k') ?_
    show Go p e below _ (T122.setTop (mkF m 236 #[.val (.int a), .val (.int b), .val (.int cc), .val (.int q), .val (.int n), .val (.int lo), .val (.int hi), .val (.int mid), .val (.int k), .val (.int sel), .val (.int t), .val (.ref b101), .val (.ref b103), .val (.ref b105), .val (.ref b116), .unset] [(.int lo), (.int t)]))
    by_cases hc236_138 : t = lo
    · refine Go.st (fun t' k' => XS.icmpYes X122.here hx rfl (pc0 := 236) (pc' := 265) rfl (hb hby at_236) rfl (teq hc236_138).1 (by decide) (by decide) k') ?_
      show Go p e below _ (T122.setTop (mkF m 265 #[.val (.int a), .val (.int b), .val (.int cc), .val (.int q), .val (.int n), .val (.int lo), .val (.int hi), .val (.int mid), .val (.int k), .val (.int sel), .val (.int t), .val (.ref b101), .val (.ref b103), .val (.ref b105), .val (.ref b116), .unset] []))
      refine Go.st (fun t' k' => XS.iconst X122.here hx rfl (hb hby at_265) k') ?_
      show Go p e below _ (T122.setTop (mkF m 266 #[.val (.int a), .val (.int b), .val (.int cc), .val (.int q), .val (.int n), .val (.int lo), .val (.int hi), .val (.int mid), .val (.int k), .val (.int sel), .val (.int t), .val (.ref b101), .val (.ref b103), .val (.ref b105), .val (.ref b116), .unset] [(.int (1 : Int32))]))
      refine Go.st (fun t' k' => XS.goto X122.here hx rfl (pc0 := 266) (pc' := 270) rfl (hb hby at_266) (by decide) (by decide) k') ?_
      show Go p e below _ (T122.setTop (mkF m 270 #[.val (.int a), .val (.int b), .val (.int cc), .val (.int q), .val (.int n), .val (.int lo), .val (.int hi), .val (.int mid), .val (.int k), .val (.int sel), .val (.int t), .val (.ref b101), .val (.ref b103), .val (.ref b105), .val (.ref b116), .unset] [(.int (1 : Int32))]))
      refine Go.st (fun t' k' => XS.istore X122.here hx rfl (hb hby at_270) rfl (l' := #[.val (.int a), .val (.int b), .val (.int cc), .val (.int q), .val (.int n), .val (.int lo), .val (.int hi), .val (.int mid), .val (.int k), .val (.int sel), .val (.int t), .val (.ref b101), .val (.ref b103), .val (.ref b105), .val (.ref b116), .val (.int (1 : Int32))]) rfl k') ?_
      show Go p e below _ (T122.setTop (mkF m 272 #[.val (.int a), .val (.int b), .val (.int cc), .val (.int q), .val (.int n), .val (.int lo), .val (.int hi), .val (.int mid), .val (.int k), .val (.int sel), .val (.int t), .val (.ref b101), .val (.ref b103), .val (.ref b105), .val (.ref b116), .val (.int (1 : Int32))] []))
      refine Go.st (fun t' k' => XS.aload X122.here hx rfl (hb hby at_272) rfl rfl k') ?_
      show Go p e below _ (T122.setTop (mkF m 274 #[.val (.int a), .val (.int b), .val (.int cc), .val (.int q), .val (.int n), .val (.int lo), .val (.int hi), .val (.int mid), .val (.int k), .val (.int sel), .val (.int t), .val (.ref b101), .val (.ref b103), .val (.ref b105), .val (.ref b116), .val (.int (1 : Int32))] [(.ref b116)]))
      refine Go.st (fun t' k' => XS.iload X122.here hx rfl (hb hby at_274) rfl k') ?_
      show Go p e below _ (T122.setTop (mkF m 276 #[.val (.int a), .val (.int b), .val (.int cc), .val (.int q), .val (.int n), .val (.int lo), .val (.int hi), .val (.int mid), .val (.int k), .val (.int sel), .val (.int t), .val (.ref b101), .val (.ref b103), .val (.ref b105), .val (.ref b116), .val (.int (1 : Int32))] [(.int t), (.ref b116)]))
      obtain ⟨cq139, kq139, q139a, q139b, q139c⟩ := isOf hZ rfl A116_h123
      obtain ⟨_, _, ⟨T139, L139, k139, n139⟩, -, X139, ⟨Lc139, hQ139, l139, y139, z139⟩, st139⟩ := X122.virtualBack hx (y := (⟨"com/example/harakeke/harakeke/model/Record", "isPrintable", "(I)Z"⟩ : MethodName)) (z := (⟨"com/example/harakeke/harakeke/model/Record", "isPrintable", "(I)Z"⟩ : MethodName)) hown (mvT hZ (hw _ (List.mem_of_getElem? (i := 50) rfl))) (mvT hZ (hw _ (List.mem_of_getElem? (i := 51) rfl))) (notFace_of_selects (args := #[]) (mvT hZ (hw _ (List.mem_of_getElem? (i := 53) rfl)))) (mvT hZ (hw _ (List.mem_of_getElem? (i := 53) rfl))) (mvT hZ (hw _ (List.mem_of_getElem? (i := 52) rfl))) (by decide) (backOf (W := 0) (rmPrint l Z a0 hw [] b116 t k b_120 kb_120 lo mid hi T122.heap O122 PunprintableCount_122 Pu_122 Qb_122 hk) hZ (hw _ (List.mem_of_getElem? (i := 54) rfl)) (hw _ (List.mem_of_getElem? (i := 11) rfl)) (by decide) (by decide)) q139a q139c (g := (mkF m 276 #[.val (.int a), .val (.int b), .val (.int cc), .val (.int q), .val (.int n), .val (.int lo), .val (.int hi), .val (.int mid), .val (.int k), .val (.int sel), .val (.int t), .val (.ref b101), .val (.ref b103), .val (.ref b105), .val (.ref b116), .val (.int (1 : Int32))] [(.int t), (.ref b116)])) rfl (by rw [hml]; rfl) (Steps.refl _) (argsL := [(.int t)]) (rest := []) (lenOf pd__I_Z rfl) rfl (by show 2 * 0 + _ ≤ _; exact Nat.le_of_eq rfl) (hb hby at_276) (fun _ _ => ⟨rfl, rfl, (by decide : 5 + 0 ≤ _), (by decide : 20 + 0 ≤ _)⟩)
      dsimp only [Pt.U, Pt.locs, Pt.cells, Pt.slots] at X139 l139 y139 z139 st139 hQ139
      subst l139 y139 z139
      obtain ⟨rfl, rfl, e139⟩ := hQ139
      have N139 := Fr.app N122 (Fr.nil _)
      refine Go.tr st139 ?_
      show Go p e below _ (T139.setTop (mkF m 279 #[.val (.int a), .val (.int b), .val (.int cc), .val (.int q), .val (.int n), .val (.int lo), .val (.int hi), .val (.int mid), .val (.int k), .val (.int sel), .val (.int t), .val (.ref b101), .val (.ref b103), .val (.ref b105), .val (.ref b116), .val (.int (1 : Int32))] [(.int (own_pr k t lo mid hi))]))
      refine Go.st (fun t' k' => XS.iload X139.here hx rfl (hb hby at_279) rfl k') ?_
      show Go p e below _ (T139.setTop (mkF m 281 #[.val (.int a), .val (.int b), .val (.int cc), .val (.int q), .val (.int n), .val (.int lo), .val (.int hi), .val (.int mid), .val (.int k), .val (.int sel), .val (.int t), .val (.ref b101), .val (.ref b103), .val (.ref b105), .val (.ref b116), .val (.int (1 : Int32))] [(.int (1 : Int32)), (.int (own_pr k t lo mid hi))]))
      refine Go.st (fun t' k' => XS.ifYes X139.here hx rfl (pc0 := 281) (pc' := 288) rfl (hb hby at_281) rfl ((if0 _ _).trans (feq (by decide : ¬ ((1 : Int32) = (0 : Int32)))).2) (by decide) (by decide) k') ?_
      show Go p e below _ (T139.setTop (mkF m 288 #[.val (.int a), .val (.int b), .val (.int cc), .val (.int q), .val (.int n), .val (.int lo), .val (.int hi), .val (.int mid), .val (.int k), .val (.int sel), .val (.int t), .val (.ref b101), .val (.ref b103), .val (.ref b105), .val (.ref b116), .val (.int (1 : Int32))] [(.int (own_pr k t lo mid hi))]))
      refine Go.st (fun t' k' => XS.iconst X139.here hx rfl (hb hby at_288) k') ?_
      show Go p e below _ (T139.setTop (mkF m 289 #[.val (.int a), .val (.int b), .val (.int cc), .val (.int q), .val (.int n), .val (.int lo), .val (.int hi), .val (.int mid), .val (.int k), .val (.int sel), .val (.int t), .val (.ref b101), .val (.ref b103), .val (.ref b105), .val (.ref b116), .val (.int (1 : Int32))] [(.int (0 : Int32)), (.int (own_pr k t lo mid hi))]))
      refine Go.st (fun t' k' => XS.icmpNo X139.here hx rfl (hb hby at_289) rfl (teq (by unfold own_pr; split; all_goals (rename_i hh); all_goals first | rfl | (exfalso; simp only [Int32.lt_iff_toInt_lt, ← Int32.toInt_inj, Int32.reduceToInt] at hh hk hc229_124 hc236_138; omega))).2 k') ?_
      show Go p e below _ (T139.setTop (mkF m 292 #[.val (.int a), .val (.int b), .val (.int cc), .val (.int q), .val (.int n), .val (.int lo), .val (.int hi), .val (.int mid), .val (.int k), .val (.int sel), .val (.int t), .val (.ref b101), .val (.ref b103), .val (.ref b105), .val (.ref b116), .val (.int (1 : Int32))] []))
      refine Go.st (fun t' k' => XS.iconst X139.here hx rfl (hb hby at_292) k') ?_
      show Go p e below _ (T139.setTop (mkF m 293 #[.val (.int a), .val (.int b), .val (.int cc), .val (.int q), .val (.int n), .val (.int lo), .val (.int hi), .val (.int mid), .val (.int k), .val (.int sel), .val (.int t), .val (.ref b101), .val (.ref b103), .val (.ref b105), .val (.ref b116), .val (.int (1 : Int32))] [(.int (1 : Int32))]))
      refine Go.st (fun t' k' => XS.goto X139.here hx rfl (pc0 := 293) (pc' := 297) rfl (hb hby at_293) (by decide) (by decide) k') ?_
      show Go p e below _ (T139.setTop (mkF m 297 #[.val (.int a), .val (.int b), .val (.int cc), .val (.int q), .val (.int n), .val (.int lo), .val (.int hi), .val (.int mid), .val (.int k), .val (.int sel), .val (.int t), .val (.ref b101), .val (.ref b103), .val (.ref b105), .val (.ref b116), .val (.int (1 : Int32))] [(.int (1 : Int32))]))
      exact Go.outN X139 hx hlk (t := .boolean) hret (by simp) (hb hby at_297) (Q := Q_rm0 Z a b cc q n w_NO_BYTES w_NO_NUMBERS k_B k_N h0) (by rw [e139]; exact ⟨rfl, N139⟩) (by decide) (by decide)
    · refine Go.st (fun t' k' => XS.icmpNo X122.here hx rfl (hb hby at_236) rfl (feq hc236_138).1 k') ?_
      show Go p e below _ (T122.setTop (mkF m 239 #[.val (.int a), .val (.int b), .val (.int cc), .val (.int q), .val (.int n), .val (.int lo), .val (.int hi), .val (.int mid), .val (.int k), .val (.int sel), .val (.int t), .val (.ref b101), .val (.ref b103), .val (.ref b105), .val (.ref b116), .unset] []))
      refine Go.st (fun t' k' => XS.iload X122.here hx rfl (hb hby at_239) rfl k') ?_
      show Go p e below _ (T122.setTop (mkF m 241 #[.val (.int a), .val (.int b), .val (.int cc), .val (.int q), .val (.int n), .val (.int lo), .val (.int hi), .val (.int mid), .val (.int k), .val (.int sel), .val (.int t), .val (.ref b101), .val (.ref b103), .val (.ref b105), .val (.ref b116), .unset] [(.int k)]))
      refine Go.st (fun t' k' => XS.iconst X122.here hx rfl (hb hby at_241) k') ?_
      show Go p e below _ (T122.setTop (mkF m 242 #[.val (.int a), .val (.int b), .val (.int cc), .val (.int q), .val (.int n), .val (.int lo), .val (.int hi), .val (.int mid), .val (.int k), .val (.int sel), .val (.int t), .val (.ref b101), .val (.ref b103), .val (.ref b105), .val (.ref b116), .unset] [(.int (2 : Int32)), (.int k)]))
      by_cases hc242_140 : k < (2 : Int32)
      · refine Go.st (fun t' k' => XS.icmpYes X122.here hx rfl (pc0 := 242) (pc' := 252) rfl (hb hby at_242) rfl (tlt hc242_140).1 (by decide) (by decide) k') ?_
        show Go p e below _ (T122.setTop (mkF m 252 #[.val (.int a), .val (.int b), .val (.int cc), .val (.int q), .val (.int n), .val (.int lo), .val (.int hi), .val (.int mid), .val (.int k), .val (.int sel), .val (.int t), .val (.ref b101), .val (.ref b103), .val (.ref b105), .val (.ref b116), .unset] []))
        refine Go.st (fun t' k' => XS.iload X122.here hx rfl (hb hby at_252) rfl k') ?_
        show Go p e below _ (T122.setTop (mkF m 254 #[.val (.int a), .val (.int b), .val (.int cc), .val (.int q), .val (.int n), .val (.int lo), .val (.int hi), .val (.int mid), .val (.int k), .val (.int sel), .val (.int t), .val (.ref b101), .val (.ref b103), .val (.ref b105), .val (.ref b116), .unset] [(.int k)]))
        refine Go.st (fun t' k' => XS.iconst X122.here hx rfl (hb hby at_254) k') ?_
        show Go p e below _ (T122.setTop (mkF m 255 #[.val (.int a), .val (.int b), .val (.int cc), .val (.int q), .val (.int n), .val (.int lo), .val (.int hi), .val (.int mid), .val (.int k), .val (.int sel), .val (.int t), .val (.ref b101), .val (.ref b103), .val (.ref b105), .val (.ref b116), .unset] [(.int (3 : Int32)), (.int k)]))
        by_cases hc255_141 : k < (3 : Int32)
        · refine Go.st (fun t' k' => XS.icmpYes X122.here hx rfl (pc0 := 255) (pc' := 269) rfl (hb hby at_255) rfl (tlt hc255_141).1 (by decide) (by decide) k') ?_
          show Go p e below _ (T122.setTop (mkF m 269 #[.val (.int a), .val (.int b), .val (.int cc), .val (.int q), .val (.int n), .val (.int lo), .val (.int hi), .val (.int mid), .val (.int k), .val (.int sel), .val (.int t), .val (.ref b101), .val (.ref b103), .val (.ref b105), .val (.ref b116), .unset] []))
          refine Go.st (fun t' k' => XS.iconst X122.here hx rfl (hb hby at_269) k') ?_
          show Go p e below _ (T122.setTop (mkF m 270 #[.val (.int a), .val (.int b), .val (.int cc), .val (.int q), .val (.int n), .val (.int lo), .val (.int hi), .val (.int mid), .val (.int k), .val (.int sel), .val (.int t), .val (.ref b101), .val (.ref b103), .val (.ref b105), .val (.ref b116), .unset] [(.int (0 : Int32))]))
          refine Go.st (fun t' k' => XS.istore X122.here hx rfl (hb hby at_270) rfl (l' := #[.val (.int a), .val (.int b), .val (.int cc), .val (.int q), .val (.int n), .val (.int lo), .val (.int hi), .val (.int mid), .val (.int k), .val (.int sel), .val (.int t), .val (.ref b101), .val (.ref b103), .val (.ref b105), .val (.ref b116), .val (.int (0 : Int32))]) rfl k') ?_
          show Go p e below _ (T122.setTop (mkF m 272 #[.val (.int a), .val (.int b), .val (.int cc), .val (.int q), .val (.int n), .val (.int lo), .val (.int hi), .val (.int mid), .val (.int k), .val (.int sel), .val (.int t), .val (.ref b101), .val (.ref b103), .val (.ref b105), .val (.ref b116), .val (.int (0 : Int32))] []))
          refine Go.st (fun t' k' => XS.aload X122.here hx rfl (hb hby at_272) rfl rfl k') ?_
          show Go p e below _ (T122.setTop (mkF m 274 #[.val (.int a), .val (.int b), .val (.int cc), .val (.int q), .val (.int n), .val (.int lo), .val (.int hi), .val (.int mid), .val (.int k), .val (.int sel), .val (.int t), .val (.ref b101), .val (.ref b103), .val (.ref b105), .val (.ref b116), .val (.int (0 : Int32))] [(.ref b116)]))
          refine Go.st (fun t' k' => XS.iload X122.here hx rfl (hb hby at_274) rfl k') ?_
          show Go p e below _ (T122.setTop (mkF m 276 #[.val (.int a), .val (.int b), .val (.int cc), .val (.int q), .val (.int n), .val (.int lo), .val (.int hi), .val (.int mid), .val (.int k), .val (.int sel), .val (.int t), .val (.ref b101), .val (.ref b103), .val (.ref b105), .val (.ref b116), .val (.int (0 : Int32))] [(.int t), (.ref b116)]))
          obtain ⟨cq142, kq142, q142a, q142b, q142c⟩ := isOf hZ rfl A116_h123
          obtain ⟨_, _, ⟨T142, L142, k142, n142⟩, -, X142, ⟨Lc142, hQ142, l142, y142, z142⟩, st142⟩ := X122.virtualBack hx (y := (⟨"com/example/harakeke/harakeke/model/Record", "isPrintable", "(I)Z"⟩ : MethodName)) (z := (⟨"com/example/harakeke/harakeke/model/Record", "isPrintable", "(I)Z"⟩ : MethodName)) hown (mvT hZ (hw _ (List.mem_of_getElem? (i := 50) rfl))) (mvT hZ (hw _ (List.mem_of_getElem? (i := 51) rfl))) (notFace_of_selects (args := #[]) (mvT hZ (hw _ (List.mem_of_getElem? (i := 53) rfl)))) (mvT hZ (hw _ (List.mem_of_getElem? (i := 53) rfl))) (mvT hZ (hw _ (List.mem_of_getElem? (i := 52) rfl))) (by decide) (backOf (W := 0) (rmPrint l Z a0 hw [] b116 t k b_120 kb_120 lo mid hi T122.heap O122 PunprintableCount_122 Pu_122 Qb_122 hk) hZ (hw _ (List.mem_of_getElem? (i := 54) rfl)) (hw _ (List.mem_of_getElem? (i := 11) rfl)) (by decide) (by decide)) q142a q142c (g := (mkF m 276 #[.val (.int a), .val (.int b), .val (.int cc), .val (.int q), .val (.int n), .val (.int lo), .val (.int hi), .val (.int mid), .val (.int k), .val (.int sel), .val (.int t), .val (.ref b101), .val (.ref b103), .val (.ref b105), .val (.ref b116), .val (.int (0 : Int32))] [(.int t), (.ref b116)])) rfl (by rw [hml]; rfl) (Steps.refl _) (argsL := [(.int t)]) (rest := []) (lenOf pd__I_Z rfl) rfl (by show 2 * 0 + _ ≤ _; exact Nat.le_of_eq rfl) (hb hby at_276) (fun _ _ => ⟨rfl, rfl, (by decide : 5 + 0 ≤ _), (by decide : 20 + 0 ≤ _)⟩)
          dsimp only [Pt.U, Pt.locs, Pt.cells, Pt.slots] at X142 l142 y142 z142 st142 hQ142
          subst l142 y142 z142
          obtain ⟨rfl, rfl, e142⟩ := hQ142
          have N142 := Fr.app N122 (Fr.nil _)
          refine Go.tr st142 ?_
          show Go p e below _ (T142.setTop (mkF m 279 #[.val (.int a), .val (.int b), .val (.int cc), .val (.int q), .val (.int n), .val (.int lo), .val (.int hi), .val (.int mid), .val (.int k), .val (.int sel), .val (.int t), .val (.ref b101), .val (.ref b103), .val (.ref b105), .val (.ref b116), .val (.int (0 : Int32))] [(.int (own_pr k t lo mid hi))]))
          refine Go.st (fun t' k' => XS.iload X142.here hx rfl (hb hby at_279) rfl k') ?_
          show Go p e below _ (T142.setTop (mkF m 281 #[.val (.int a), .val (.int b), .val (.int cc), .val (.int q), .val (.int n), .val (.int lo), .val (.int hi), .val (.int mid), .val (.int k), .val (.int sel), .val (.int t), .val (.ref b101), .val (.ref b103), .val (.ref b105), .val (.ref b116), .val (.int (0 : Int32))] [(.int (0 : Int32)), (.int (own_pr k t lo mid hi))]))
          refine Go.st (fun t' k' => XS.ifNo X142.here hx rfl (hb hby at_281) rfl ((if0 _ _).trans (teq (by decide : (0 : Int32) = (0 : Int32))).2) k') ?_
          show Go p e below _ (T142.setTop (mkF m 284 #[.val (.int a), .val (.int b), .val (.int cc), .val (.int q), .val (.int n), .val (.int lo), .val (.int hi), .val (.int mid), .val (.int k), .val (.int sel), .val (.int t), .val (.ref b101), .val (.ref b103), .val (.ref b105), .val (.ref b116), .val (.int (0 : Int32))] [(.int (own_pr k t lo mid hi))]))
          refine Go.st (fun t' k' => XS.iconst X142.here hx rfl (hb hby at_284) k') ?_
          show Go p e below _ (T142.setTop (mkF m 285 #[.val (.int a), .val (.int b), .val (.int cc), .val (.int q), .val (.int n), .val (.int lo), .val (.int hi), .val (.int mid), .val (.int k), .val (.int sel), .val (.int t), .val (.ref b101), .val (.ref b103), .val (.ref b105), .val (.ref b116), .val (.int (0 : Int32))] [(.int (1 : Int32)), (.int (own_pr k t lo mid hi))]))
          refine Go.st (fun t' k' => XS.goto X142.here hx rfl (pc0 := 285) (pc' := 289) rfl (hb hby at_285) (by decide) (by decide) k') ?_
          show Go p e below _ (T142.setTop (mkF m 289 #[.val (.int a), .val (.int b), .val (.int cc), .val (.int q), .val (.int n), .val (.int lo), .val (.int hi), .val (.int mid), .val (.int k), .val (.int sel), .val (.int t), .val (.ref b101), .val (.ref b103), .val (.ref b105), .val (.ref b116), .val (.int (0 : Int32))] [(.int (1 : Int32)), (.int (own_pr k t lo mid hi))]))
          refine Go.st (fun t' k' => XS.icmpNo X142.here hx rfl (hb hby at_289) rfl (teq (by unfold own_pr; split; all_goals (rename_i hh); all_goals first | rfl | (exfalso; simp only [Int32.lt_iff_toInt_lt, ← Int32.toInt_inj, Int32.reduceToInt] at hh hk hc229_124 hc236_138 hc242_140 hc255_141; omega))).2 k') ?_
          show Go p e below _ (T142.setTop (mkF m 292 #[.val (.int a), .val (.int b), .val (.int cc), .val (.int q), .val (.int n), .val (.int lo), .val (.int hi), .val (.int mid), .val (.int k), .val (.int sel), .val (.int t), .val (.ref b101), .val (.ref b103), .val (.ref b105), .val (.ref b116), .val (.int (0 : Int32))] []))
          refine Go.st (fun t' k' => XS.iconst X142.here hx rfl (hb hby at_292) k') ?_
          show Go p e below _ (T142.setTop (mkF m 293 #[.val (.int a), .val (.int b), .val (.int cc), .val (.int q), .val (.int n), .val (.int lo), .val (.int hi), .val (.int mid), .val (.int k), .val (.int sel), .val (.int t), .val (.ref b101), .val (.ref b103), .val (.ref b105), .val (.ref b116), .val (.int (0 : Int32))] [(.int (1 : Int32))]))
          refine Go.st (fun t' k' => XS.goto X142.here hx rfl (pc0 := 293) (pc' := 297) rfl (hb hby at_293) (by decide) (by decide) k') ?_
          show Go p e below _ (T142.setTop (mkF m 297 #[.val (.int a), .val (.int b), .val (.int cc), .val (.int q), .val (.int n), .val (.int lo), .val (.int hi), .val (.int mid), .val (.int k), .val (.int sel), .val (.int t), .val (.ref b101), .val (.ref b103), .val (.ref b105), .val (.ref b116), .val (.int (0 : Int32))] [(.int (1 : Int32))]))
          exact Go.outN X142 hx hlk (t := .boolean) hret (by simp) (hb hby at_297) (Q := Q_rm0 Z a b cc q n w_NO_BYTES w_NO_NUMBERS k_B k_N h0) (by rw [e142]; exact ⟨rfl, N142⟩) (by decide) (by decide)
        · refine Go.st (fun t' k' => XS.icmpNo X122.here hx rfl (hb hby at_255) rfl (flt hc255_141).1 k') ?_
          show Go p e below _ (T122.setTop (mkF m 258 #[.val (.int a), .val (.int b), .val (.int cc), .val (.int q), .val (.int n), .val (.int lo), .val (.int hi), .val (.int mid), .val (.int k), .val (.int sel), .val (.int t), .val (.ref b101), .val (.ref b103), .val (.ref b105), .val (.ref b116), .unset] []))
          refine Go.st (fun t' k' => XS.iload X122.here hx rfl (hb hby at_258) rfl k') ?_
          show Go p e below _ (T122.setTop (mkF m 260 #[.val (.int a), .val (.int b), .val (.int cc), .val (.int q), .val (.int n), .val (.int lo), .val (.int hi), .val (.int mid), .val (.int k), .val (.int sel), .val (.int t), .val (.ref b101), .val (.ref b103), .val (.ref b105), .val (.ref b116), .unset] [(.int t)]))
          refine Go.st (fun t' k' => XS.iload X122.here hx rfl (hb hby at_260) rfl k') ?_
          show Go p e below _ (T122.setTop (mkF m 262 #[.val (.int a), .val (.int b), .val (.int cc), .val (.int q), .val (.int n), .val (.int lo), .val (.int hi), .val (.int mid), .val (.int k), .val (.int sel), .val (.int t), .val (.ref b101), .val (.ref b103), .val (.ref b105), .val (.ref b116), .unset] [(.int hi), (.int t)]))
          by_cases hc262_143 : t = hi
          · refine Go.st (fun t' k' => XS.icmpNo X122.here hx rfl (hb hby at_262) rfl (teq hc262_143).2 k') ?_
            show Go p e below _ (T122.setTop (mkF m 265 #[.val (.int a), .val (.int b), .val (.int cc), .val (.int q), .val (.int n), .val (.int lo), .val (.int hi), .val (.int mid), .val (.int k), .val (.int sel), .val (.int t), .val (.ref b101), .val (.ref b103), .val (.ref b105), .val (.ref b116), .unset] []))
            refine Go.st (fun t' k' => XS.iconst X122.here hx rfl (hb hby at_265) k') ?_
            show Go p e below _ (T122.setTop (mkF m 266 #[.val (.int a), .val (.int b), .val (.int cc), .val (.int q), .val (.int n), .val (.int lo), .val (.int hi), .val (.int mid), .val (.int k), .val (.int sel), .val (.int t), .val (.ref b101), .val (.ref b103), .val (.ref b105), .val (.ref b116), .unset] [(.int (1 : Int32))]))
            refine Go.st (fun t' k' => XS.goto X122.here hx rfl (pc0 := 266) (pc' := 270) rfl (hb hby at_266) (by decide) (by decide) k') ?_
            show Go p e below _ (T122.setTop (mkF m 270 #[.val (.int a), .val (.int b), .val (.int cc), .val (.int q), .val (.int n), .val (.int lo), .val (.int hi), .val (.int mid), .val (.int k), .val (.int sel), .val (.int t), .val (.ref b101), .val (.ref b103), .val (.ref b105), .val (.ref b116), .unset] [(.int (1 : Int32))]))
            refine Go.st (fun t' k' => XS.istore X122.here hx rfl (hb hby at_270) rfl (l' := #[.val (.int a), .val (.int b), .val (.int cc), .val (.int q), .val (.int n), .val (.int lo), .val (.int hi), .val (.int mid), .val (.int k), .val (.int sel), .val (.int t), .val (.ref b101), .val (.ref b103), .val (.ref b105), .val (.ref b116), .val (.int (1 : Int32))]) rfl k') ?_
            show Go p e below _ (T122.setTop (mkF m 272 #[.val (.int a), .val (.int b), .val (.int cc), .val (.int q), .val (.int n), .val (.int lo), .val (.int hi), .val (.int mid), .val (.int k), .val (.int sel), .val (.int t), .val (.ref b101), .val (.ref b103), .val (.ref b105), .val (.ref b116), .val (.int (1 : Int32))] []))
            refine Go.st (fun t' k' => XS.aload X122.here hx rfl (hb hby at_272) rfl rfl k') ?_
            show Go p e below _ (T122.setTop (mkF m 274 #[.val (.int a), .val (.int b), .val (.int cc), .val (.int q), .val (.int n), .val (.int lo), .val (.int hi), .val (.int mid), .val (.int k), .val (.int sel), .val (.int t), .val (.ref b101), .val (.ref b103), .val (.ref b105), .val (.ref b116), .val (.int (1 : Int32))] [(.ref b116)]))
            refine Go.st (fun t' k' => XS.iload X122.here hx rfl (hb hby at_274) rfl k') ?_
            show Go p e below _ (T122.setTop (mkF m 276 #[.val (.int a), .val (.int b), .val (.int cc), .val (.int q), .val (.int n), .val (.int lo), .val (.int hi), .val (.int mid), .val (.int k), .val (.int sel), .val (.int t), .val (.ref b101), .val (.ref b103), .val (.ref b105), .val (.ref b116), .val (.int (1 : Int32))] [(.int t), (.ref b116)]))
            obtain ⟨cq144, kq144, q144a, q144b, q144c⟩ := isOf hZ rfl A116_h123
            obtain ⟨_, _, ⟨T144, L144, k144, n144⟩, -, X144, ⟨Lc144, hQ144, l144, y144, z144⟩, st144⟩ := X122.virtualBack hx (y := (⟨"com/example/harakeke/harakeke/model/Record", "isPrintable", "(I)Z"⟩ : MethodName)) (z := (⟨"com/example/harakeke/harakeke/model/Record", "isPrintable", "(I)Z"⟩ : MethodName)) hown (mvT hZ (hw _ (List.mem_of_getElem? (i := 50) rfl))) (mvT hZ (hw _ (List.mem_of_getElem? (i := 51) rfl))) (notFace_of_selects (args := #[]) (mvT hZ (hw _ (List.mem_of_getElem? (i := 53) rfl)))) (mvT hZ (hw _ (List.mem_of_getElem? (i := 53) rfl))) (mvT hZ (hw _ (List.mem_of_getElem? (i := 52) rfl))) (by decide) (backOf (W := 0) (rmPrint l Z a0 hw [] b116 t k b_120 kb_120 lo mid hi T122.heap O122 PunprintableCount_122 Pu_122 Qb_122 hk) hZ (hw _ (List.mem_of_getElem? (i := 54) rfl)) (hw _ (List.mem_of_getElem? (i := 11) rfl)) (by decide) (by decide)) q144a q144c (g := (mkF m 276 #[.val (.int a), .val (.int b), .val (.int cc), .val (.int q), .val (.int n), .val (.int lo), .val (.int hi), .val (.int mid), .val (.int k), .val (.int sel), .val (.int t), .val (.ref b101), .val (.ref b103), .val (.ref b105), .val (.ref b116), .val (.int (1 : Int32))] [(.int t), (.ref b116)])) rfl (by rw [hml]; rfl) (Steps.refl _) (argsL := [(.int t)]) (rest := []) (lenOf pd__I_Z rfl) rfl (by show 2 * 0 + _ ≤ _; exact Nat.le_of_eq rfl) (hb hby at_276) (fun _ _ => ⟨rfl, rfl, (by decide : 5 + 0 ≤ _), (by decide : 20 + 0 ≤ _)⟩)
            dsimp only [Pt.U, Pt.locs, Pt.cells, Pt.slots] at X144 l144 y144 z144 st144 hQ144
            subst l144 y144 z144
            obtain ⟨rfl, rfl, e144⟩ := hQ144
            have N144 := Fr.app N122 (Fr.nil _)
            refine Go.tr st144 ?_
            show Go p e below _ (T144.setTop (mkF m 279 #[.val (.int a), .val (.int b), .val (.int cc), .val (.int q), .val (.int n), .val (.int lo), .val (.int hi), .val (.int mid), .val (.int k), .val (.int sel), .val (.int t), .val (.ref b101), .val (.ref b103), .val (.ref b105), .val (.ref b116), .val (.int (1 : Int32))] [(.int (own_pr k t lo mid hi))]))
            refine Go.st (fun t' k' => XS.iload X144.here hx rfl (hb hby at_279) rfl k') ?_
            show Go p e below _ (T144.setTop (mkF m 281 #[.val (.int a), .val (.int b), .val (.int cc), .val (.int q), .val (.int n), .val (.int lo), .val (.int hi), .val (.int mid), .val (.int k), .val (.int sel), .val (.int t), .val (.ref b101), .val (.ref b103), .val (.ref b105), .val (.ref b116), .val (.int (1 : Int32))] [(.int (1 : Int32)), (.int (own_pr k t lo mid hi))]))
            refine Go.st (fun t' k' => XS.ifYes X144.here hx rfl (pc0 := 281) (pc' := 288) rfl (hb hby at_281) rfl ((if0 _ _).trans (feq (by decide : ¬ ((1 : Int32) = (0 : Int32)))).2) (by decide) (by decide) k') ?_
            show Go p e below _ (T144.setTop (mkF m 288 #[.val (.int a), .val (.int b), .val (.int cc), .val (.int q), .val (.int n), .val (.int lo), .val (.int hi), .val (.int mid), .val (.int k), .val (.int sel), .val (.int t), .val (.ref b101), .val (.ref b103), .val (.ref b105), .val (.ref b116), .val (.int (1 : Int32))] [(.int (own_pr k t lo mid hi))]))
            refine Go.st (fun t' k' => XS.iconst X144.here hx rfl (hb hby at_288) k') ?_
            show Go p e below _ (T144.setTop (mkF m 289 #[.val (.int a), .val (.int b), .val (.int cc), .val (.int q), .val (.int n), .val (.int lo), .val (.int hi), .val (.int mid), .val (.int k), .val (.int sel), .val (.int t), .val (.ref b101), .val (.ref b103), .val (.ref b105), .val (.ref b116), .val (.int (1 : Int32))] [(.int (0 : Int32)), (.int (own_pr k t lo mid hi))]))
            refine Go.st (fun t' k' => XS.icmpNo X144.here hx rfl (hb hby at_289) rfl (teq (by unfold own_pr; split; all_goals (rename_i hh); all_goals first | rfl | (exfalso; simp only [Int32.lt_iff_toInt_lt, ← Int32.toInt_inj, Int32.reduceToInt] at hh hk hc229_124 hc236_138 hc242_140 hc255_141 hc262_143; omega))).2 k') ?_
            show Go p e below _ (T144.setTop (mkF m 292 #[.val (.int a), .val (.int b), .val (.int cc), .val (.int q), .val (.int n), .val (.int lo), .val (.int hi), .val (.int mid), .val (.int k), .val (.int sel), .val (.int t), .val (.ref b101), .val (.ref b103), .val (.ref b105), .val (.ref b116), .val (.int (1 : Int32))] []))
            refine Go.st (fun t' k' => XS.iconst X144.here hx rfl (hb hby at_292) k') ?_
            show Go p e below _ (T144.setTop (mkF m 293 #[.val (.int a), .val (.int b), .val (.int cc), .val (.int q), .val (.int n), .val (.int lo), .val (.int hi), .val (.int mid), .val (.int k), .val (.int sel), .val (.int t), .val (.ref b101), .val (.ref b103), .val (.ref b105), .val (.ref b116), .val (.int (1 : Int32))] [(.int (1 : Int32))]))
            refine Go.st (fun t' k' => XS.goto X144.here hx rfl (pc0 := 293) (pc' := 297) rfl (hb hby at_293) (by decide) (by decide) k') ?_
            show Go p e below _ (T144.setTop (mkF m 297 #[.val (.int a), .val (.int b), .val (.int cc), .val (.int q), .val (.int n), .val (.int lo), .val (.int hi), .val (.int mid), .val (.int k), .val (.int sel), .val (.int t), .val (.ref b101), .val (.ref b103), .val (.ref b105), .val (.ref b116), .val (.int (1 : Int32))] [(.int (1 : Int32))]))
            exact Go.outN X144 hx hlk (t := .boolean) hret (by simp) (hb hby at_297) (Q := Q_rm0 Z a b cc q n w_NO_BYTES w_NO_NUMBERS k_B k_N h0) (by rw [e144]; exact ⟨rfl, N144⟩) (by decide) (by decide)
          · refine Go.st (fun t' k' => XS.icmpYes X122.here hx rfl (pc0 := 262) (pc' := 269) rfl (hb hby at_262) rfl (feq hc262_143).2 (by decide) (by decide) k') ?_
            show Go p e below _ (T122.setTop (mkF m 269 #[.val (.int a), .val (.int b), .val (.int cc), .val (.int q), .val (.int n), .val (.int lo), .val (.int hi), .val (.int mid), .val (.int k), .val (.int sel), .val (.int t), .val (.ref b101), .val (.ref b103), .val (.ref b105), .val (.ref b116), .unset] []))
            refine Go.st (fun t' k' => XS.iconst X122.here hx rfl (hb hby at_269) k') ?_
            show Go p e below _ (T122.setTop (mkF m 270 #[.val (.int a), .val (.int b), .val (.int cc), .val (.int q), .val (.int n), .val (.int lo), .val (.int hi), .val (.int mid), .val (.int k), .val (.int sel), .val (.int t), .val (.ref b101), .val (.ref b103), .val (.ref b105), .val (.ref b116), .unset] [(.int (0 : Int32))]))
            refine Go.st (fun t' k' => XS.istore X122.here hx rfl (hb hby at_270) rfl (l' := #[.val (.int a), .val (.int b), .val (.int cc), .val (.int q), .val (.int n), .val (.int lo), .val (.int hi), .val (.int mid), .val (.int k), .val (.int sel), .val (.int t), .val (.ref b101), .val (.ref b103), .val (.ref b105), .val (.ref b116), .val (.int (0 : Int32))]) rfl k') ?_
            show Go p e below _ (T122.setTop (mkF m 272 #[.val (.int a), .val (.int b), .val (.int cc), .val (.int q), .val (.int n), .val (.int lo), .val (.int hi), .val (.int mid), .val (.int k), .val (.int sel), .val (.int t), .val (.ref b101), .val (.ref b103), .val (.ref b105), .val (.ref b116), .val (.int (0 : Int32))] []))
            refine Go.st (fun t' k' => XS.aload X122.here hx rfl (hb hby at_272) rfl rfl k') ?_
            show Go p e below _ (T122.setTop (mkF m 274 #[.val (.int a), .val (.int b), .val (.int cc), .val (.int q), .val (.int n), .val (.int lo), .val (.int hi), .val (.int mid), .val (.int k), .val (.int sel), .val (.int t), .val (.ref b101), .val (.ref b103), .val (.ref b105), .val (.ref b116), .val (.int (0 : Int32))] [(.ref b116)]))
            refine Go.st (fun t' k' => XS.iload X122.here hx rfl (hb hby at_274) rfl k') ?_
            show Go p e below _ (T122.setTop (mkF m 276 #[.val (.int a), .val (.int b), .val (.int cc), .val (.int q), .val (.int n), .val (.int lo), .val (.int hi), .val (.int mid), .val (.int k), .val (.int sel), .val (.int t), .val (.ref b101), .val (.ref b103), .val (.ref b105), .val (.ref b116), .val (.int (0 : Int32))] [(.int t), (.ref b116)]))
            obtain ⟨cq145, kq145, q145a, q145b, q145c⟩ := isOf hZ rfl A116_h123
            obtain ⟨_, _, ⟨T145, L145, k145, n145⟩, -, X145, ⟨Lc145, hQ145, l145, y145, z145⟩, st145⟩ := X122.virtualBack hx (y := (⟨"com/example/harakeke/harakeke/model/Record", "isPrintable", "(I)Z"⟩ : MethodName)) (z := (⟨"com/example/harakeke/harakeke/model/Record", "isPrintable", "(I)Z"⟩ : MethodName)) hown (mvT hZ (hw _ (List.mem_of_getElem? (i := 50) rfl))) (mvT hZ (hw _ (List.mem_of_getElem? (i := 51) rfl))) (notFace_of_selects (args := #[]) (mvT hZ (hw _ (List.mem_of_getElem? (i := 53) rfl)))) (mvT hZ (hw _ (List.mem_of_getElem? (i := 53) rfl))) (mvT hZ (hw _ (List.mem_of_getElem? (i := 52) rfl))) (by decide) (backOf (W := 0) (rmPrint l Z a0 hw [] b116 t k b_120 kb_120 lo mid hi T122.heap O122 PunprintableCount_122 Pu_122 Qb_122 hk) hZ (hw _ (List.mem_of_getElem? (i := 54) rfl)) (hw _ (List.mem_of_getElem? (i := 11) rfl)) (by decide) (by decide)) q145a q145c (g := (mkF m 276 #[.val (.int a), .val (.int b), .val (.int cc), .val (.int q), .val (.int n), .val (.int lo), .val (.int hi), .val (.int mid), .val (.int k), .val (.int sel), .val (.int t), .val (.ref b101), .val (.ref b103), .val (.ref b105), .val (.ref b116), .val (.int (0 : Int32))] [(.int t), (.ref b116)])) rfl (by rw [hml]; rfl) (Steps.refl _) (argsL := [(.int t)]) (rest := []) (lenOf pd__I_Z rfl) rfl (by show 2 * 0 + _ ≤ _; exact Nat.le_of_eq rfl) (hb hby at_276) (fun _ _ => ⟨rfl, rfl, (by decide : 5 + 0 ≤ _), (by decide : 20 + 0 ≤ _)⟩)
            dsimp only [Pt.U, Pt.locs, Pt.cells, Pt.slots] at X145 l145 y145 z145 st145 hQ145
            subst l145 y145 z145
            obtain ⟨rfl, rfl, e145⟩ := hQ145
            have N145 := Fr.app N122 (Fr.nil _)
            refine Go.tr st145 ?_
            show Go p e below _ (T145.setTop (mkF m 279 #[.val (.int a), .val (.int b), .val (.int cc), .val (.int q), .val (.int n), .val (.int lo), .val (.int hi), .val (.int mid), .val (.int k), .val (.int sel), .val (.int t), .val (.ref b101), .val (.ref b103), .val (.ref b105), .val (.ref b116), .val (.int (0 : Int32))] [(.int (own_pr k t lo mid hi))]))
            refine Go.st (fun t' k' => XS.iload X145.here hx rfl (hb hby at_279) rfl k') ?_
            show Go p e below _ (T145.setTop (mkF m 281 #[.val (.int a), .val (.int b), .val (.int cc), .val (.int q), .val (.int n), .val (.int lo), .val (.int hi), .val (.int mid), .val (.int k), .val (.int sel), .val (.int t), .val (.ref b101), .val (.ref b103), .val (.ref b105), .val (.ref b116), .val (.int (0 : Int32))] [(.int (0 : Int32)), (.int (own_pr k t lo mid hi))]))
            refine Go.st (fun t' k' => XS.ifNo X145.here hx rfl (hb hby at_281) rfl ((if0 _ _).trans (teq (by decide : (0 : Int32) = (0 : Int32))).2) k') ?_
            show Go p e below _ (T145.setTop (mkF m 284 #[.val (.int a), .val (.int b), .val (.int cc), .val (.int q), .val (.int n), .val (.int lo), .val (.int hi), .val (.int mid), .val (.int k), .val (.int sel), .val (.int t), .val (.ref b101), .val (.ref b103), .val (.ref b105), .val (.ref b116), .val (.int (0 : Int32))] [(.int (own_pr k t lo mid hi))]))
            refine Go.st (fun t' k' => XS.iconst X145.here hx rfl (hb hby at_284) k') ?_
            show Go p e below _ (T145.setTop (mkF m 285 #[.val (.int a), .val (.int b), .val (.int cc), .val (.int q), .val (.int n), .val (.int lo), .val (.int hi), .val (.int mid), .val (.int k), .val (.int sel), .val (.int t), .val (.ref b101), .val (.ref b103), .val (.ref b105), .val (.ref b116), .val (.int (0 : Int32))] [(.int (1 : Int32)), (.int (own_pr k t lo mid hi))]))
            refine Go.st (fun t' k' => XS.goto X145.here hx rfl (pc0 := 285) (pc' := 289) rfl (hb hby at_285) (by decide) (by decide) k') ?_
            show Go p e below _ (T145.setTop (mkF m 289 #[.val (.int a), .val (.int b), .val (.int cc), .val (.int q), .val (.int n), .val (.int lo), .val (.int hi), .val (.int mid), .val (.int k), .val (.int sel), .val (.int t), .val (.ref b101), .val (.ref b103), .val (.ref b105), .val (.ref b116), .val (.int (0 : Int32))] [(.int (1 : Int32)), (.int (own_pr k t lo mid hi))]))
            refine Go.st (fun t' k' => XS.icmpNo X145.here hx rfl (hb hby at_289) rfl (teq (by unfold own_pr; split; all_goals (rename_i hh); all_goals first | rfl | (exfalso; simp only [Int32.lt_iff_toInt_lt, ← Int32.toInt_inj, Int32.reduceToInt] at hh hk hc229_124 hc236_138 hc242_140 hc255_141 hc262_143; omega))).2 k') ?_
            show Go p e below _ (T145.setTop (mkF m 292 #[.val (.int a), .val (.int b), .val (.int cc), .val (.int q), .val (.int n), .val (.int lo), .val (.int hi), .val (.int mid), .val (.int k), .val (.int sel), .val (.int t), .val (.ref b101), .val (.ref b103), .val (.ref b105), .val (.ref b116), .val (.int (0 : Int32))] []))
            refine Go.st (fun t' k' => XS.iconst X145.here hx rfl (hb hby at_292) k') ?_
            show Go p e below _ (T145.setTop (mkF m 293 #[.val (.int a), .val (.int b), .val (.int cc), .val (.int q), .val (.int n), .val (.int lo), .val (.int hi), .val (.int mid), .val (.int k), .val (.int sel), .val (.int t), .val (.ref b101), .val (.ref b103), .val (.ref b105), .val (.ref b116), .val (.int (0 : Int32))] [(.int (1 : Int32))]))
            refine Go.st (fun t' k' => XS.goto X145.here hx rfl (pc0 := 293) (pc' := 297) rfl (hb hby at_293) (by decide) (by decide) k') ?_
            show Go p e below _ (T145.setTop (mkF m 297 #[.val (.int a), .val (.int b), .val (.int cc), .val (.int q), .val (.int n), .val (.int lo), .val (.int hi), .val (.int mid), .val (.int k), .val (.int sel), .val (.int t), .val (.ref b101), .val (.ref b103), .val (.ref b105), .val (.ref b116), .val (.int (0 : Int32))] [(.int (1 : Int32))]))
            exact Go.outN X145 hx hlk (t := .boolean) hret (by simp) (hb hby at_297) (Q := Q_rm0 Z a b cc q n w_NO_BYTES w_NO_NUMBERS k_B k_N h0) (by rw [e145]; exact ⟨rfl, N145⟩) (by decide) (by decide)
      · refine Go.st (fun t' k' => XS.icmpNo X122.here hx rfl (hb hby at_242) rfl (flt hc242_140).1 k') ?_
        show Go p e below _ (T122.setTop (mkF m 245 #[.val (.int a), .val (.int b), .val (.int cc), .val (.int q), .val (.int n), .val (.int lo), .val (.int hi), .val (.int mid), .val (.int k), .val (.int sel), .val (.int t), .val (.ref b101), .val (.ref b103), .val (.ref b105), .val (.ref b116), .unset] []))
        refine Go.st (fun t' k' => XS.iload X122.here hx rfl (hb hby at_245) rfl k') ?_
        show Go p e below _ (T122.setTop (mkF m 247 #[.val (.int a), .val (.int b), .val (.int cc), .val (.int q), .val (.int n), .val (.int lo), .val (.int hi), .val (.int mid), .val (.int k), .val (.int sel), .val (.int t), .val (.ref b101), .val (.ref b103), .val (.ref b105), .val (.ref b116), .unset] [(.int t)]))
        refine Go.st (fun t' k' => XS.iload X122.here hx rfl (hb hby at_247) rfl k') ?_
        show Go p e below _ (T122.setTop (mkF m 249 #[.val (.int a), .val (.int b), .val (.int cc), .val (.int q), .val (.int n), .val (.int lo), .val (.int hi), .val (.int mid), .val (.int k), .val (.int sel), .val (.int t), .val (.ref b101), .val (.ref b103), .val (.ref b105), .val (.ref b116), .unset] [(.int mid), (.int t)]))
        by_cases hc249_146 : t = mid
        · refine Go.st (fun t' k' => XS.icmpYes X122.here hx rfl (pc0 := 249) (pc' := 265) rfl (hb hby at_249) rfl (teq hc249_146).1 (by decide) (by decide) k') ?_
          show Go p e below _ (T122.setTop (mkF m 265 #[.val (.int a), .val (.int b), .val (.int cc), .val (.int q), .val (.int n), .val (.int lo), .val (.int hi), .val (.int mid), .val (.int k), .val (.int sel), .val (.int t), .val (.ref b101), .val (.ref b103), .val (.ref b105), .val (.ref b116), .unset] []))
          refine Go.st (fun t' k' => XS.iconst X122.here hx rfl (hb hby at_265) k') ?_
          show Go p e below _ (T122.setTop (mkF m 266 #[.val (.int a), .val (.int b), .val (.int cc), .val (.int q), .val (.int n), .val (.int lo), .val (.int hi), .val (.int mid), .val (.int k), .val (.int sel), .val (.int t), .val (.ref b101), .val (.ref b103), .val (.ref b105), .val (.ref b116), .unset] [(.int (1 : Int32))]))
          refine Go.st (fun t' k' => XS.goto X122.here hx rfl (pc0 := 266) (pc' := 270) rfl (hb hby at_266) (by decide) (by decide) k') ?_
          show Go p e below _ (T122.setTop (mkF m 270 #[.val (.int a), .val (.int b), .val (.int cc), .val (.int q), .val (.int n), .val (.int lo), .val (.int hi), .val (.int mid), .val (.int k), .val (.int sel), .val (.int t), .val (.ref b101), .val (.ref b103), .val (.ref b105), .val (.ref b116), .unset] [(.int (1 : Int32))]))
          refine Go.st (fun t' k' => XS.istore X122.here hx rfl (hb hby at_270) rfl (l' := #[.val (.int a), .val (.int b), .val (.int cc), .val (.int q), .val (.int n), .val (.int lo), .val (.int hi), .val (.int mid), .val (.int k), .val (.int sel), .val (.int t), .val (.ref b101), .val (.ref b103), .val (.ref b105), .val (.ref b116), .val (.int (1 : Int32))]) rfl k') ?_
          show Go p e below _ (T122.setTop (mkF m 272 #[.val (.int a), .val (.int b), .val (.int cc), .val (.int q), .val (.int n), .val (.int lo), .val (.int hi), .val (.int mid), .val (.int k), .val (.int sel), .val (.int t), .val (.ref b101), .val (.ref b103), .val (.ref b105), .val (.ref b116), .val (.int (1 : Int32))] []))
          refine Go.st (fun t' k' => XS.aload X122.here hx rfl (hb hby at_272) rfl rfl k') ?_
          show Go p e below _ (T122.setTop (mkF m 274 #[.val (.int a), .val (.int b), .val (.int cc), .val (.int q), .val (.int n), .val (.int lo), .val (.int hi), .val (.int mid), .val (.int k), .val (.int sel), .val (.int t), .val (.ref b101), .val (.ref b103), .val (.ref b105), .val (.ref b116), .val (.int (1 : Int32))] [(.ref b116)]))
          refine Go.st (fun t' k' => XS.iload X122.here hx rfl (hb hby at_274) rfl k') ?_
          show Go p e below _ (T122.setTop (mkF m 276 #[.val (.int a), .val (.int b), .val (.int cc), .val (.int q), .val (.int n), .val (.int lo), .val (.int hi), .val (.int mid), .val (.int k), .val (.int sel), .val (.int t), .val (.ref b101), .val (.ref b103), .val (.ref b105), .val (.ref b116), .val (.int (1 : Int32))] [(.int t), (.ref b116)]))
          obtain ⟨cq147, kq147, q147a, q147b, q147c⟩ := isOf hZ rfl A116_h123
          obtain ⟨_, _, ⟨T147, L147, k147, n147⟩, -, X147, ⟨Lc147, hQ147, l147, y147, z147⟩, st147⟩ := X122.virtualBack hx (y := (⟨"com/example/harakeke/harakeke/model/Record", "isPrintable", "(I)Z"⟩ : MethodName)) (z := (⟨"com/example/harakeke/harakeke/model/Record", "isPrintable", "(I)Z"⟩ : MethodName)) hown (mvT hZ (hw _ (List.mem_of_getElem? (i := 50) rfl))) (mvT hZ (hw _ (List.mem_of_getElem? (i := 51) rfl))) (notFace_of_selects (args := #[]) (mvT hZ (hw _ (List.mem_of_getElem? (i := 53) rfl)))) (mvT hZ (hw _ (List.mem_of_getElem? (i := 53) rfl))) (mvT hZ (hw _ (List.mem_of_getElem? (i := 52) rfl))) (by decide) (backOf (W := 0) (rmPrint l Z a0 hw [] b116 t k b_120 kb_120 lo mid hi T122.heap O122 PunprintableCount_122 Pu_122 Qb_122 hk) hZ (hw _ (List.mem_of_getElem? (i := 54) rfl)) (hw _ (List.mem_of_getElem? (i := 11) rfl)) (by decide) (by decide)) q147a q147c (g := (mkF m 276 #[.val (.int a), .val (.int b), .val (.int cc), .val (.int q), .val (.int n), .val (.int lo), .val (.int hi), .val (.int mid), .val (.int k), .val (.int sel), .val (.int t), .val (.ref b101), .val (.ref b103), .val (.ref b105), .val (.ref b116), .val (.int (1 : Int32))] [(.int t), (.ref b116)])) rfl (by rw [hml]; rfl) (Steps.refl _) (argsL := [(.int t)]) (rest := []) (lenOf pd__I_Z rfl) rfl (by show 2 * 0 + _ ≤ _; exact Nat.le_of_eq rfl) (hb hby at_276) (fun _ _ => ⟨rfl, rfl, (by decide : 5 + 0 ≤ _), (by decide : 20 + 0 ≤ _)⟩)
          dsimp only [Pt.U, Pt.locs, Pt.cells, Pt.slots] at X147 l147 y147 z147 st147 hQ147
          subst l147 y147 z147
          obtain ⟨rfl, rfl, e147⟩ := hQ147
          have N147 := Fr.app N122 (Fr.nil _)
          refine Go.tr st147 ?_
          show Go p e below _ (T147.setTop (mkF m 279 #[.val (.int a), .val (.int b), .val (.int cc), .val (.int q), .val (.int n), .val (.int lo), .val (.int hi), .val (.int mid), .val (.int k), .val (.int sel), .val (.int t), .val (.ref b101), .val (.ref b103), .val (.ref b105), .val (.ref b116), .val (.int (1 : Int32))] [(.int (own_pr k t lo mid hi))]))
          refine Go.st (fun t' k' => XS.iload X147.here hx rfl (hb hby at_279) rfl k') ?_
          show Go p e below _ (T147.setTop (mkF m 281 #[.val (.int a), .val (.int b), .val (.int cc), .val (.int q), .val (.int n), .val (.int lo), .val (.int hi), .val (.int mid), .val (.int k), .val (.int sel), .val (.int t), .val (.ref b101), .val (.ref b103), .val (.ref b105), .val (.ref b116), .val (.int (1 : Int32))] [(.int (1 : Int32)), (.int (own_pr k t lo mid hi))]))
          refine Go.st (fun t' k' => XS.ifYes X147.here hx rfl (pc0 := 281) (pc' := 288) rfl (hb hby at_281) rfl ((if0 _ _).trans (feq (by decide : ¬ ((1 : Int32) = (0 : Int32)))).2) (by decide) (by decide) k') ?_
          show Go p e below _ (T147.setTop (mkF m 288 #[.val (.int a), .val (.int b), .val (.int cc), .val (.int q), .val (.int n), .val (.int lo), .val (.int hi), .val (.int mid), .val (.int k), .val (.int sel), .val (.int t), .val (.ref b101), .val (.ref b103), .val (.ref b105), .val (.ref b116), .val (.int (1 : Int32))] [(.int (own_pr k t lo mid hi))]))
          refine Go.st (fun t' k' => XS.iconst X147.here hx rfl (hb hby at_288) k') ?_
          show Go p e below _ (T147.setTop (mkF m 289 #[.val (.int a), .val (.int b), .val (.int cc), .val (.int q), .val (.int n), .val (.int lo), .val (.int hi), .val (.int mid), .val (.int k), .val (.int sel), .val (.int t), .val (.ref b101), .val (.ref b103), .val (.ref b105), .val (.ref b116), .val (.int (1 : Int32))] [(.int (0 : Int32)), (.int (own_pr k t lo mid hi))]))
          refine Go.st (fun t' k' => XS.icmpNo X147.here hx rfl (hb hby at_289) rfl (teq (by unfold own_pr; split; all_goals (rename_i hh); all_goals first | rfl | (exfalso; simp only [Int32.lt_iff_toInt_lt, ← Int32.toInt_inj, Int32.reduceToInt] at hh hk hc229_124 hc236_138 hc242_140 hc249_146; omega))).2 k') ?_
          show Go p e below _ (T147.setTop (mkF m 292 #[.val (.int a), .val (.int b), .val (.int cc), .val (.int q), .val (.int n), .val (.int lo), .val (.int hi), .val (.int mid), .val (.int k), .val (.int sel), .val (.int t), .val (.ref b101), .val (.ref b103), .val (.ref b105), .val (.ref b116), .val (.int (1 : Int32))] []))
          refine Go.st (fun t' k' => XS.iconst X147.here hx rfl (hb hby at_292) k') ?_
          show Go p e below _ (T147.setTop (mkF m 293 #[.val (.int a), .val (.int b), .val (.int cc), .val (.int q), .val (.int n), .val (.int lo), .val (.int hi), .val (.int mid), .val (.int k), .val (.int sel), .val (.int t), .val (.ref b101), .val (.ref b103), .val (.ref b105), .val (.ref b116), .val (.int (1 : Int32))] [(.int (1 : Int32))]))
          refine Go.st (fun t' k' => XS.goto X147.here hx rfl (pc0 := 293) (pc' := 297) rfl (hb hby at_293) (by decide) (by decide) k') ?_
          show Go p e below _ (T147.setTop (mkF m 297 #[.val (.int a), .val (.int b), .val (.int cc), .val (.int q), .val (.int n), .val (.int lo), .val (.int hi), .val (.int mid), .val (.int k), .val (.int sel), .val (.int t), .val (.ref b101), .val (.ref b103), .val (.ref b105), .val (.ref b116), .val (.int (1 : Int32))] [(.int (1 : Int32))]))
          exact Go.outN X147 hx hlk (t := .boolean) hret (by simp) (hb hby at_297) (Q := Q_rm0 Z a b cc q n w_NO_BYTES w_NO_NUMBERS k_B k_N h0) (by rw [e147]; exact ⟨rfl, N147⟩) (by decide) (by decide)
        · refine Go.st (fun t' k' => XS.icmpNo X122.here hx rfl (hb hby at_249) rfl (feq hc249_146).1 k') ?_
          show Go p e below _ (T122.setTop (mkF m 252 #[.val (.int a), .val (.int b), .val (.int cc), .val (.int q), .val (.int n), .val (.int lo), .val (.int hi), .val (.int mid), .val (.int k), .val (.int sel), .val (.int t), .val (.ref b101), .val (.ref b103), .val (.ref b105), .val (.ref b116), .unset] []))
          refine Go.st (fun t' k' => XS.iload X122.here hx rfl (hb hby at_252) rfl k') ?_
          show Go p e below _ (T122.setTop (mkF m 254 #[.val (.int a), .val (.int b), .val (.int cc), .val (.int q), .val (.int n), .val (.int lo), .val (.int hi), .val (.int mid), .val (.int k), .val (.int sel), .val (.int t), .val (.ref b101), .val (.ref b103), .val (.ref b105), .val (.ref b116), .unset] [(.int k)]))
          refine Go.st (fun t' k' => XS.iconst X122.here hx rfl (hb hby at_254) k') ?_
          show Go p e below _ (T122.setTop (mkF m 255 #[.val (.int a), .val (.int b), .val (.int cc), .val (.int q), .val (.int n), .val (.int lo), .val (.int hi), .val (.int mid), .val (.int k), .val (.int sel), .val (.int t), .val (.ref b101), .val (.ref b103), .val (.ref b105), .val (.ref b116), .unset] [(.int (3 : Int32)), (.int k)]))
          by_cases hc255_148 : k < (3 : Int32)
          · refine Go.st (fun t' k' => XS.icmpYes X122.here hx rfl (pc0 := 255) (pc' := 269) rfl (hb hby at_255) rfl (tlt hc255_148).1 (by decide) (by decide) k') ?_
            show Go p e below _ (T122.setTop (mkF m 269 #[.val (.int a), .val (.int b), .val (.int cc), .val (.int q), .val (.int n), .val (.int lo), .val (.int hi), .val (.int mid), .val (.int k), .val (.int sel), .val (.int t), .val (.ref b101), .val (.ref b103), .val (.ref b105), .val (.ref b116), .unset] []))
            refine Go.st (fun t' k' => XS.iconst X122.here hx rfl (hb hby at_269) k') ?_
            show Go p e below _ (T122.setTop (mkF m 270 #[.val (.int a), .val (.int b), .val (.int cc), .val (.int q), .val (.int n), .val (.int lo), .val (.int hi), .val (.int mid), .val (.int k), .val (.int sel), .val (.int t), .val (.ref b101), .val (.ref b103), .val (.ref b105), .val (.ref b116), .unset] [(.int (0 : Int32))]))
            refine Go.st (fun t' k' => XS.istore X122.here hx rfl (hb hby at_270) rfl (l' := #[.val (.int a), .val (.int b), .val (.int cc), .val (.int q), .val (.int n), .val (.int lo), .val (.int hi), .val (.int mid), .val (.int k), .val (.int sel), .val (.int t), .val (.ref b101), .val (.ref b103), .val (.ref b105), .val (.ref b116), .val (.int (0 : Int32))]) rfl k') ?_
            show Go p e below _ (T122.setTop (mkF m 272 #[.val (.int a), .val (.int b), .val (.int cc), .val (.int q), .val (.int n), .val (.int lo), .val (.int hi), .val (.int mid), .val (.int k), .val (.int sel), .val (.int t), .val (.ref b101), .val (.ref b103), .val (.ref b105), .val (.ref b116), .val (.int (0 : Int32))] []))
            refine Go.st (fun t' k' => XS.aload X122.here hx rfl (hb hby at_272) rfl rfl k') ?_
            show Go p e below _ (T122.setTop (mkF m 274 #[.val (.int a), .val (.int b), .val (.int cc), .val (.int q), .val (.int n), .val (.int lo), .val (.int hi), .val (.int mid), .val (.int k), .val (.int sel), .val (.int t), .val (.ref b101), .val (.ref b103), .val (.ref b105), .val (.ref b116), .val (.int (0 : Int32))] [(.ref b116)]))
            refine Go.st (fun t' k' => XS.iload X122.here hx rfl (hb hby at_274) rfl k') ?_
            show Go p e below _ (T122.setTop (mkF m 276 #[.val (.int a), .val (.int b), .val (.int cc), .val (.int q), .val (.int n), .val (.int lo), .val (.int hi), .val (.int mid), .val (.int k), .val (.int sel), .val (.int t), .val (.ref b101), .val (.ref b103), .val (.ref b105), .val (.ref b116), .val (.int (0 : Int32))] [(.int t), (.ref b116)]))
            obtain ⟨cq149, kq149, q149a, q149b, q149c⟩ := isOf hZ rfl A116_h123
            obtain ⟨_, _, ⟨T149, L149, k149, n149⟩, -, X149, ⟨Lc149, hQ149, l149, y149, z149⟩, st149⟩ := X122.virtualBack hx (y := (⟨"com/example/harakeke/harakeke/model/Record", "isPrintable", "(I)Z"⟩ : MethodName)) (z := (⟨"com/example/harakeke/harakeke/model/Record", "isPrintable", "(I)Z"⟩ : MethodName)) hown (mvT hZ (hw _ (List.mem_of_getElem? (i := 50) rfl))) (mvT hZ (hw _ (List.mem_of_getElem? (i := 51) rfl))) (notFace_of_selects (args := #[]) (mvT hZ (hw _ (List.mem_of_getElem? (i := 53) rfl)))) (mvT hZ (hw _ (List.mem_of_getElem? (i := 53) rfl))) (mvT hZ (hw _ (List.mem_of_getElem? (i := 52) rfl))) (by decide) (backOf (W := 0) (rmPrint l Z a0 hw [] b116 t k b_120 kb_120 lo mid hi T122.heap O122 PunprintableCount_122 Pu_122 Qb_122 hk) hZ (hw _ (List.mem_of_getElem? (i := 54) rfl)) (hw _ (List.mem_of_getElem? (i := 11) rfl)) (by decide) (by decide)) q149a q149c (g := (mkF m 276 #[.val (.int a), .val (.int b), .val (.int cc), .val (.int q), .val (.int n), .val (.int lo), .val (.int hi), .val (.int mid), .val (.int k), .val (.int sel), .val (.int t), .val (.ref b101), .val (.ref b103), .val (.ref b105), .val (.ref b116), .val (.int (0 : Int32))] [(.int t), (.ref b116)])) rfl (by rw [hml]; rfl) (Steps.refl _) (argsL := [(.int t)]) (rest := []) (lenOf pd__I_Z rfl) rfl (by show 2 * 0 + _ ≤ _; exact Nat.le_of_eq rfl) (hb hby at_276) (fun _ _ => ⟨rfl, rfl, (by decide : 5 + 0 ≤ _), (by decide : 20 + 0 ≤ _)⟩)
            dsimp only [Pt.U, Pt.locs, Pt.cells, Pt.slots] at X149 l149 y149 z149 st149 hQ149
            subst l149 y149 z149
            obtain ⟨rfl, rfl, e149⟩ := hQ149
            have N149 := Fr.app N122 (Fr.nil _)
            refine Go.tr st149 ?_
            show Go p e below _ (T149.setTop (mkF m 279 #[.val (.int a), .val (.int b), .val (.int cc), .val (.int q), .val (.int n), .val (.int lo), .val (.int hi), .val (.int mid), .val (.int k), .val (.int sel), .val (.int t), .val (.ref b101), .val (.ref b103), .val (.ref b105), .val (.ref b116), .val (.int (0 : Int32))] [(.int (own_pr k t lo mid hi))]))
            refine Go.st (fun t' k' => XS.iload X149.here hx rfl (hb hby at_279) rfl k') ?_
            show Go p e below _ (T149.setTop (mkF m 281 #[.val (.int a), .val (.int b), .val (.int cc), .val (.int q), .val (.int n), .val (.int lo), .val (.int hi), .val (.int mid), .val (.int k), .val (.int sel), .val (.int t), .val (.ref b101), .val (.ref b103), .val (.ref b105), .val (.ref b116), .val (.int (0 : Int32))] [(.int (0 : Int32)), (.int (own_pr k t lo mid hi))]))
            refine Go.st (fun t' k' => XS.ifNo X149.here hx rfl (hb hby at_281) rfl ((if0 _ _).trans (teq (by decide : (0 : Int32) = (0 : Int32))).2) k') ?_
            show Go p e below _ (T149.setTop (mkF m 284 #[.val (.int a), .val (.int b), .val (.int cc), .val (.int q), .val (.int n), .val (.int lo), .val (.int hi), .val (.int mid), .val (.int k), .val (.int sel), .val (.int t), .val (.ref b101), .val (.ref b103), .val (.ref b105), .val (.ref b116), .val (.int (0 : Int32))] [(.int (own_pr k t lo mid hi))]))
            refine Go.st (fun t' k' => XS.iconst X149.here hx rfl (hb hby at_284) k') ?_
            show Go p e below _ (T149.setTop (mkF m 285 #[.val (.int a), .val (.int b), .val (.int cc), .val (.int q), .val (.int n), .val (.int lo), .val (.int hi), .val (.int mid), .val (.int k), .val (.int sel), .val (.int t), .val (.ref b101), .val (.ref b103), .val (.ref b105), .val (.ref b116), .val (.int (0 : Int32))] [(.int (1 : Int32)), (.int (own_pr k t lo mid hi))]))
            refine Go.st (fun t' k' => XS.goto X149.here hx rfl (pc0 := 285) (pc' := 289) rfl (hb hby at_285) (by decide) (by decide) k') ?_
            show Go p e below _ (T149.setTop (mkF m 289 #[.val (.int a), .val (.int b), .val (.int cc), .val (.int q), .val (.int n), .val (.int lo), .val (.int hi), .val (.int mid), .val (.int k), .val (.int sel), .val (.int t), .val (.ref b101), .val (.ref b103), .val (.ref b105), .val (.ref b116), .val (.int (0 : Int32))] [(.int (1 : Int32)), (.int (own_pr k t lo mid hi))]))
            refine Go.st (fun t' k' => XS.icmpNo X149.here hx rfl (hb hby at_289) rfl (teq (by unfold own_pr; split; all_goals (rename_i hh); all_goals first | rfl | (exfalso; simp only [Int32.lt_iff_toInt_lt, ← Int32.toInt_inj, Int32.reduceToInt] at hh hk hc229_124 hc236_138 hc242_140 hc249_146 hc255_148; omega))).2 k') ?_
            show Go p e below _ (T149.setTop (mkF m 292 #[.val (.int a), .val (.int b), .val (.int cc), .val (.int q), .val (.int n), .val (.int lo), .val (.int hi), .val (.int mid), .val (.int k), .val (.int sel), .val (.int t), .val (.ref b101), .val (.ref b103), .val (.ref b105), .val (.ref b116), .val (.int (0 : Int32))] []))
            refine Go.st (fun t' k' => XS.iconst X149.here hx rfl (hb hby at_292) k') ?_
            show Go p e below _ (T149.setTop (mkF m 293 #[.val (.int a), .val (.int b), .val (.int cc), .val (.int q), .val (.int n), .val (.int lo), .val (.int hi), .val (.int mid), .val (.int k), .val (.int sel), .val (.int t), .val (.ref b101), .val (.ref b103), .val (.ref b105), .val (.ref b116), .val (.int (0 : Int32))] [(.int (1 : Int32))]))
            refine Go.st (fun t' k' => XS.goto X149.here hx rfl (pc0 := 293) (pc' := 297) rfl (hb hby at_293) (by decide) (by decide) k') ?_
            show Go p e below _ (T149.setTop (mkF m 297 #[.val (.int a), .val (.int b), .val (.int cc), .val (.int q), .val (.int n), .val (.int lo), .val (.int hi), .val (.int mid), .val (.int k), .val (.int sel), .val (.int t), .val (.ref b101), .val (.ref b103), .val (.ref b105), .val (.ref b116), .val (.int (0 : Int32))] [(.int (1 : Int32))]))
            exact Go.outN X149 hx hlk (t := .boolean) hret (by simp) (hb hby at_297) (Q := Q_rm0 Z a b cc q n w_NO_BYTES w_NO_NUMBERS k_B k_N h0) (by rw [e149]; exact ⟨rfl, N149⟩) (by decide) (by decide)
          · refine Go.st (fun t' k' => XS.icmpNo X122.here hx rfl (hb hby at_255) rfl (flt hc255_148).1 k') ?_
            show Go p e below _ (T122.setTop (mkF m 258 #[.val (.int a), .val (.int b), .val (.int cc), .val (.int q), .val (.int n), .val (.int lo), .val (.int hi), .val (.int mid), .val (.int k), .val (.int sel), .val (.int t), .val (.ref b101), .val (.ref b103), .val (.ref b105), .val (.ref b116), .unset] []))
            refine Go.st (fun t' k' => XS.iload X122.here hx rfl (hb hby at_258) rfl k') ?_
            show Go p e below _ (T122.setTop (mkF m 260 #[.val (.int a), .val (.int b), .val (.int cc), .val (.int q), .val (.int n), .val (.int lo), .val (.int hi), .val (.int mid), .val (.int k), .val (.int sel), .val (.int t), .val (.ref b101), .val (.ref b103), .val (.ref b105), .val (.ref b116), .unset] [(.int t)]))
            refine Go.st (fun t' k' => XS.iload X122.here hx rfl (hb hby at_260) rfl k') ?_
            show Go p e below _ (T122.setTop (mkF m 262 #[.val (.int a), .val (.int b), .val (.int cc), .val (.int q), .val (.int n), .val (.int lo), .val (.int hi), .val (.int mid), .val (.int k), .val (.int sel), .val (.int t), .val (.ref b101), .val (.ref b103), .val (.ref b105), .val (.ref b116), .unset] [(.int hi), (.int t)]))
            by_cases hc262_150 : t = hi
            · refine Go.st (fun t' k' => XS.icmpNo X122.here hx rfl (hb hby at_262) rfl (teq hc262_150).2 k') ?_
              show Go p e below _ (T122.setTop (mkF m 265 #[.val (.int a), .val (.int b), .val (.int cc), .val (.int q), .val (.int n), .val (.int lo), .val (.int hi), .val (.int mid), .val (.int k), .val (.int sel), .val (.int t), .val (.ref b101), .val (.ref b103), .val (.ref b105), .val (.ref b116), .unset] []))
              refine Go.st (fun t' k' => XS.iconst X122.here hx rfl (hb hby at_265) k') ?_
              show Go p e below _ (T122.setTop (mkF m 266 #[.val (.int a), .val (.int b), .val (.int cc), .val (.int q), .val (.int n), .val (.int lo), .val (.int hi), .val (.int mid), .val (.int k), .val (.int sel), .val (.int t), .val (.ref b101), .val (.ref b103), .val (.ref b105), .val (.ref b116), .unset] [(.int (1 : Int32))]))
              refine Go.st (fun t' k' => XS.goto X122.here hx rfl (pc0 := 266) (pc' := 270) rfl (hb hby at_266) (by decide) (by decide) k') ?_
              show Go p e below _ (T122.setTop (mkF m 270 #[.val (.int a), .val (.int b), .val (.int cc), .val (.int q), .val (.int n), .val (.int lo), .val (.int hi), .val (.int mid), .val (.int k), .val (.int sel), .val (.int t), .val (.ref b101), .val (.ref b103), .val (.ref b105), .val (.ref b116), .unset] [(.int (1 : Int32))]))
              refine Go.st (fun t' k' => XS.istore X122.here hx rfl (hb hby at_270) rfl (l' := #[.val (.int a), .val (.int b), .val (.int cc), .val (.int q), .val (.int n), .val (.int lo), .val (.int hi), .val (.int mid), .val (.int k), .val (.int sel), .val (.int t), .val (.ref b101), .val (.ref b103), .val (.ref b105), .val (.ref b116), .val (.int (1 : Int32))]) rfl k') ?_
              show Go p e below _ (T122.setTop (mkF m 272 #[.val (.int a), .val (.int b), .val (.int cc), .val (.int q), .val (.int n), .val (.int lo), .val (.int hi), .val (.int mid), .val (.int k), .val (.int sel), .val (.int t), .val (.ref b101), .val (.ref b103), .val (.ref b105), .val (.ref b116), .val (.int (1 : Int32))] []))
              refine Go.st (fun t' k' => XS.aload X122.here hx rfl (hb hby at_272) rfl rfl k') ?_
              show Go p e below _ (T122.setTop (mkF m 274 #[.val (.int a), .val (.int b), .val (.int cc), .val (.int q), .val (.int n), .val (.int lo), .val (.int hi), .val (.int mid), .val (.int k), .val (.int sel), .val (.int t), .val (.ref b101), .val (.ref b103), .val (.ref b105), .val (.ref b116), .val (.int (1 : Int32))] [(.ref b116)]))
              refine Go.st (fun t' k' => XS.iload X122.here hx rfl (hb hby at_274) rfl k') ?_
              show Go p e below _ (T122.setTop (mkF m 276 #[.val (.int a), .val (.int b), .val (.int cc), .val (.int q), .val (.int n), .val (.int lo), .val (.int hi), .val (.int mid), .val (.int k), .val (.int sel), .val (.int t), .val (.ref b101), .val (.ref b103), .val (.ref b105), .val (.ref b116), .val (.int (1 : Int32))] [(.int t), (.ref b116)]))
              obtain ⟨cq151, kq151, q151a, q151b, q151c⟩ := isOf hZ rfl A116_h123
              obtain ⟨_, _, ⟨T151, L151, k151, n151⟩, -, X151, ⟨Lc151, hQ151, l151, y151, z151⟩, st151⟩ := X122.virtualBack hx (y := (⟨"com/example/harakeke/harakeke/model/Record", "isPrintable", "(I)Z"⟩ : MethodName)) (z := (⟨"com/example/harakeke/harakeke/model/Record", "isPrintable", "(I)Z"⟩ : MethodName)) hown (mvT hZ (hw _ (List.mem_of_getElem? (i := 50) rfl))) (mvT hZ (hw _ (List.mem_of_getElem? (i := 51) rfl))) (notFace_of_selects (args := #[]) (mvT hZ (hw _ (List.mem_of_getElem? (i := 53) rfl)))) (mvT hZ (hw _ (List.mem_of_getElem? (i := 53) rfl))) (mvT hZ (hw _ (List.mem_of_getElem? (i := 52) rfl))) (by decide) (backOf (W := 0) (rmPrint l Z a0 hw [] b116 t k b_120 kb_120 lo mid hi T122.heap O122 PunprintableCount_122 Pu_122 Qb_122 hk) hZ (hw _ (List.mem_of_getElem? (i := 54) rfl)) (hw _ (List.mem_of_getElem? (i := 11) rfl)) (by decide) (by decide)) q151a q151c (g := (mkF m 276 #[.val (.int a), .val (.int b), .val (.int cc), .val (.int q), .val (.int n), .val (.int lo), .val (.int hi), .val (.int mid), .val (.int k), .val (.int sel), .val (.int t), .val (.ref b101), .val (.ref b103), .val (.ref b105), .val (.ref b116), .val (.int (1 : Int32))] [(.int t), (.ref b116)])) rfl (by rw [hml]; rfl) (Steps.refl _) (argsL := [(.int t)]) (rest := []) (lenOf pd__I_Z rfl) rfl (by show 2 * 0 + _ ≤ _; exact Nat.le_of_eq rfl) (hb hby at_276) (fun _ _ => ⟨rfl, rfl, (by decide : 5 + 0 ≤ _), (by decide : 20 + 0 ≤ _)⟩)
              dsimp only [Pt.U, Pt.locs, Pt.cells, Pt.slots] at X151 l151 y151 z151 st151 hQ151
              subst l151 y151 z151
              obtain ⟨rfl, rfl, e151⟩ := hQ151
              have N151 := Fr.app N122 (Fr.nil _)
              refine Go.tr st151 ?_
              show Go p e below _ (T151.setTop (mkF m 279 #[.val (.int a), .val (.int b), .val (.int cc), .val (.int q), .val (.int n), .val (.int lo), .val (.int hi), .val (.int mid), .val (.int k), .val (.int sel), .val (.int t), .val (.ref b101), .val (.ref b103), .val (.ref b105), .val (.ref b116), .val (.int (1 : Int32))] [(.int (own_pr k t lo mid hi))]))
              refine Go.st (fun t' k' => XS.iload X151.here hx rfl (hb hby at_279) rfl k') ?_
              show Go p e below _ (T151.setTop (mkF m 281 #[.val (.int a), .val (.int b), .val (.int cc), .val (.int q), .val (.int n), .val (.int lo), .val (.int hi), .val (.int mid), .val (.int k), .val (.int sel), .val (.int t), .val (.ref b101), .val (.ref b103), .val (.ref b105), .val (.ref b116), .val (.int (1 : Int32))] [(.int (1 : Int32)), (.int (own_pr k t lo mid hi))]))
              refine Go.st (fun t' k' => XS.ifYes X151.here hx rfl (pc0 := 281) (pc' := 288) rfl (hb hby at_281) rfl ((if0 _ _).trans (feq (by decide : ¬ ((1 : Int32) = (0 : Int32)))).2) (by decide) (by decide) k') ?_
              show Go p e below _ (T151.setTop (mkF m 288 #[.val (.int a), .val (.int b), .val (.int cc), .val (.int q), .val (.int n), .val (.int lo), .val (.int hi), .val (.int mid), .val (.int k), .val (.int sel), .val (.int t), .val (.ref b101), .val (.ref b103), .val (.ref b105), .val (.ref b116), .val (.int (1 : Int32))] [(.int (own_pr k t lo mid hi))]))
              refine Go.st (fun t' k' => XS.iconst X151.here hx rfl (hb hby at_288) k') ?_
              show Go p e below _ (T151.setTop (mkF m 289 #[.val (.int a), .val (.int b), .val (.int cc), .val (.int q), .val (.int n), .val (.int lo), .val (.int hi), .val (.int mid), .val (.int k), .val (.int sel), .val (.int t), .val (.ref b101), .val (.ref b103), .val (.ref b105), .val (.ref b116), .val (.int (1 : Int32))] [(.int (0 : Int32)), (.int (own_pr k t lo mid hi))]))
              refine Go.st (fun t' k' => XS.icmpNo X151.here hx rfl (hb hby at_289) rfl (teq (by unfold own_pr; split; all_goals (rename_i hh); all_goals first | rfl | (exfalso; simp only [Int32.lt_iff_toInt_lt, ← Int32.toInt_inj, Int32.reduceToInt] at hh hk hc229_124 hc236_138 hc242_140 hc249_146 hc255_148 hc262_150; omega))).2 k') ?_
              show Go p e below _ (T151.setTop (mkF m 292 #[.val (.int a), .val (.int b), .val (.int cc), .val (.int q), .val (.int n), .val (.int lo), .val (.int hi), .val (.int mid), .val (.int k), .val (.int sel), .val (.int t), .val (.ref b101), .val (.ref b103), .val (.ref b105), .val (.ref b116), .val (.int (1 : Int32))] []))
              refine Go.st (fun t' k' => XS.iconst X151.here hx rfl (hb hby at_292) k') ?_
              show Go p e below _ (T151.setTop (mkF m 293 #[.val (.int a), .val (.int b), .val (.int cc), .val (.int q), .val (.int n), .val (.int lo), .val (.int hi), .val (.int mid), .val (.int k), .val (.int sel), .val (.int t), .val (.ref b101), .val (.ref b103), .val (.ref b105), .val (.ref b116), .val (.int (1 : Int32))] [(.int (1 : Int32))]))
              refine Go.st (fun t' k' => XS.goto X151.here hx rfl (pc0 := 293) (pc' := 297) rfl (hb hby at_293) (by decide) (by decide) k') ?_
              show Go p e below _ (T151.setTop (mkF m 297 #[.val (.int a), .val (.int b), .val (.int cc), .val (.int q), .val (.int n), .val (.int lo), .val (.int hi), .val (.int mid), .val (.int k), .val (.int sel), .val (.int t), .val (.ref b101), .val (.ref b103), .val (.ref b105), .val (.ref b116), .val (.int (1 : Int32))] [(.int (1 : Int32))]))
              exact Go.outN X151 hx hlk (t := .boolean) hret (by simp) (hb hby at_297) (Q := Q_rm0 Z a b cc q n w_NO_BYTES w_NO_NUMBERS k_B k_N h0) (by rw [e151]; exact ⟨rfl, N151⟩) (by decide) (by decide)
            · refine Go.st (fun t' k' => XS.icmpYes X122.here hx rfl (pc0 := 262) (pc' := 269) rfl (hb hby at_262) rfl (feq hc262_150).2 (by decide) (by decide) k') ?_
              show Go p e below _ (T122.setTop (mkF m 269 #[.val (.int a), .val (.int b), .val (.int cc), .val (.int q), .val (.int n), .val (.int lo), .val (.int hi), .val (.int mid), .val (.int k), .val (.int sel), .val (.int t), .val (.ref b101), .val (.ref b103), .val (.ref b105), .val (.ref b116), .unset] []))
              refine Go.st (fun t' k' => XS.iconst X122.here hx rfl (hb hby at_269) k') ?_
              show Go p e below _ (T122.setTop (mkF m 270 #[.val (.int a), .val (.int b), .val (.int cc), .val (.int q), .val (.int n), .val (.int lo), .val (.int hi), .val (.int mid), .val (.int k), .val (.int sel), .val (.int t), .val (.ref b101), .val (.ref b103), .val (.ref b105), .val (.ref b116), .unset] [(.int (0 : Int32))]))
              refine Go.st (fun t' k' => XS.istore X122.here hx rfl (hb hby at_270) rfl (l' := #[.val (.int a), .val (.int b), .val (.int cc), .val (.int q), .val (.int n), .val (.int lo), .val (.int hi), .val (.int mid), .val (.int k), .val (.int sel), .val (.int t), .val (.ref b101), .val (.ref b103), .val (.ref b105), .val (.ref b116), .val (.int (0 : Int32))]) rfl k') ?_
              show Go p e below _ (T122.setTop (mkF m 272 #[.val (.int a), .val (.int b), .val (.int cc), .val (.int q), .val (.int n), .val (.int lo), .val (.int hi), .val (.int mid), .val (.int k), .val (.int sel), .val (.int t), .val (.ref b101), .val (.ref b103), .val (.ref b105), .val (.ref b116), .val (.int (0 : Int32))] []))
              refine Go.st (fun t' k' => XS.aload X122.here hx rfl (hb hby at_272) rfl rfl k') ?_
              show Go p e below _ (T122.setTop (mkF m 274 #[.val (.int a), .val (.int b), .val (.int cc), .val (.int q), .val (.int n), .val (.int lo), .val (.int hi), .val (.int mid), .val (.int k), .val (.int sel), .val (.int t), .val (.ref b101), .val (.ref b103), .val (.ref b105), .val (.ref b116), .val (.int (0 : Int32))] [(.ref b116)]))
              refine Go.st (fun t' k' => XS.iload X122.here hx rfl (hb hby at_274) rfl k') ?_
              show Go p e below _ (T122.setTop (mkF m 276 #[.val (.int a), .val (.int b), .val (.int cc), .val (.int q), .val (.int n), .val (.int lo), .val (.int hi), .val (.int mid), .val (.int k), .val (.int sel), .val (.int t), .val (.ref b101), .val (.ref b103), .val (.ref b105), .val (.ref b116), .val (.int (0 : Int32))] [(.int t), (.ref b116)]))
              obtain ⟨cq152, kq152, q152a, q152b, q152c⟩ := isOf hZ rfl A116_h123
              obtain ⟨_, _, ⟨T152, L152, k152, n152⟩, -, X152, ⟨Lc152, hQ152, l152, y152, z152⟩, st152⟩ := X122.virtualBack hx (y := (⟨"com/example/harakeke/harakeke/model/Record", "isPrintable", "(I)Z"⟩ : MethodName)) (z := (⟨"com/example/harakeke/harakeke/model/Record", "isPrintable", "(I)Z"⟩ : MethodName)) hown (mvT hZ (hw _ (List.mem_of_getElem? (i := 50) rfl))) (mvT hZ (hw _ (List.mem_of_getElem? (i := 51) rfl))) (notFace_of_selects (args := #[]) (mvT hZ (hw _ (List.mem_of_getElem? (i := 53) rfl)))) (mvT hZ (hw _ (List.mem_of_getElem? (i := 53) rfl))) (mvT hZ (hw _ (List.mem_of_getElem? (i := 52) rfl))) (by decide) (backOf (W := 0) (rmPrint l Z a0 hw [] b116 t k b_120 kb_120 lo mid hi T122.heap O122 PunprintableCount_122 Pu_122 Qb_122 hk) hZ (hw _ (List.mem_of_getElem? (i := 54) rfl)) (hw _ (List.mem_of_getElem? (i := 11) rfl)) (by decide) (by decide)) q152a q152c (g := (mkF m 276 #[.val (.int a), .val (.int b), .val (.int cc), .val (.int q), .val (.int n), .val (.int lo), .val (.int hi), .val (.int mid), .val (.int k), .val (.int sel), .val (.int t), .val (.ref b101), .val (.ref b103), .val (.ref b105), .val (.ref b116), .val (.int (0 : Int32))] [(.int t), (.ref b116)])) rfl (by rw [hml]; rfl) (Steps.refl _) (argsL := [(.int t)]) (rest := []) (lenOf pd__I_Z rfl) rfl (by show 2 * 0 + _ ≤ _; exact Nat.le_of_eq rfl) (hb hby at_276) (fun _ _ => ⟨rfl, rfl, (by decide : 5 + 0 ≤ _), (by decide : 20 + 0 ≤ _)⟩)
              dsimp only [Pt.U, Pt.locs, Pt.cells, Pt.slots] at X152 l152 y152 z152 st152 hQ152
              subst l152 y152 z152
              obtain ⟨rfl, rfl, e152⟩ := hQ152
              have N152 := Fr.app N122 (Fr.nil _)
              refine Go.tr st152 ?_
              show Go p e below _ (T152.setTop (mkF m 279 #[.val (.int a), .val (.int b), .val (.int cc), .val (.int q), .val (.int n), .val (.int lo), .val (.int hi), .val (.int mid), .val (.int k), .val (.int sel), .val (.int t), .val (.ref b101), .val (.ref b103), .val (.ref b105), .val (.ref b116), .val (.int (0 : Int32))] [(.int (own_pr k t lo mid hi))]))
              refine Go.st (fun t' k' => XS.iload X152.here hx rfl (hb hby at_279) rfl k') ?_
              show Go p e below _ (T152.setTop (mkF m 281 #[.val (.int a), .val (.int b), .val (.int cc), .val (.int q), .val (.int n), .val (.int lo), .val (.int hi), .val (.int mid), .val (.int k), .val (.int sel), .val (.int t), .val (.ref b101), .val (.ref b103), .val (.ref b105), .val (.ref b116), .val (.int (0 : Int32))] [(.int (0 : Int32)), (.int (own_pr k t lo mid hi))]))
              refine Go.st (fun t' k' => XS.ifNo X152.here hx rfl (hb hby at_281) rfl ((if0 _ _).trans (teq (by decide : (0 : Int32) = (0 : Int32))).2) k') ?_
              show Go p e below _ (T152.setTop (mkF m 284 #[.val (.int a), .val (.int b), .val (.int cc), .val (.int q), .val (.int n), .val (.int lo), .val (.int hi), .val (.int mid), .val (.int k), .val (.int sel), .val (.int t), .val (.ref b101), .val (.ref b103), .val (.ref b105), .val (.ref b116), .val (.int (0 : Int32))] [(.int (own_pr k t lo mid hi))]))
              refine Go.st (fun t' k' => XS.iconst X152.here hx rfl (hb hby at_284) k') ?_
              show Go p e below _ (T152.setTop (mkF m 285 #[.val (.int a), .val (.int b), .val (.int cc), .val (.int q), .val (.int n), .val (.int lo), .val (.int hi), .val (.int mid), .val (.int k), .val (.int sel), .val (.int t), .val (.ref b101), .val (.ref b103), .val (.ref b105), .val (.ref b116), .val (.int (0 : Int32))] [(.int (1 : Int32)), (.int (own_pr k t lo mid hi))]))
              refine Go.st (fun t' k' => XS.goto X152.here hx rfl (pc0 := 285) (pc' := 289) rfl (hb hby at_285) (by decide) (by decide) k') ?_
              show Go p e below _ (T152.setTop (mkF m 289 #[.val (.int a), .val (.int b), .val (.int cc), .val (.int q), .val (.int n), .val (.int lo), .val (.int hi), .val (.int mid), .val (.int k), .val (.int sel), .val (.int t), .val (.ref b101), .val (.ref b103), .val (.ref b105), .val (.ref b116), .val (.int (0 : Int32))] [(.int (1 : Int32)), (.int (own_pr k t lo mid hi))]))
              refine Go.st (fun t' k' => XS.icmpNo X152.here hx rfl (hb hby at_289) rfl (teq (by unfold own_pr; split; all_goals (rename_i hh); all_goals first | rfl | (exfalso; simp only [Int32.lt_iff_toInt_lt, ← Int32.toInt_inj, Int32.reduceToInt] at hh hk hc229_124 hc236_138 hc242_140 hc249_146 hc255_148 hc262_150; omega))).2 k') ?_
              show Go p e below _ (T152.setTop (mkF m 292 #[.val (.int a), .val (.int b), .val (.int cc), .val (.int q), .val (.int n), .val (.int lo), .val (.int hi), .val (.int mid), .val (.int k), .val (.int sel), .val (.int t), .val (.ref b101), .val (.ref b103), .val (.ref b105), .val (.ref b116), .val (.int (0 : Int32))] []))
              refine Go.st (fun t' k' => XS.iconst X152.here hx rfl (hb hby at_292) k') ?_
              show Go p e below _ (T152.setTop (mkF m 293 #[.val (.int a), .val (.int b), .val (.int cc), .val (.int q), .val (.int n), .val (.int lo), .val (.int hi), .val (.int mid), .val (.int k), .val (.int sel), .val (.int t), .val (.ref b101), .val (.ref b103), .val (.ref b105), .val (.ref b116), .val (.int (0 : Int32))] [(.int (1 : Int32))]))
              refine Go.st (fun t' k' => XS.goto X152.here hx rfl (pc0 := 293) (pc' := 297) rfl (hb hby at_293) (by decide) (by decide) k') ?_
              show Go p e below _ (T152.setTop (mkF m 297 #[.val (.int a), .val (.int b), .val (.int cc), .val (.int q), .val (.int n), .val (.int lo), .val (.int hi), .val (.int mid), .val (.int k), .val (.int sel), .val (.int t), .val (.ref b101), .val (.ref b103), .val (.ref b105), .val (.ref b116), .val (.int (0 : Int32))] [(.int (1 : Int32))]))
              exact Go.outN X152 hx hlk (t := .boolean) hret (by simp) (hb hby at_297) (Q := Q_rm0 Z a b cc q n w_NO_BYTES w_NO_NUMBERS k_B k_N h0) (by rw [e152]; exact ⟨rfl, N152⟩) (by decide) (by decide)
theorem ef_rm0 (m : MethodId) (x0 : Int32) (x1 : Int32) (x2 : Int32) (x3 : Int32) (x4 : Int32) : entryFrame m #[(.int x0), (.int x1), (.int x2), (.int x3), (.int x4)] maxLocals = mkF m 0 #[.val (.int x0), .val (.int x1), .val (.int x2), .val (.int x3), .val (.int x4), .unset, .unset, .unset, .unset, .unset, .unset, .unset, .unset, .unset, .unset, .unset] [] := by first | (simp [entryFrame, mkF, argsToLocals, Value.category, maxLocals]; done) | rfl
theorem pn_com_example_harakeke_harakeke_model_RecordIsPrintablePinLaw : plainName "com/example/harakeke/harakeke/model/RecordIsPrintablePinLaw" = true := by first | (simp [plainName, overriddenIn]; done) | decide +kernel
set_option maxRecDepth 65536 in
set_option maxHeartbeats 40000000 in
theorem rm0 (l : Launch) (Z : State) (a0 : Array Value) (hw : ∀ d ∈ tables_1, d.before a0 Z = true) (ws : List Jvm.Cond) (a : Int32) (b : Int32) (cc : Int32) (q : Int32) (n : Int32) (w_NO_BYTES : Addr) (w_NO_NUMBERS : Addr) (k_B : ClassId) (k_N : ClassId) (h0 : Heap) (O0 : Ext Z.heap h0) (S_NO_BYTES : Sta Z Z.heap "com/example/harakeke/harakeke/model/Record" "NO_BYTES" "[B" (.ref w_NO_BYTES)) (S_NO_NUMBERS : Sta Z Z.heap "com/example/harakeke/harakeke/model/Record" "NO_NUMBERS" "[I" (.ref w_NO_NUMBERS)) (A_NO_BYTES : Arv Z Z.heap w_NO_BYTES k_B .byte (0 : Int32) [] (.int (0 : Int32))) (A_NO_NUMBERS : Arv Z Z.heap w_NO_NUMBERS k_N .int (0 : Int32) [] (.int (0 : Int32))) :
    MetFree l x (head1 (Jvm.Cond.code x code maxLocals ret :: ws) room_1) (fun av' U => av' = #[(.int a), (.int b), (.int cc), (.int q), (.int n)] ∧ Z.Warmed39 U.vm ∧ U.heap = h0) (fun _ _ _ _ _ => True) (fun _ U o U' => ∃ v L, o = .returned v ∧ Q_rm0 Z a b cc q n w_NO_BYTES w_NO_NUMBERS k_B k_N h0 v U'.heap L ∧ FrameEnd U o U' L room_1.cells room_1.slots) := by
  refine MetFree.of_bodySF (plainFor_of_name pn_com_example_harakeke_harakeke_model_RecordIsPrintablePinLaw) hisR ?_
  intro p e s m args below meth c s₁ Bd hml0 hP hK
  obtain ⟨rfl, hZ, hh⟩ := hP
  have hx := Bd.exec
  have hby := Bd.bytes
  have hret := Bd.returns
  have hlk : meth.locks = false := Bd.notSynchronized
  have hml : c.maxLocals = 16 := hml0
  have hown : s.vm.findClass "com/example/harakeke/harakeke/model/RecordIsPrintablePinLaw" = some m.cls := findClass_of_methodNamed Bd.named
  have hnm := (name_of_methodNamed Bd.named Bd.method).1
  have X0 : Stand p l e room_1 s m #[(.int a), (.int b), (.int cc), (.int q), (.int n)] below meth c s₁ [] 0 0 := Stand.of_body Bd
  -- the walk
  have e0 : s₁.heap = h0 := by rw [← hh, Bd.state]; rfl
  have N0 := Fr.nil Z.heap.size
  show Go p e below (GO s (Q_rm0 Z a b cc q n w_NO_BYTES w_NO_NUMBERS k_B k_N h0) room_1.cells room_1.slots) (s₁.setTop (entryFrame m #[(.int a), (.int b), (.int cc), (.int q), (.int n)] maxLocals))
  refine Go.st (fun t' k' => castTop (ef_rm0 m a b cc q n) k') ?_
  show Go p e below _ (s₁.setTop (mkF m 0 #[.val (.int a), .val (.int b), .val (.int cc), .val (.int q), .val (.int n), .unset, .unset, .unset, .unset, .unset, .unset, .unset, .unset, .unset, .unset, .unset] []))
  refine Go.st (fun t' k' => XS.iloadN X0.here hx rfl (hb hby at_0) rfl k') ?_
  show Go p e below _ (s₁.setTop (mkF m 1 #[.val (.int a), .val (.int b), .val (.int cc), .val (.int q), .val (.int n), .unset, .unset, .unset, .unset, .unset, .unset, .unset, .unset, .unset, .unset, .unset] [(.int a)]))
  refine Go.st (fun t' k' => XS.iloadN X0.here hx rfl (hb hby at_1) rfl k') ?_
  show Go p e below _ (s₁.setTop (mkF m 2 #[.val (.int a), .val (.int b), .val (.int cc), .val (.int q), .val (.int n), .unset, .unset, .unset, .unset, .unset, .unset, .unset, .unset, .unset, .unset, .unset] [(.int b), (.int a)]))
  obtain ⟨_, _, ⟨T101, L101, k101, n101⟩, -, X101, ⟨Lc101, hQ101, l101, y101, z101⟩, st101⟩ := Jvm.LawKit.callS X0 hx (y := (⟨"java/lang/Math", "min", "(II)I"⟩ : MethodName)) hown (mvT hZ (hw _ (List.mem_of_getElem? (i := 0) rfl))) (mvT hZ (hw _ (List.mem_of_getElem? (i := 1) rfl))) (mvT hZ (hw _ (List.mem_of_getElem? (i := 2) rfl))) (mvT hZ (hw _ (List.mem_of_getElem? (i := 3) rfl))) (by decide) (backOf (W := 0) (rmMin l Z a0 hw [] a b h0 O0 ) hZ (hw _ (List.mem_of_getElem? (i := 3) rfl)) (hw _ (List.mem_of_getElem? (i := 2) rfl)) (by decide) (by decide)) (g := (mkF m 2 #[.val (.int a), .val (.int b), .val (.int cc), .val (.int q), .val (.int n), .unset, .unset, .unset, .unset, .unset, .unset, .unset, .unset, .unset, .unset, .unset] [(.int b), (.int a)])) rfl (by rw [hml]; rfl) (argsL := [(.int a), (.int b)]) (rest := []) (lenOf pd__II_I rfl) rfl (by show 2 * 0 + _ ≤ _; exact Nat.le_of_eq rfl) (hb hby at_2) (fun _ _ => ⟨rfl, e0, (by decide : 0 + 0 ≤ _), (by decide : 0 + 0 ≤ _)⟩)
  dsimp only [Pt.U, Pt.locs, Pt.cells, Pt.slots] at X101 l101 y101 z101 st101 hQ101
  subst l101 y101 z101
  obtain ⟨rfl, rfl, e101⟩ := hQ101
  have N101 := Fr.app N0 (Fr.nil _)
  refine Go.st st101 ?_
  show Go p e below _ (T101.setTop (mkF m 5 #[.val (.int a), .val (.int b), .val (.int cc), .val (.int q), .val (.int n), .unset, .unset, .unset, .unset, .unset, .unset, .unset, .unset, .unset, .unset, .unset] [(.int (own_min a b))]))
  refine Go.st (fun t' k' => XS.iloadN X101.here hx rfl (hb hby at_5) rfl k') ?_
  show Go p e below _ (T101.setTop (mkF m 6 #[.val (.int a), .val (.int b), .val (.int cc), .val (.int q), .val (.int n), .unset, .unset, .unset, .unset, .unset, .unset, .unset, .unset, .unset, .unset, .unset] [(.int cc), (.int (own_min a b))]))
  obtain ⟨_, _, ⟨T102, L102, k102, n102⟩, -, X102, ⟨Lc102, hQ102, l102, y102, z102⟩, st102⟩ := Jvm.LawKit.callS X101 hx (y := (⟨"java/lang/Math", "min", "(II)I"⟩ : MethodName)) hown (mvT hZ (hw _ (List.mem_of_getElem? (i := 0) rfl))) (mvT hZ (hw _ (List.mem_of_getElem? (i := 1) rfl))) (mvT hZ (hw _ (List.mem_of_getElem? (i := 2) rfl))) (mvT hZ (hw _ (List.mem_of_getElem? (i := 3) rfl))) (by decide) (backOf (W := 0) (rmMin l Z a0 hw [] ((own_min a b)) cc h0 O0 ) hZ (hw _ (List.mem_of_getElem? (i := 3) rfl)) (hw _ (List.mem_of_getElem? (i := 2) rfl)) (by decide) (by decide)) (g := (mkF m 6 #[.val (.int a), .val (.int b), .val (.int cc), .val (.int q), .val (.int n), .unset, .unset, .unset, .unset, .unset, .unset, .unset, .unset, .unset, .unset, .unset] [(.int cc), (.int (own_min a b))])) rfl (by rw [hml]; rfl) (argsL := [(.int (own_min a b)), (.int cc)]) (rest := []) (lenOf pd__II_I rfl) rfl (by show 2 * 0 + _ ≤ _; exact Nat.le_of_eq rfl) (hb hby at_6) (fun _ _ => ⟨rfl, e101, (by decide : 0 + 0 ≤ _), (by decide : 0 + 0 ≤ _)⟩)
  dsimp only [Pt.U, Pt.locs, Pt.cells, Pt.slots] at X102 l102 y102 z102 st102 hQ102
  subst l102 y102 z102
  obtain ⟨rfl, rfl, e102⟩ := hQ102
  have N102 := Fr.app N101 (Fr.nil _)
  refine Go.st st102 ?_
  show Go p e below _ (T102.setTop (mkF m 9 #[.val (.int a), .val (.int b), .val (.int cc), .val (.int q), .val (.int n), .unset, .unset, .unset, .unset, .unset, .unset, .unset, .unset, .unset, .unset, .unset] [(.int (own_min (own_min a b) cc))]))
  refine Go.st (fun t' k' => XS.istore X102.here hx rfl (hb hby at_9) rfl (l' := #[.val (.int a), .val (.int b), .val (.int cc), .val (.int q), .val (.int n), .val (.int (own_min (own_min a b) cc)), .unset, .unset, .unset, .unset, .unset, .unset, .unset, .unset, .unset, .unset]) rfl k') ?_
  show Go p e below _ (T102.setTop (mkF m 11 #[.val (.int a), .val (.int b), .val (.int cc), .val (.int q), .val (.int n), .val (.int (own_min (own_min a b) cc)), .unset, .unset, .unset, .unset, .unset, .unset, .unset, .unset, .unset, .unset] []))
  refine Go.st (fun t' k' => XS.iloadN X102.here hx rfl (hb hby at_11) rfl k') ?_
  show Go p e below _ (T102.setTop (mkF m 12 #[.val (.int a), .val (.int b), .val (.int cc), .val (.int q), .val (.int n), .val (.int (own_min (own_min a b) cc)), .unset, .unset, .unset, .unset, .unset, .unset, .unset, .unset, .unset, .unset] [(.int a)]))
  refine Go.st (fun t' k' => XS.iloadN X102.here hx rfl (hb hby at_12) rfl k') ?_
  show Go p e below _ (T102.setTop (mkF m 13 #[.val (.int a), .val (.int b), .val (.int cc), .val (.int q), .val (.int n), .val (.int (own_min (own_min a b) cc)), .unset, .unset, .unset, .unset, .unset, .unset, .unset, .unset, .unset, .unset] [(.int b), (.int a)]))
  obtain ⟨_, _, ⟨T103, L103, k103, n103⟩, -, X103, ⟨Lc103, hQ103, l103, y103, z103⟩, st103⟩ := Jvm.LawKit.callS X102 hx (y := (⟨"java/lang/Math", "max", "(II)I"⟩ : MethodName)) hown (mvT hZ (hw _ (List.mem_of_getElem? (i := 4) rfl))) (mvT hZ (hw _ (List.mem_of_getElem? (i := 5) rfl))) (mvT hZ (hw _ (List.mem_of_getElem? (i := 2) rfl))) (mvT hZ (hw _ (List.mem_of_getElem? (i := 6) rfl))) (by decide) (backOf (W := 0) (rmMax l Z a0 hw [] a b h0 O0 ) hZ (hw _ (List.mem_of_getElem? (i := 6) rfl)) (hw _ (List.mem_of_getElem? (i := 2) rfl)) (by decide) (by decide)) (g := (mkF m 13 #[.val (.int a), .val (.int b), .val (.int cc), .val (.int q), .val (.int n), .val (.int (own_min (own_min a b) cc)), .unset, .unset, .unset, .unset, .unset, .unset, .unset, .unset, .unset, .unset] [(.int b), (.int a)])) rfl (by rw [hml]; rfl) (argsL := [(.int a), (.int b)]) (rest := []) (lenOf pd__II_I rfl) rfl (by show 2 * 0 + _ ≤ _; exact Nat.le_of_eq rfl) (hb hby at_13) (fun _ _ => ⟨rfl, e102, (by decide : 0 + 0 ≤ _), (by decide : 0 + 0 ≤ _)⟩)
  dsimp only [Pt.U, Pt.locs, Pt.cells, Pt.slots] at X103 l103 y103 z103 st103 hQ103
  subst l103 y103 z103
  obtain ⟨rfl, rfl, e103⟩ := hQ103
  have N103 := Fr.app N102 (Fr.nil _)
  refine Go.st st103 ?_
  show Go p e below _ (T103.setTop (mkF m 16 #[.val (.int a), .val (.int b), .val (.int cc), .val (.int q), .val (.int n), .val (.int (own_min (own_min a b) cc)), .unset, .unset, .unset, .unset, .unset, .unset, .unset, .unset, .unset, .unset] [(.int (own_max a b))]))
  refine Go.st (fun t' k' => XS.iloadN X103.here hx rfl (hb hby at_16) rfl k') ?_
  show Go p e below _ (T103.setTop (mkF m 17 #[.val (.int a), .val (.int b), .val (.int cc), .val (.int q), .val (.int n), .val (.int (own_min (own_min a b) cc)), .unset, .unset, .unset, .unset, .unset, .unset, .unset, .unset, .unset, .unset] [(.int cc), (.int (own_max a b))]))
  obtain ⟨_, _, ⟨T104, L104, k104, n104⟩, -, X104, ⟨Lc104, hQ104, l104, y104, z104⟩, st104⟩ := Jvm.LawKit.callS X103 hx (y := (⟨"java/lang/Math", "max", "(II)I"⟩ : MethodName)) hown (mvT hZ (hw _ (List.mem_of_getElem? (i := 4) rfl))) (mvT hZ (hw _ (List.mem_of_getElem? (i := 5) rfl))) (mvT hZ (hw _ (List.mem_of_getElem? (i := 2) rfl))) (mvT hZ (hw _ (List.mem_of_getElem? (i := 6) rfl))) (by decide) (backOf (W := 0) (rmMax l Z a0 hw [] ((own_max a b)) cc h0 O0 ) hZ (hw _ (List.mem_of_getElem? (i := 6) rfl)) (hw _ (List.mem_of_getElem? (i := 2) rfl)) (by decide) (by decide)) (g := (mkF m 17 #[.val (.int a), .val (.int b), .val (.int cc), .val (.int q), .val (.int n), .val (.int (own_min (own_min a b) cc)), .unset, .unset, .unset, .unset, .unset, .unset, .unset, .unset, .unset, .unset] [(.int cc), (.int (own_max a b))])) rfl (by rw [hml]; rfl) (argsL := [(.int (own_max a b)), (.int cc)]) (rest := []) (lenOf pd__II_I rfl) rfl (by show 2 * 0 + _ ≤ _; exact Nat.le_of_eq rfl) (hb hby at_17) (fun _ _ => ⟨rfl, e103, (by decide : 0 + 0 ≤ _), (by decide : 0 + 0 ≤ _)⟩)
  dsimp only [Pt.U, Pt.locs, Pt.cells, Pt.slots] at X104 l104 y104 z104 st104 hQ104
  subst l104 y104 z104
  obtain ⟨rfl, rfl, e104⟩ := hQ104
  have N104 := Fr.app N103 (Fr.nil _)
  refine Go.st st104 ?_
  show Go p e below _ (T104.setTop (mkF m 20 #[.val (.int a), .val (.int b), .val (.int cc), .val (.int q), .val (.int n), .val (.int (own_min (own_min a b) cc)), .unset, .unset, .unset, .unset, .unset, .unset, .unset, .unset, .unset, .unset] [(.int (own_max (own_max a b) cc))]))
  refine Go.st (fun t' k' => XS.istore X104.here hx rfl (hb hby at_20) rfl (l' := #[.val (.int a), .val (.int b), .val (.int cc), .val (.int q), .val (.int n), .val (.int (own_min (own_min a b) cc)), .val (.int (own_max (own_max a b) cc)), .unset, .unset, .unset, .unset, .unset, .unset, .unset, .unset, .unset]) rfl k') ?_
  show Go p e below _ (T104.setTop (mkF m 22 #[.val (.int a), .val (.int b), .val (.int cc), .val (.int q), .val (.int n), .val (.int (own_min (own_min a b) cc)), .val (.int (own_max (own_max a b) cc)), .unset, .unset, .unset, .unset, .unset, .unset, .unset, .unset, .unset] []))
  refine Go.st (fun t' k' => XS.iloadN X104.here hx rfl (hb hby at_22) rfl k') ?_
  show Go p e below _ (T104.setTop (mkF m 23 #[.val (.int a), .val (.int b), .val (.int cc), .val (.int q), .val (.int n), .val (.int (own_min (own_min a b) cc)), .val (.int (own_max (own_max a b) cc)), .unset, .unset, .unset, .unset, .unset, .unset, .unset, .unset, .unset] [(.int a)]))
  refine Go.st (fun t' k' => XS.iloadN X104.here hx rfl (hb hby at_23) rfl k') ?_
  show Go p e below _ (T104.setTop (mkF m 24 #[.val (.int a), .val (.int b), .val (.int cc), .val (.int q), .val (.int n), .val (.int (own_min (own_min a b) cc)), .val (.int (own_max (own_max a b) cc)), .unset, .unset, .unset, .unset, .unset, .unset, .unset, .unset, .unset] [(.int b), (.int a)]))
  refine Go.st (fun t' k' => XS.iadd X104.here hx rfl (hb hby at_24) rfl k') ?_
  show Go p e below _ (T104.setTop (mkF m 25 #[.val (.int a), .val (.int b), .val (.int cc), .val (.int q), .val (.int n), .val (.int (own_min (own_min a b) cc)), .val (.int (own_max (own_max a b) cc)), .unset, .unset, .unset, .unset, .unset, .unset, .unset, .unset, .unset] [(.int (a + b))]))
  refine Go.st (fun t' k' => XS.iloadN X104.here hx rfl (hb hby at_25) rfl k') ?_
  show Go p e below _ (T104.setTop (mkF m 26 #[.val (.int a), .val (.int b), .val (.int cc), .val (.int q), .val (.int n), .val (.int (own_min (own_min a b) cc)), .val (.int (own_max (own_max a b) cc)), .unset, .unset, .unset, .unset, .unset, .unset, .unset, .unset, .unset] [(.int cc), (.int (a + b))]))
  refine Go.st (fun t' k' => XS.iadd X104.here hx rfl (hb hby at_26) rfl k') ?_
  show Go p e below _ (T104.setTop (mkF m 27 #[.val (.int a), .val (.int b), .val (.int cc), .val (.int q), .val (.int n), .val (.int (own_min (own_min a b) cc)), .val (.int (own_max (own_max a b) cc)), .unset, .unset, .unset, .unset, .unset, .unset, .unset, .unset, .unset] [(.int ((a + b) + cc))]))
  refine Go.st (fun t' k' => XS.iload X104.here hx rfl (hb hby at_27) rfl k') ?_
  show Go p e below _ (T104.setTop (mkF m 29 #[.val (.int a), .val (.int b), .val (.int cc), .val (.int q), .val (.int n), .val (.int (own_min (own_min a b) cc)), .val (.int (own_max (own_max a b) cc)), .unset, .unset, .unset, .unset, .unset, .unset, .unset, .unset, .unset] [(.int (own_min (own_min a b) cc)), (.int ((a + b) + cc))]))
  refine Go.st (fun t' k' => XS.isub X104.here hx rfl (hb hby at_29) rfl k') ?_
  show Go p e below _ (T104.setTop (mkF m 30 #[.val (.int a), .val (.int b), .val (.int cc), .val (.int q), .val (.int n), .val (.int (own_min (own_min a b) cc)), .val (.int (own_max (own_max a b) cc)), .unset, .unset, .unset, .unset, .unset, .unset, .unset, .unset, .unset] [(.int (((a + b) + cc) - (own_min (own_min a b) cc)))]))
  refine Go.st (fun t' k' => XS.iload X104.here hx rfl (hb hby at_30) rfl k') ?_
  show Go p e below _ (T104.setTop (mkF m 32 #[.val (.int a), .val (.int b), .val (.int cc), .val (.int q), .val (.int n), .val (.int (own_min (own_min a b) cc)), .val (.int (own_max (own_max a b) cc)), .unset, .unset, .unset, .unset, .unset, .unset, .unset, .unset, .unset] [(.int (own_max (own_max a b) cc)), (.int (((a + b) + cc) - (own_min (own_min a b) cc)))]))
  refine Go.st (fun t' k' => XS.isub X104.here hx rfl (hb hby at_32) rfl k') ?_
  show Go p e below _ (T104.setTop (mkF m 33 #[.val (.int a), .val (.int b), .val (.int cc), .val (.int q), .val (.int n), .val (.int (own_min (own_min a b) cc)), .val (.int (own_max (own_max a b) cc)), .unset, .unset, .unset, .unset, .unset, .unset, .unset, .unset, .unset] [(.int ((((a + b) + cc) - (own_min (own_min a b) cc)) - (own_max (own_max a b) cc)))]))
  refine Go.st (fun t' k' => XS.istore X104.here hx rfl (hb hby at_33) rfl (l' := #[.val (.int a), .val (.int b), .val (.int cc), .val (.int q), .val (.int n), .val (.int (own_min (own_min a b) cc)), .val (.int (own_max (own_max a b) cc)), .val (.int ((((a + b) + cc) - (own_min (own_min a b) cc)) - (own_max (own_max a b) cc))), .unset, .unset, .unset, .unset, .unset, .unset, .unset, .unset]) rfl k') ?_
  show Go p e below _ (T104.setTop (mkF m 35 #[.val (.int a), .val (.int b), .val (.int cc), .val (.int q), .val (.int n), .val (.int (own_min (own_min a b) cc)), .val (.int (own_max (own_max a b) cc)), .val (.int ((((a + b) + cc) - (own_min (own_min a b) cc)) - (own_max (own_max a b) cc))), .unset, .unset, .unset, .unset, .unset, .unset, .unset, .unset] []))
  refine Go.st (fun t' k' => XS.iload X104.here hx rfl (hb hby at_35) rfl k') ?_
  show Go p e below _ (T104.setTop (mkF m 37 #[.val (.int a), .val (.int b), .val (.int cc), .val (.int q), .val (.int n), .val (.int (own_min (own_min a b) cc)), .val (.int (own_max (own_max a b) cc)), .val (.int ((((a + b) + cc) - (own_min (own_min a b) cc)) - (own_max (own_max a b) cc))), .unset, .unset, .unset, .unset, .unset, .unset, .unset, .unset] [(.int (own_min (own_min a b) cc))]))
  refine Go.st (fun t' k' => XS.iload X104.here hx rfl (hb hby at_37) rfl k') ?_
  show Go p e below _ (T104.setTop (mkF m 39 #[.val (.int a), .val (.int b), .val (.int cc), .val (.int q), .val (.int n), .val (.int (own_min (own_min a b) cc)), .val (.int (own_max (own_max a b) cc)), .val (.int ((((a + b) + cc) - (own_min (own_min a b) cc)) - (own_max (own_max a b) cc))), .unset, .unset, .unset, .unset, .unset, .unset, .unset, .unset] [(.int ((((a + b) + cc) - (own_min (own_min a b) cc)) - (own_max (own_max a b) cc))), (.int (own_min (own_min a b) cc))]))
  by_cases hc39_105 : (own_min (own_min a b) cc) = ((((a + b) + cc) - (own_min (own_min a b) cc)) - (own_max (own_max a b) cc))
  · refine Go.st (fun t' k' => XS.icmpYes X104.here hx rfl (pc0 := 39) (pc' := 49) rfl (hb hby at_39) rfl (teq hc39_105).1 (by decide) (by decide) k') ?_
    show Go p e below _ (T104.setTop (mkF m 49 #[.val (.int a), .val (.int b), .val (.int cc), .val (.int q), .val (.int n), .val (.int (own_min (own_min a b) cc)), .val (.int (own_max (own_max a b) cc)), .val (.int ((((a + b) + cc) - (own_min (own_min a b) cc)) - (own_max (own_max a b) cc))), .unset, .unset, .unset, .unset, .unset, .unset, .unset, .unset] []))
    refine Go.st (fun t' k' => XS.iconst X104.here hx rfl (hb hby at_49) k') ?_
    show Go p e below _ (T104.setTop (mkF m 50 #[.val (.int a), .val (.int b), .val (.int cc), .val (.int q), .val (.int n), .val (.int (own_min (own_min a b) cc)), .val (.int (own_max (own_max a b) cc)), .val (.int ((((a + b) + cc) - (own_min (own_min a b) cc)) - (own_max (own_max a b) cc))), .unset, .unset, .unset, .unset, .unset, .unset, .unset, .unset] [(.int (1 : Int32))]))
    exact Go.outN X104 hx hlk (t := .boolean) hret (by simp) (hb hby at_50) (Q := Q_rm0 Z a b cc q n w_NO_BYTES w_NO_NUMBERS k_B k_N h0) (by rw [e104]; exact ⟨rfl, N104⟩) (by decide) (by decide)
  · refine Go.st (fun t' k' => XS.icmpNo X104.here hx rfl (hb hby at_39) rfl (feq hc39_105).1 k') ?_
    show Go p e below _ (T104.setTop (mkF m 42 #[.val (.int a), .val (.int b), .val (.int cc), .val (.int q), .val (.int n), .val (.int (own_min (own_min a b) cc)), .val (.int (own_max (own_max a b) cc)), .val (.int ((((a + b) + cc) - (own_min (own_min a b) cc)) - (own_max (own_max a b) cc))), .unset, .unset, .unset, .unset, .unset, .unset, .unset, .unset] []))
    refine Go.st (fun t' k' => XS.iload X104.here hx rfl (hb hby at_42) rfl k') ?_
    show Go p e below _ (T104.setTop (mkF m 44 #[.val (.int a), .val (.int b), .val (.int cc), .val (.int q), .val (.int n), .val (.int (own_min (own_min a b) cc)), .val (.int (own_max (own_max a b) cc)), .val (.int ((((a + b) + cc) - (own_min (own_min a b) cc)) - (own_max (own_max a b) cc))), .unset, .unset, .unset, .unset, .unset, .unset, .unset, .unset] [(.int ((((a + b) + cc) - (own_min (own_min a b) cc)) - (own_max (own_max a b) cc)))]))
    refine Go.st (fun t' k' => XS.iload X104.here hx rfl (hb hby at_44) rfl k') ?_
    show Go p e below _ (T104.setTop (mkF m 46 #[.val (.int a), .val (.int b), .val (.int cc), .val (.int q), .val (.int n), .val (.int (own_min (own_min a b) cc)), .val (.int (own_max (own_max a b) cc)), .val (.int ((((a + b) + cc) - (own_min (own_min a b) cc)) - (own_max (own_max a b) cc))), .unset, .unset, .unset, .unset, .unset, .unset, .unset, .unset] [(.int (own_max (own_max a b) cc)), (.int ((((a + b) + cc) - (own_min (own_min a b) cc)) - (own_max (own_max a b) cc)))]))
    by_cases hc46_106 : ((((a + b) + cc) - (own_min (own_min a b) cc)) - (own_max (own_max a b) cc)) = (own_max (own_max a b) cc)
    · refine Go.st (fun t' k' => XS.icmpNo X104.here hx rfl (hb hby at_46) rfl (teq hc46_106).2 k') ?_
      show Go p e below _ (T104.setTop (mkF m 49 #[.val (.int a), .val (.int b), .val (.int cc), .val (.int q), .val (.int n), .val (.int (own_min (own_min a b) cc)), .val (.int (own_max (own_max a b) cc)), .val (.int ((((a + b) + cc) - (own_min (own_min a b) cc)) - (own_max (own_max a b) cc))), .unset, .unset, .unset, .unset, .unset, .unset, .unset, .unset] []))
      refine Go.st (fun t' k' => XS.iconst X104.here hx rfl (hb hby at_49) k') ?_
      show Go p e below _ (T104.setTop (mkF m 50 #[.val (.int a), .val (.int b), .val (.int cc), .val (.int q), .val (.int n), .val (.int (own_min (own_min a b) cc)), .val (.int (own_max (own_max a b) cc)), .val (.int ((((a + b) + cc) - (own_min (own_min a b) cc)) - (own_max (own_max a b) cc))), .unset, .unset, .unset, .unset, .unset, .unset, .unset, .unset] [(.int (1 : Int32))]))
      exact Go.outN X104 hx hlk (t := .boolean) hret (by simp) (hb hby at_50) (Q := Q_rm0 Z a b cc q n w_NO_BYTES w_NO_NUMBERS k_B k_N h0) (by rw [e104]; exact ⟨rfl, N104⟩) (by decide) (by decide)
    · refine Go.st (fun t' k' => XS.icmpYes X104.here hx rfl (pc0 := 46) (pc' := 51) rfl (hb hby at_46) rfl (feq hc46_106).2 (by decide) (by decide) k') ?_
      show Go p e below _ (T104.setTop (mkF m 51 #[.val (.int a), .val (.int b), .val (.int cc), .val (.int q), .val (.int n), .val (.int (own_min (own_min a b) cc)), .val (.int (own_max (own_max a b) cc)), .val (.int ((((a + b) + cc) - (own_min (own_min a b) cc)) - (own_max (own_max a b) cc))), .unset, .unset, .unset, .unset, .unset, .unset, .unset, .unset] []))
      refine Go.st (fun t' k' => XS.iload X104.here hx rfl (hb hby at_51) rfl k') ?_
      show Go p e below _ (T104.setTop (mkF m 53 #[.val (.int a), .val (.int b), .val (.int cc), .val (.int q), .val (.int n), .val (.int (own_min (own_min a b) cc)), .val (.int (own_max (own_max a b) cc)), .val (.int ((((a + b) + cc) - (own_min (own_min a b) cc)) - (own_max (own_max a b) cc))), .unset, .unset, .unset, .unset, .unset, .unset, .unset, .unset] [(.int n)]))
      refine Go.st (fun t' k' => XS.iconst X104.here hx rfl (hb hby at_53) k') ?_
      show Go p e below _ (T104.setTop (mkF m 54 #[.val (.int a), .val (.int b), .val (.int cc), .val (.int q), .val (.int n), .val (.int (own_min (own_min a b) cc)), .val (.int (own_max (own_max a b) cc)), .val (.int ((((a + b) + cc) - (own_min (own_min a b) cc)) - (own_max (own_max a b) cc))), .unset, .unset, .unset, .unset, .unset, .unset, .unset, .unset] [(.int (3 : Int32)), (.int n)]))
      refine Go.st (fun t' k' => XS.iand X104.here hx rfl (hb hby at_54) rfl k') ?_
      show Go p e below _ (T104.setTop (mkF m 55 #[.val (.int a), .val (.int b), .val (.int cc), .val (.int q), .val (.int n), .val (.int (own_min (own_min a b) cc)), .val (.int (own_max (own_max a b) cc)), .val (.int ((((a + b) + cc) - (own_min (own_min a b) cc)) - (own_max (own_max a b) cc))), .unset, .unset, .unset, .unset, .unset, .unset, .unset, .unset] [(.int (n &&& (3 : Int32)))]))
      refine Go.st (fun t' k' => XS.istore X104.here hx rfl (hb hby at_55) rfl (l' := #[.val (.int a), .val (.int b), .val (.int cc), .val (.int q), .val (.int n), .val (.int (own_min (own_min a b) cc)), .val (.int (own_max (own_max a b) cc)), .val (.int ((((a + b) + cc) - (own_min (own_min a b) cc)) - (own_max (own_max a b) cc))), .val (.int (n &&& (3 : Int32))), .unset, .unset, .unset, .unset, .unset, .unset, .unset]) rfl k') ?_
      show Go p e below _ (T104.setTop (mkF m 57 #[.val (.int a), .val (.int b), .val (.int cc), .val (.int q), .val (.int n), .val (.int (own_min (own_min a b) cc)), .val (.int (own_max (own_max a b) cc)), .val (.int ((((a + b) + cc) - (own_min (own_min a b) cc)) - (own_max (own_max a b) cc))), .val (.int (n &&& (3 : Int32))), .unset, .unset, .unset, .unset, .unset, .unset, .unset] []))
      refine Go.st (fun t' k' => XS.iload X104.here hx rfl (hb hby at_57) rfl k') ?_
      show Go p e below _ (T104.setTop (mkF m 59 #[.val (.int a), .val (.int b), .val (.int cc), .val (.int q), .val (.int n), .val (.int (own_min (own_min a b) cc)), .val (.int (own_max (own_max a b) cc)), .val (.int ((((a + b) + cc) - (own_min (own_min a b) cc)) - (own_max (own_max a b) cc))), .val (.int (n &&& (3 : Int32))), .unset, .unset, .unset, .unset, .unset, .unset, .unset] [(.int n)]))
      refine Go.st (fun t' k' => XS.iconst X104.here hx rfl (hb hby at_59) k') ?_
      show Go p e below _ (T104.setTop (mkF m 60 #[.val (.int a), .val (.int b), .val (.int cc), .val (.int q), .val (.int n), .val (.int (own_min (own_min a b) cc)), .val (.int (own_max (own_max a b) cc)), .val (.int ((((a + b) + cc) - (own_min (own_min a b) cc)) - (own_max (own_max a b) cc))), .val (.int (n &&& (3 : Int32))), .unset, .unset, .unset, .unset, .unset, .unset, .unset] [(.int (2 : Int32)), (.int n)]))
      refine Go.st (fun t' k' => XS.iushr X104.here hx rfl (hb hby at_60) rfl k') ?_
      show Go p e below _ (T104.setTop (mkF m 61 #[.val (.int a), .val (.int b), .val (.int cc), .val (.int q), .val (.int n), .val (.int (own_min (own_min a b) cc)), .val (.int (own_max (own_max a b) cc)), .val (.int ((((a + b) + cc) - (own_min (own_min a b) cc)) - (own_max (own_max a b) cc))), .val (.int (n &&& (3 : Int32))), .unset, .unset, .unset, .unset, .unset, .unset, .unset] [(.int ((n.toUInt32 >>> ((2 : Int32) &&& 31).toUInt32).toInt32))]))
      refine Go.st (fun t' k' => XS.bipush X104.here hx rfl (hb hby at_61) k') ?_
      show Go p e below _ (T104.setTop (mkF m 63 #[.val (.int a), .val (.int b), .val (.int cc), .val (.int q), .val (.int n), .val (.int (own_min (own_min a b) cc)), .val (.int (own_max (own_max a b) cc)), .val (.int ((((a + b) + cc) - (own_min (own_min a b) cc)) - (own_max (own_max a b) cc))), .val (.int (n &&& (3 : Int32))), .unset, .unset, .unset, .unset, .unset, .unset, .unset] [(.int (7 : Int32)), (.int ((n.toUInt32 >>> ((2 : Int32) &&& 31).toUInt32).toInt32))]))
      refine Go.st (fun t' k' => XS.iand X104.here hx rfl (hb hby at_63) rfl k') ?_
      show Go p e below _ (T104.setTop (mkF m 64 #[.val (.int a), .val (.int b), .val (.int cc), .val (.int q), .val (.int n), .val (.int (own_min (own_min a b) cc)), .val (.int (own_max (own_max a b) cc)), .val (.int ((((a + b) + cc) - (own_min (own_min a b) cc)) - (own_max (own_max a b) cc))), .val (.int (n &&& (3 : Int32))), .unset, .unset, .unset, .unset, .unset, .unset, .unset] [(.int (((n.toUInt32 >>> ((2 : Int32) &&& 31).toUInt32).toInt32) &&& (7 : Int32)))]))
      refine Go.st (fun t' k' => XS.istore X104.here hx rfl (hb hby at_64) rfl (l' := #[.val (.int a), .val (.int b), .val (.int cc), .val (.int q), .val (.int n), .val (.int (own_min (own_min a b) cc)), .val (.int (own_max (own_max a b) cc)), .val (.int ((((a + b) + cc) - (own_min (own_min a b) cc)) - (own_max (own_max a b) cc))), .val (.int (n &&& (3 : Int32))), .val (.int (((n.toUInt32 >>> ((2 : Int32) &&& 31).toUInt32).toInt32) &&& (7 : Int32))), .unset, .unset, .unset, .unset, .unset, .unset]) rfl k') ?_
      show Go p e below _ (T104.setTop (mkF m 66 #[.val (.int a), .val (.int b), .val (.int cc), .val (.int q), .val (.int n), .val (.int (own_min (own_min a b) cc)), .val (.int (own_max (own_max a b) cc)), .val (.int ((((a + b) + cc) - (own_min (own_min a b) cc)) - (own_max (own_max a b) cc))), .val (.int (n &&& (3 : Int32))), .val (.int (((n.toUInt32 >>> ((2 : Int32) &&& 31).toUInt32).toInt32) &&& (7 : Int32))), .unset, .unset, .unset, .unset, .unset, .unset] []))
      refine Go.st (fun t' k' => XS.iload X104.here hx rfl (hb hby at_66) rfl k') ?_
      show Go p e below _ (T104.setTop (mkF m 68 #[.val (.int a), .val (.int b), .val (.int cc), .val (.int q), .val (.int n), .val (.int (own_min (own_min a b) cc)), .val (.int (own_max (own_max a b) cc)), .val (.int ((((a + b) + cc) - (own_min (own_min a b) cc)) - (own_max (own_max a b) cc))), .val (.int (n &&& (3 : Int32))), .val (.int (((n.toUInt32 >>> ((2 : Int32) &&& 31).toUInt32).toInt32) &&& (7 : Int32))), .unset, .unset, .unset, .unset, .unset, .unset] [(.int (((n.toUInt32 >>> ((2 : Int32) &&& 31).toUInt32).toInt32) &&& (7 : Int32)))]))
      by_cases hc68_107 : (((n.toUInt32 >>> ((2 : Int32) &&& 31).toUInt32).toInt32) &&& (7 : Int32)) = (0 : Int32)
      · refine Go.st (fun t' k' => XS.ifNo X104.here hx rfl (hb hby at_68) rfl ((if0 _ _).trans (teq hc68_107).2) k') ?_
        show Go p e below _ (T104.setTop (mkF m 71 #[.val (.int a), .val (.int b), .val (.int cc), .val (.int q), .val (.int n), .val (.int (own_min (own_min a b) cc)), .val (.int (own_max (own_max a b) cc)), .val (.int ((((a + b) + cc) - (own_min (own_min a b) cc)) - (own_max (own_max a b) cc))), .val (.int (n &&& (3 : Int32))), .val (.int (((n.toUInt32 >>> ((2 : Int32) &&& 31).toUInt32).toInt32) &&& (7 : Int32))), .unset, .unset, .unset, .unset, .unset, .unset] []))
        refine Go.st (fun t' k' => XS.iload X104.here hx rfl (hb hby at_71) rfl k') ?_
        show Go p e below _ (T104.setTop (mkF m 73 #[.val (.int a), .val (.int b), .val (.int cc), .val (.int q), .val (.int n), .val (.int (own_min (own_min a b) cc)), .val (.int (own_max (own_max a b) cc)), .val (.int ((((a + b) + cc) - (own_min (own_min a b) cc)) - (own_max (own_max a b) cc))), .val (.int (n &&& (3 : Int32))), .val (.int (((n.toUInt32 >>> ((2 : Int32) &&& 31).toUInt32).toInt32) &&& (7 : Int32))), .unset, .unset, .unset, .unset, .unset, .unset] [(.int (own_min (own_min a b) cc))]))
        refine Go.st (fun t' k' => XS.istore X104.here hx rfl (hb hby at_73) rfl (l' := #[.val (.int a), .val (.int b), .val (.int cc), .val (.int q), .val (.int n), .val (.int (own_min (own_min a b) cc)), .val (.int (own_max (own_max a b) cc)), .val (.int ((((a + b) + cc) - (own_min (own_min a b) cc)) - (own_max (own_max a b) cc))), .val (.int (n &&& (3 : Int32))), .val (.int (((n.toUInt32 >>> ((2 : Int32) &&& 31).toUInt32).toInt32) &&& (7 : Int32))), .val (.int (own_min (own_min a b) cc)), .unset, .unset, .unset, .unset, .unset]) rfl k') ?_
        show Go p e below _ (T104.setTop (mkF m 75 #[.val (.int a), .val (.int b), .val (.int cc), .val (.int q), .val (.int n), .val (.int (own_min (own_min a b) cc)), .val (.int (own_max (own_max a b) cc)), .val (.int ((((a + b) + cc) - (own_min (own_min a b) cc)) - (own_max (own_max a b) cc))), .val (.int (n &&& (3 : Int32))), .val (.int (((n.toUInt32 >>> ((2 : Int32) &&& 31).toUInt32).toInt32) &&& (7 : Int32))), .val (.int (own_min (own_min a b) cc)), .unset, .unset, .unset, .unset, .unset] []))
        refine Go.st (fun t' k' => XS.goto X104.here hx rfl (pc0 := 75) (pc' := 152) rfl (hb hby at_75) (by decide) (by decide) k') ?_
        -- pc 152: behind the cut
        exact blk152 Z a0 hw a b cc q n w_NO_BYTES w_NO_NUMBERS k_B k_N h0 S_NO_BYTES S_NO_NUMBERS A_NO_BYTES A_NO_NUMBERS ((own_min (own_min a b) cc)) ((own_max (own_max a b) cc)) (((((a + b) + cc) - (own_min (own_min a b) cc)) - (own_max (own_max a b) cc))) ((n &&& (3 : Int32))) ((((n.toUInt32 >>> ((2 : Int32) &&& 31).toUInt32).toInt32) &&& (7 : Int32))) ((own_min (own_min a b) cc)) h0 (own_stand_mono X104 (by decide) (by decide)) hx hZ hby hml hown hret hlk e104 N104 O0 (own_and3 n)
      · refine Go.st (fun t' k' => XS.ifYes X104.here hx rfl (pc0 := 68) (pc' := 78) rfl (hb hby at_68) rfl ((if0 _ _).trans (feq hc68_107).2) (by decide) (by decide) k') ?_
        show Go p e below _ (T104.setTop (mkF m 78 #[.val (.int a), .val (.int b), .val (.int cc), .val (.int q), .val (.int n), .val (.int (own_min (own_min a b) cc)), .val (.int (own_max (own_max a b) cc)), .val (.int ((((a + b) + cc) - (own_min (own_min a b) cc)) - (own_max (own_max a b) cc))), .val (.int (n &&& (3 : Int32))), .val (.int (((n.toUInt32 >>> ((2 : Int32) &&& 31).toUInt32).toInt32) &&& (7 : Int32))), .unset, .unset, .unset, .unset, .unset, .unset] []))
        refine Go.st (fun t' k' => XS.iload X104.here hx rfl (hb hby at_78) rfl k') ?_
        show Go p e below _ (T104.setTop (mkF m 80 #[.val (.int a), .val (.int b), .val (.int cc), .val (.int q), .val (.int n), .val (.int (own_min (own_min a b) cc)), .val (.int (own_max (own_max a b) cc)), .val (.int ((((a + b) + cc) - (own_min (own_min a b) cc)) - (own_max (own_max a b) cc))), .val (.int (n &&& (3 : Int32))), .val (.int (((n.toUInt32 >>> ((2 : Int32) &&& 31).toUInt32).toInt32) &&& (7 : Int32))), .unset, .unset, .unset, .unset, .unset, .unset] [(.int (((n.toUInt32 >>> ((2 : Int32) &&& 31).toUInt32).toInt32) &&& (7 : Int32)))]))
        refine Go.st (fun t' k' => XS.iconst X104.here hx rfl (hb hby at_80) k') ?_
        show Go p e below _ (T104.setTop (mkF m 81 #[.val (.int a), .val (.int b), .val (.int cc), .val (.int q), .val (.int n), .val (.int (own_min (own_min a b) cc)), .val (.int (own_max (own_max a b) cc)), .val (.int ((((a + b) + cc) - (own_min (own_min a b) cc)) - (own_max (own_max a b) cc))), .val (.int (n &&& (3 : Int32))), .val (.int (((n.toUInt32 >>> ((2 : Int32) &&& 31).toUInt32).toInt32) &&& (7 : Int32))), .unset, .unset, .unset, .unset, .unset, .unset] [(.int (1 : Int32)), (.int (((n.toUInt32 >>> ((2 : Int32) &&& 31).toUInt32).toInt32) &&& (7 : Int32)))]))
        by_cases hc81_108 : (((n.toUInt32 >>> ((2 : Int32) &&& 31).toUInt32).toInt32) &&& (7 : Int32)) = (1 : Int32)
        · refine Go.st (fun t' k' => XS.icmpNo X104.here hx rfl (hb hby at_81) rfl (teq hc81_108).2 k') ?_
          show Go p e below _ (T104.setTop (mkF m 84 #[.val (.int a), .val (.int b), .val (.int cc), .val (.int q), .val (.int n), .val (.int (own_min (own_min a b) cc)), .val (.int (own_max (own_max a b) cc)), .val (.int ((((a + b) + cc) - (own_min (own_min a b) cc)) - (own_max (own_max a b) cc))), .val (.int (n &&& (3 : Int32))), .val (.int (((n.toUInt32 >>> ((2 : Int32) &&& 31).toUInt32).toInt32) &&& (7 : Int32))), .unset, .unset, .unset, .unset, .unset, .unset] []))
          refine Go.st (fun t' k' => XS.iload X104.here hx rfl (hb hby at_84) rfl k') ?_
          show Go p e below _ (T104.setTop (mkF m 86 #[.val (.int a), .val (.int b), .val (.int cc), .val (.int q), .val (.int n), .val (.int (own_min (own_min a b) cc)), .val (.int (own_max (own_max a b) cc)), .val (.int ((((a + b) + cc) - (own_min (own_min a b) cc)) - (own_max (own_max a b) cc))), .val (.int (n &&& (3 : Int32))), .val (.int (((n.toUInt32 >>> ((2 : Int32) &&& 31).toUInt32).toInt32) &&& (7 : Int32))), .unset, .unset, .unset, .unset, .unset, .unset] [(.int ((((a + b) + cc) - (own_min (own_min a b) cc)) - (own_max (own_max a b) cc)))]))
          refine Go.st (fun t' k' => XS.istore X104.here hx rfl (hb hby at_86) rfl (l' := #[.val (.int a), .val (.int b), .val (.int cc), .val (.int q), .val (.int n), .val (.int (own_min (own_min a b) cc)), .val (.int (own_max (own_max a b) cc)), .val (.int ((((a + b) + cc) - (own_min (own_min a b) cc)) - (own_max (own_max a b) cc))), .val (.int (n &&& (3 : Int32))), .val (.int (((n.toUInt32 >>> ((2 : Int32) &&& 31).toUInt32).toInt32) &&& (7 : Int32))), .val (.int ((((a + b) + cc) - (own_min (own_min a b) cc)) - (own_max (own_max a b) cc))), .unset, .unset, .unset, .unset, .unset]) rfl k') ?_
          show Go p e below _ (T104.setTop (mkF m 88 #[.val (.int a), .val (.int b), .val (.int cc), .val (.int q), .val (.int n), .val (.int (own_min (own_min a b) cc)), .val (.int (own_max (own_max a b) cc)), .val (.int ((((a + b) + cc) - (own_min (own_min a b) cc)) - (own_max (own_max a b) cc))), .val (.int (n &&& (3 : Int32))), .val (.int (((n.toUInt32 >>> ((2 : Int32) &&& 31).toUInt32).toInt32) &&& (7 : Int32))), .val (.int ((((a + b) + cc) - (own_min (own_min a b) cc)) - (own_max (own_max a b) cc))), .unset, .unset, .unset, .unset, .unset] []))
          refine Go.st (fun t' k' => XS.goto X104.here hx rfl (pc0 := 88) (pc' := 152) rfl (hb hby at_88) (by decide) (by decide) k') ?_
          -- pc 152: behind the cut
          exact blk152 Z a0 hw a b cc q n w_NO_BYTES w_NO_NUMBERS k_B k_N h0 S_NO_BYTES S_NO_NUMBERS A_NO_BYTES A_NO_NUMBERS ((own_min (own_min a b) cc)) ((own_max (own_max a b) cc)) (((((a + b) + cc) - (own_min (own_min a b) cc)) - (own_max (own_max a b) cc))) ((n &&& (3 : Int32))) ((((n.toUInt32 >>> ((2 : Int32) &&& 31).toUInt32).toInt32) &&& (7 : Int32))) (((((a + b) + cc) - (own_min (own_min a b) cc)) - (own_max (own_max a b) cc))) h0 (own_stand_mono X104 (by decide) (by decide)) hx hZ hby hml hown hret hlk e104 N104 O0 (own_and3 n)
        · refine Go.st (fun t' k' => XS.icmpYes X104.here hx rfl (pc0 := 81) (pc' := 91) rfl (hb hby at_81) rfl (feq hc81_108).2 (by decide) (by decide) k') ?_
          show Go p e below _ (T104.setTop (mkF m 91 #[.val (.int a), .val (.int b), .val (.int cc), .val (.int q), .val (.int n), .val (.int (own_min (own_min a b) cc)), .val (.int (own_max (own_max a b) cc)), .val (.int ((((a + b) + cc) - (own_min (own_min a b) cc)) - (own_max (own_max a b) cc))), .val (.int (n &&& (3 : Int32))), .val (.int (((n.toUInt32 >>> ((2 : Int32) &&& 31).toUInt32).toInt32) &&& (7 : Int32))), .unset, .unset, .unset, .unset, .unset, .unset] []))
          refine Go.st (fun t' k' => XS.iload X104.here hx rfl (hb hby at_91) rfl k') ?_
          show Go p e below _ (T104.setTop (mkF m 93 #[.val (.int a), .val (.int b), .val (.int cc), .val (.int q), .val (.int n), .val (.int (own_min (own_min a b) cc)), .val (.int (own_max (own_max a b) cc)), .val (.int ((((a + b) + cc) - (own_min (own_min a b) cc)) - (own_max (own_max a b) cc))), .val (.int (n &&& (3 : Int32))), .val (.int (((n.toUInt32 >>> ((2 : Int32) &&& 31).toUInt32).toInt32) &&& (7 : Int32))), .unset, .unset, .unset, .unset, .unset, .unset] [(.int (((n.toUInt32 >>> ((2 : Int32) &&& 31).toUInt32).toInt32) &&& (7 : Int32)))]))
          refine Go.st (fun t' k' => XS.iconst X104.here hx rfl (hb hby at_93) k') ?_
          show Go p e below _ (T104.setTop (mkF m 94 #[.val (.int a), .val (.int b), .val (.int cc), .val (.int q), .val (.int n), .val (.int (own_min (own_min a b) cc)), .val (.int (own_max (own_max a b) cc)), .val (.int ((((a + b) + cc) - (own_min (own_min a b) cc)) - (own_max (own_max a b) cc))), .val (.int (n &&& (3 : Int32))), .val (.int (((n.toUInt32 >>> ((2 : Int32) &&& 31).toUInt32).toInt32) &&& (7 : Int32))), .unset, .unset, .unset, .unset, .unset, .unset] [(.int (2 : Int32)), (.int (((n.toUInt32 >>> ((2 : Int32) &&& 31).toUInt32).toInt32) &&& (7 : Int32)))]))
          by_cases hc94_109 : (((n.toUInt32 >>> ((2 : Int32) &&& 31).toUInt32).toInt32) &&& (7 : Int32)) = (2 : Int32)
          · refine Go.st (fun t' k' => XS.icmpNo X104.here hx rfl (hb hby at_94) rfl (teq hc94_109).2 k') ?_
            show Go p e below _ (T104.setTop (mkF m 97 #[.val (.int a), .val (.int b), .val (.int cc), .val (.int q), .val (.int n), .val (.int (own_min (own_min a b) cc)), .val (.int (own_max (own_max a b) cc)), .val (.int ((((a + b) + cc) - (own_min (own_min a b) cc)) - (own_max (own_max a b) cc))), .val (.int (n &&& (3 : Int32))), .val (.int (((n.toUInt32 >>> ((2 : Int32) &&& 31).toUInt32).toInt32) &&& (7 : Int32))), .unset, .unset, .unset, .unset, .unset, .unset] []))
            refine Go.st (fun t' k' => XS.iload X104.here hx rfl (hb hby at_97) rfl k') ?_
            show Go p e below _ (T104.setTop (mkF m 99 #[.val (.int a), .val (.int b), .val (.int cc), .val (.int q), .val (.int n), .val (.int (own_min (own_min a b) cc)), .val (.int (own_max (own_max a b) cc)), .val (.int ((((a + b) + cc) - (own_min (own_min a b) cc)) - (own_max (own_max a b) cc))), .val (.int (n &&& (3 : Int32))), .val (.int (((n.toUInt32 >>> ((2 : Int32) &&& 31).toUInt32).toInt32) &&& (7 : Int32))), .unset, .unset, .unset, .unset, .unset, .unset] [(.int (own_max (own_max a b) cc))]))
            refine Go.st (fun t' k' => XS.istore X104.here hx rfl (hb hby at_99) rfl (l' := #[.val (.int a), .val (.int b), .val (.int cc), .val (.int q), .val (.int n), .val (.int (own_min (own_min a b) cc)), .val (.int (own_max (own_max a b) cc)), .val (.int ((((a + b) + cc) - (own_min (own_min a b) cc)) - (own_max (own_max a b) cc))), .val (.int (n &&& (3 : Int32))), .val (.int (((n.toUInt32 >>> ((2 : Int32) &&& 31).toUInt32).toInt32) &&& (7 : Int32))), .val (.int (own_max (own_max a b) cc)), .unset, .unset, .unset, .unset, .unset]) rfl k') ?_
            show Go p e below _ (T104.setTop (mkF m 101 #[.val (.int a), .val (.int b), .val (.int cc), .val (.int q), .val (.int n), .val (.int (own_min (own_min a b) cc)), .val (.int (own_max (own_max a b) cc)), .val (.int ((((a + b) + cc) - (own_min (own_min a b) cc)) - (own_max (own_max a b) cc))), .val (.int (n &&& (3 : Int32))), .val (.int (((n.toUInt32 >>> ((2 : Int32) &&& 31).toUInt32).toInt32) &&& (7 : Int32))), .val (.int (own_max (own_max a b) cc)), .unset, .unset, .unset, .unset, .unset] []))
            refine Go.st (fun t' k' => XS.goto X104.here hx rfl (pc0 := 101) (pc' := 152) rfl (hb hby at_101) (by decide) (by decide) k') ?_
            -- pc 152: behind the cut
            exact blk152 Z a0 hw a b cc q n w_NO_BYTES w_NO_NUMBERS k_B k_N h0 S_NO_BYTES S_NO_NUMBERS A_NO_BYTES A_NO_NUMBERS ((own_min (own_min a b) cc)) ((own_max (own_max a b) cc)) (((((a + b) + cc) - (own_min (own_min a b) cc)) - (own_max (own_max a b) cc))) ((n &&& (3 : Int32))) ((((n.toUInt32 >>> ((2 : Int32) &&& 31).toUInt32).toInt32) &&& (7 : Int32))) ((own_max (own_max a b) cc)) h0 (own_stand_mono X104 (by decide) (by decide)) hx hZ hby hml hown hret hlk e104 N104 O0 (own_and3 n)
          · refine Go.st (fun t' k' => XS.icmpYes X104.here hx rfl (pc0 := 94) (pc' := 104) rfl (hb hby at_94) rfl (feq hc94_109).2 (by decide) (by decide) k') ?_
            show Go p e below _ (T104.setTop (mkF m 104 #[.val (.int a), .val (.int b), .val (.int cc), .val (.int q), .val (.int n), .val (.int (own_min (own_min a b) cc)), .val (.int (own_max (own_max a b) cc)), .val (.int ((((a + b) + cc) - (own_min (own_min a b) cc)) - (own_max (own_max a b) cc))), .val (.int (n &&& (3 : Int32))), .val (.int (((n.toUInt32 >>> ((2 : Int32) &&& 31).toUInt32).toInt32) &&& (7 : Int32))), .unset, .unset, .unset, .unset, .unset, .unset] []))
            refine Go.st (fun t' k' => XS.iload X104.here hx rfl (hb hby at_104) rfl k') ?_
            show Go p e below _ (T104.setTop (mkF m 106 #[.val (.int a), .val (.int b), .val (.int cc), .val (.int q), .val (.int n), .val (.int (own_min (own_min a b) cc)), .val (.int (own_max (own_max a b) cc)), .val (.int ((((a + b) + cc) - (own_min (own_min a b) cc)) - (own_max (own_max a b) cc))), .val (.int (n &&& (3 : Int32))), .val (.int (((n.toUInt32 >>> ((2 : Int32) &&& 31).toUInt32).toInt32) &&& (7 : Int32))), .unset, .unset, .unset, .unset, .unset, .unset] [(.int (((n.toUInt32 >>> ((2 : Int32) &&& 31).toUInt32).toInt32) &&& (7 : Int32)))]))
            refine Go.st (fun t' k' => XS.iconst X104.here hx rfl (hb hby at_106) k') ?_
            show Go p e below _ (T104.setTop (mkF m 107 #[.val (.int a), .val (.int b), .val (.int cc), .val (.int q), .val (.int n), .val (.int (own_min (own_min a b) cc)), .val (.int (own_max (own_max a b) cc)), .val (.int ((((a + b) + cc) - (own_min (own_min a b) cc)) - (own_max (own_max a b) cc))), .val (.int (n &&& (3 : Int32))), .val (.int (((n.toUInt32 >>> ((2 : Int32) &&& 31).toUInt32).toInt32) &&& (7 : Int32))), .unset, .unset, .unset, .unset, .unset, .unset] [(.int (3 : Int32)), (.int (((n.toUInt32 >>> ((2 : Int32) &&& 31).toUInt32).toInt32) &&& (7 : Int32)))]))
            by_cases hc107_110 : (((n.toUInt32 >>> ((2 : Int32) &&& 31).toUInt32).toInt32) &&& (7 : Int32)) = (3 : Int32)
            · refine Go.st (fun t' k' => XS.icmpNo X104.here hx rfl (hb hby at_107) rfl (teq hc107_110).2 k') ?_
              show Go p e below _ (T104.setTop (mkF m 110 #[.val (.int a), .val (.int b), .val (.int cc), .val (.int q), .val (.int n), .val (.int (own_min (own_min a b) cc)), .val (.int (own_max (own_max a b) cc)), .val (.int ((((a + b) + cc) - (own_min (own_min a b) cc)) - (own_max (own_max a b) cc))), .val (.int (n &&& (3 : Int32))), .val (.int (((n.toUInt32 >>> ((2 : Int32) &&& 31).toUInt32).toInt32) &&& (7 : Int32))), .unset, .unset, .unset, .unset, .unset, .unset] []))
              refine Go.st (fun t' k' => XS.iload X104.here hx rfl (hb hby at_110) rfl k') ?_
              show Go p e below _ (T104.setTop (mkF m 112 #[.val (.int a), .val (.int b), .val (.int cc), .val (.int q), .val (.int n), .val (.int (own_min (own_min a b) cc)), .val (.int (own_max (own_max a b) cc)), .val (.int ((((a + b) + cc) - (own_min (own_min a b) cc)) - (own_max (own_max a b) cc))), .val (.int (n &&& (3 : Int32))), .val (.int (((n.toUInt32 >>> ((2 : Int32) &&& 31).toUInt32).toInt32) &&& (7 : Int32))), .unset, .unset, .unset, .unset, .unset, .unset] [(.int (own_min (own_min a b) cc))]))
              refine Go.st (fun t' k' => XS.iconst X104.here hx rfl (hb hby at_112) k') ?_
              show Go p e below _ (T104.setTop (mkF m 113 #[.val (.int a), .val (.int b), .val (.int cc), .val (.int q), .val (.int n), .val (.int (own_min (own_min a b) cc)), .val (.int (own_max (own_max a b) cc)), .val (.int ((((a + b) + cc) - (own_min (own_min a b) cc)) - (own_max (own_max a b) cc))), .val (.int (n &&& (3 : Int32))), .val (.int (((n.toUInt32 >>> ((2 : Int32) &&& 31).toUInt32).toInt32) &&& (7 : Int32))), .unset, .unset, .unset, .unset, .unset, .unset] [(.int (1 : Int32)), (.int (own_min (own_min a b) cc))]))
              refine Go.st (fun t' k' => XS.isub X104.here hx rfl (hb hby at_113) rfl k') ?_
              show Go p e below _ (T104.setTop (mkF m 114 #[.val (.int a), .val (.int b), .val (.int cc), .val (.int q), .val (.int n), .val (.int (own_min (own_min a b) cc)), .val (.int (own_max (own_max a b) cc)), .val (.int ((((a + b) + cc) - (own_min (own_min a b) cc)) - (own_max (own_max a b) cc))), .val (.int (n &&& (3 : Int32))), .val (.int (((n.toUInt32 >>> ((2 : Int32) &&& 31).toUInt32).toInt32) &&& (7 : Int32))), .unset, .unset, .unset, .unset, .unset, .unset] [(.int ((own_min (own_min a b) cc) - (1 : Int32)))]))
              refine Go.st (fun t' k' => XS.istore X104.here hx rfl (hb hby at_114) rfl (l' := #[.val (.int a), .val (.int b), .val (.int cc), .val (.int q), .val (.int n), .val (.int (own_min (own_min a b) cc)), .val (.int (own_max (own_max a b) cc)), .val (.int ((((a + b) + cc) - (own_min (own_min a b) cc)) - (own_max (own_max a b) cc))), .val (.int (n &&& (3 : Int32))), .val (.int (((n.toUInt32 >>> ((2 : Int32) &&& 31).toUInt32).toInt32) &&& (7 : Int32))), .val (.int ((own_min (own_min a b) cc) - (1 : Int32))), .unset, .unset, .unset, .unset, .unset]) rfl k') ?_
              show Go p e below _ (T104.setTop (mkF m 116 #[.val (.int a), .val (.int b), .val (.int cc), .val (.int q), .val (.int n), .val (.int (own_min (own_min a b) cc)), .val (.int (own_max (own_max a b) cc)), .val (.int ((((a + b) + cc) - (own_min (own_min a b) cc)) - (own_max (own_max a b) cc))), .val (.int (n &&& (3 : Int32))), .val (.int (((n.toUInt32 >>> ((2 : Int32) &&& 31).toUInt32).toInt32) &&& (7 : Int32))), .val (.int ((own_min (own_min a b) cc) - (1 : Int32))), .unset, .unset, .unset, .unset, .unset] []))
              refine Go.st (fun t' k' => XS.goto X104.here hx rfl (pc0 := 116) (pc' := 152) rfl (hb hby at_116) (by decide) (by decide) k') ?_
              -- pc 152: behind the cut
              exact blk152 Z a0 hw a b cc q n w_NO_BYTES w_NO_NUMBERS k_B k_N h0 S_NO_BYTES S_NO_NUMBERS A_NO_BYTES A_NO_NUMBERS ((own_min (own_min a b) cc)) ((own_max (own_max a b) cc)) (((((a + b) + cc) - (own_min (own_min a b) cc)) - (own_max (own_max a b) cc))) ((n &&& (3 : Int32))) ((((n.toUInt32 >>> ((2 : Int32) &&& 31).toUInt32).toInt32) &&& (7 : Int32))) (((own_min (own_min a b) cc) - (1 : Int32))) h0 (own_stand_mono X104 (by decide) (by decide)) hx hZ hby hml hown hret hlk e104 N104 O0 (own_and3 n)
            · refine Go.st (fun t' k' => XS.icmpYes X104.here hx rfl (pc0 := 107) (pc' := 119) rfl (hb hby at_107) rfl (feq hc107_110).2 (by decide) (by decide) k') ?_
              show Go p e below _ (T104.setTop (mkF m 119 #[.val (.int a), .val (.int b), .val (.int cc), .val (.int q), .val (.int n), .val (.int (own_min (own_min a b) cc)), .val (.int (own_max (own_max a b) cc)), .val (.int ((((a + b) + cc) - (own_min (own_min a b) cc)) - (own_max (own_max a b) cc))), .val (.int (n &&& (3 : Int32))), .val (.int (((n.toUInt32 >>> ((2 : Int32) &&& 31).toUInt32).toInt32) &&& (7 : Int32))), .unset, .unset, .unset, .unset, .unset, .unset] []))
              refine Go.st (fun t' k' => XS.iload X104.here hx rfl (hb hby at_119) rfl k') ?_
              show Go p e below _ (T104.setTop (mkF m 121 #[.val (.int a), .val (.int b), .val (.int cc), .val (.int q), .val (.int n), .val (.int (own_min (own_min a b) cc)), .val (.int (own_max (own_max a b) cc)), .val (.int ((((a + b) + cc) - (own_min (own_min a b) cc)) - (own_max (own_max a b) cc))), .val (.int (n &&& (3 : Int32))), .val (.int (((n.toUInt32 >>> ((2 : Int32) &&& 31).toUInt32).toInt32) &&& (7 : Int32))), .unset, .unset, .unset, .unset, .unset, .unset] [(.int (((n.toUInt32 >>> ((2 : Int32) &&& 31).toUInt32).toInt32) &&& (7 : Int32)))]))
              refine Go.st (fun t' k' => XS.iconst X104.here hx rfl (hb hby at_121) k') ?_
              show Go p e below _ (T104.setTop (mkF m 122 #[.val (.int a), .val (.int b), .val (.int cc), .val (.int q), .val (.int n), .val (.int (own_min (own_min a b) cc)), .val (.int (own_max (own_max a b) cc)), .val (.int ((((a + b) + cc) - (own_min (own_min a b) cc)) - (own_max (own_max a b) cc))), .val (.int (n &&& (3 : Int32))), .val (.int (((n.toUInt32 >>> ((2 : Int32) &&& 31).toUInt32).toInt32) &&& (7 : Int32))), .unset, .unset, .unset, .unset, .unset, .unset] [(.int (4 : Int32)), (.int (((n.toUInt32 >>> ((2 : Int32) &&& 31).toUInt32).toInt32) &&& (7 : Int32)))]))
              by_cases hc122_111 : (((n.toUInt32 >>> ((2 : Int32) &&& 31).toUInt32).toInt32) &&& (7 : Int32)) = (4 : Int32)
              · refine Go.st (fun t' k' => XS.icmpNo X104.here hx rfl (hb hby at_122) rfl (teq hc122_111).2 k') ?_
                show Go p e below _ (T104.setTop (mkF m 125 #[.val (.int a), .val (.int b), .val (.int cc), .val (.int q), .val (.int n), .val (.int (own_min (own_min a b) cc)), .val (.int (own_max (own_max a b) cc)), .val (.int ((((a + b) + cc) - (own_min (own_min a b) cc)) - (own_max (own_max a b) cc))), .val (.int (n &&& (3 : Int32))), .val (.int (((n.toUInt32 >>> ((2 : Int32) &&& 31).toUInt32).toInt32) &&& (7 : Int32))), .unset, .unset, .unset, .unset, .unset, .unset] []))
                refine Go.st (fun t' k' => XS.iload X104.here hx rfl (hb hby at_125) rfl k') ?_
                show Go p e below _ (T104.setTop (mkF m 127 #[.val (.int a), .val (.int b), .val (.int cc), .val (.int q), .val (.int n), .val (.int (own_min (own_min a b) cc)), .val (.int (own_max (own_max a b) cc)), .val (.int ((((a + b) + cc) - (own_min (own_min a b) cc)) - (own_max (own_max a b) cc))), .val (.int (n &&& (3 : Int32))), .val (.int (((n.toUInt32 >>> ((2 : Int32) &&& 31).toUInt32).toInt32) &&& (7 : Int32))), .unset, .unset, .unset, .unset, .unset, .unset] [(.int (own_max (own_max a b) cc))]))
                refine Go.st (fun t' k' => XS.iconst X104.here hx rfl (hb hby at_127) k') ?_
                show Go p e below _ (T104.setTop (mkF m 128 #[.val (.int a), .val (.int b), .val (.int cc), .val (.int q), .val (.int n), .val (.int (own_min (own_min a b) cc)), .val (.int (own_max (own_max a b) cc)), .val (.int ((((a + b) + cc) - (own_min (own_min a b) cc)) - (own_max (own_max a b) cc))), .val (.int (n &&& (3 : Int32))), .val (.int (((n.toUInt32 >>> ((2 : Int32) &&& 31).toUInt32).toInt32) &&& (7 : Int32))), .unset, .unset, .unset, .unset, .unset, .unset] [(.int (1 : Int32)), (.int (own_max (own_max a b) cc))]))
                refine Go.st (fun t' k' => XS.iadd X104.here hx rfl (hb hby at_128) rfl k') ?_
                show Go p e below _ (T104.setTop (mkF m 129 #[.val (.int a), .val (.int b), .val (.int cc), .val (.int q), .val (.int n), .val (.int (own_min (own_min a b) cc)), .val (.int (own_max (own_max a b) cc)), .val (.int ((((a + b) + cc) - (own_min (own_min a b) cc)) - (own_max (own_max a b) cc))), .val (.int (n &&& (3 : Int32))), .val (.int (((n.toUInt32 >>> ((2 : Int32) &&& 31).toUInt32).toInt32) &&& (7 : Int32))), .unset, .unset, .unset, .unset, .unset, .unset] [(.int ((own_max (own_max a b) cc) + (1 : Int32)))]))
                refine Go.st (fun t' k' => XS.istore X104.here hx rfl (hb hby at_129) rfl (l' := #[.val (.int a), .val (.int b), .val (.int cc), .val (.int q), .val (.int n), .val (.int (own_min (own_min a b) cc)), .val (.int (own_max (own_max a b) cc)), .val (.int ((((a + b) + cc) - (own_min (own_min a b) cc)) - (own_max (own_max a b) cc))), .val (.int (n &&& (3 : Int32))), .val (.int (((n.toUInt32 >>> ((2 : Int32) &&& 31).toUInt32).toInt32) &&& (7 : Int32))), .val (.int ((own_max (own_max a b) cc) + (1 : Int32))), .unset, .unset, .unset, .unset, .unset]) rfl k') ?_
                show Go p e below _ (T104.setTop (mkF m 131 #[.val (.int a), .val (.int b), .val (.int cc), .val (.int q), .val (.int n), .val (.int (own_min (own_min a b) cc)), .val (.int (own_max (own_max a b) cc)), .val (.int ((((a + b) + cc) - (own_min (own_min a b) cc)) - (own_max (own_max a b) cc))), .val (.int (n &&& (3 : Int32))), .val (.int (((n.toUInt32 >>> ((2 : Int32) &&& 31).toUInt32).toInt32) &&& (7 : Int32))), .val (.int ((own_max (own_max a b) cc) + (1 : Int32))), .unset, .unset, .unset, .unset, .unset] []))
                refine Go.st (fun t' k' => XS.goto X104.here hx rfl (pc0 := 131) (pc' := 152) rfl (hb hby at_131) (by decide) (by decide) k') ?_
                -- pc 152: behind the cut
                exact blk152 Z a0 hw a b cc q n w_NO_BYTES w_NO_NUMBERS k_B k_N h0 S_NO_BYTES S_NO_NUMBERS A_NO_BYTES A_NO_NUMBERS ((own_min (own_min a b) cc)) ((own_max (own_max a b) cc)) (((((a + b) + cc) - (own_min (own_min a b) cc)) - (own_max (own_max a b) cc))) ((n &&& (3 : Int32))) ((((n.toUInt32 >>> ((2 : Int32) &&& 31).toUInt32).toInt32) &&& (7 : Int32))) (((own_max (own_max a b) cc) + (1 : Int32))) h0 (own_stand_mono X104 (by decide) (by decide)) hx hZ hby hml hown hret hlk e104 N104 O0 (own_and3 n)
              · refine Go.st (fun t' k' => XS.icmpYes X104.here hx rfl (pc0 := 122) (pc' := 134) rfl (hb hby at_122) rfl (feq hc122_111).2 (by decide) (by decide) k') ?_
                show Go p e below _ (T104.setTop (mkF m 134 #[.val (.int a), .val (.int b), .val (.int cc), .val (.int q), .val (.int n), .val (.int (own_min (own_min a b) cc)), .val (.int (own_max (own_max a b) cc)), .val (.int ((((a + b) + cc) - (own_min (own_min a b) cc)) - (own_max (own_max a b) cc))), .val (.int (n &&& (3 : Int32))), .val (.int (((n.toUInt32 >>> ((2 : Int32) &&& 31).toUInt32).toInt32) &&& (7 : Int32))), .unset, .unset, .unset, .unset, .unset, .unset] []))
                refine Go.st (fun t' k' => XS.iload X104.here hx rfl (hb hby at_134) rfl k') ?_
                show Go p e below _ (T104.setTop (mkF m 136 #[.val (.int a), .val (.int b), .val (.int cc), .val (.int q), .val (.int n), .val (.int (own_min (own_min a b) cc)), .val (.int (own_max (own_max a b) cc)), .val (.int ((((a + b) + cc) - (own_min (own_min a b) cc)) - (own_max (own_max a b) cc))), .val (.int (n &&& (3 : Int32))), .val (.int (((n.toUInt32 >>> ((2 : Int32) &&& 31).toUInt32).toInt32) &&& (7 : Int32))), .unset, .unset, .unset, .unset, .unset, .unset] [(.int (((n.toUInt32 >>> ((2 : Int32) &&& 31).toUInt32).toInt32) &&& (7 : Int32)))]))
                refine Go.st (fun t' k' => XS.iconst X104.here hx rfl (hb hby at_136) k') ?_
                show Go p e below _ (T104.setTop (mkF m 137 #[.val (.int a), .val (.int b), .val (.int cc), .val (.int q), .val (.int n), .val (.int (own_min (own_min a b) cc)), .val (.int (own_max (own_max a b) cc)), .val (.int ((((a + b) + cc) - (own_min (own_min a b) cc)) - (own_max (own_max a b) cc))), .val (.int (n &&& (3 : Int32))), .val (.int (((n.toUInt32 >>> ((2 : Int32) &&& 31).toUInt32).toInt32) &&& (7 : Int32))), .unset, .unset, .unset, .unset, .unset, .unset] [(.int (5 : Int32)), (.int (((n.toUInt32 >>> ((2 : Int32) &&& 31).toUInt32).toInt32) &&& (7 : Int32)))]))
                by_cases hc137_112 : (((n.toUInt32 >>> ((2 : Int32) &&& 31).toUInt32).toInt32) &&& (7 : Int32)) = (5 : Int32)
                · refine Go.st (fun t' k' => XS.icmpNo X104.here hx rfl (hb hby at_137) rfl (teq hc137_112).2 k') ?_
                  show Go p e below _ (T104.setTop (mkF m 140 #[.val (.int a), .val (.int b), .val (.int cc), .val (.int q), .val (.int n), .val (.int (own_min (own_min a b) cc)), .val (.int (own_max (own_max a b) cc)), .val (.int ((((a + b) + cc) - (own_min (own_min a b) cc)) - (own_max (own_max a b) cc))), .val (.int (n &&& (3 : Int32))), .val (.int (((n.toUInt32 >>> ((2 : Int32) &&& 31).toUInt32).toInt32) &&& (7 : Int32))), .unset, .unset, .unset, .unset, .unset, .unset] []))
                  refine Go.st (fun t' k' => XS.iload X104.here hx rfl (hb hby at_140) rfl k') ?_
                  show Go p e below _ (T104.setTop (mkF m 142 #[.val (.int a), .val (.int b), .val (.int cc), .val (.int q), .val (.int n), .val (.int (own_min (own_min a b) cc)), .val (.int (own_max (own_max a b) cc)), .val (.int ((((a + b) + cc) - (own_min (own_min a b) cc)) - (own_max (own_max a b) cc))), .val (.int (n &&& (3 : Int32))), .val (.int (((n.toUInt32 >>> ((2 : Int32) &&& 31).toUInt32).toInt32) &&& (7 : Int32))), .unset, .unset, .unset, .unset, .unset, .unset] [(.int ((((a + b) + cc) - (own_min (own_min a b) cc)) - (own_max (own_max a b) cc)))]))
                  refine Go.st (fun t' k' => XS.iconst X104.here hx rfl (hb hby at_142) k') ?_
                  show Go p e below _ (T104.setTop (mkF m 143 #[.val (.int a), .val (.int b), .val (.int cc), .val (.int q), .val (.int n), .val (.int (own_min (own_min a b) cc)), .val (.int (own_max (own_max a b) cc)), .val (.int ((((a + b) + cc) - (own_min (own_min a b) cc)) - (own_max (own_max a b) cc))), .val (.int (n &&& (3 : Int32))), .val (.int (((n.toUInt32 >>> ((2 : Int32) &&& 31).toUInt32).toInt32) &&& (7 : Int32))), .unset, .unset, .unset, .unset, .unset, .unset] [(.int (1 : Int32)), (.int ((((a + b) + cc) - (own_min (own_min a b) cc)) - (own_max (own_max a b) cc)))]))
                  refine Go.st (fun t' k' => XS.iadd X104.here hx rfl (hb hby at_143) rfl k') ?_
                  show Go p e below _ (T104.setTop (mkF m 144 #[.val (.int a), .val (.int b), .val (.int cc), .val (.int q), .val (.int n), .val (.int (own_min (own_min a b) cc)), .val (.int (own_max (own_max a b) cc)), .val (.int ((((a + b) + cc) - (own_min (own_min a b) cc)) - (own_max (own_max a b) cc))), .val (.int (n &&& (3 : Int32))), .val (.int (((n.toUInt32 >>> ((2 : Int32) &&& 31).toUInt32).toInt32) &&& (7 : Int32))), .unset, .unset, .unset, .unset, .unset, .unset] [(.int (((((a + b) + cc) - (own_min (own_min a b) cc)) - (own_max (own_max a b) cc)) + (1 : Int32)))]))
                  refine Go.st (fun t' k' => XS.istore X104.here hx rfl (hb hby at_144) rfl (l' := #[.val (.int a), .val (.int b), .val (.int cc), .val (.int q), .val (.int n), .val (.int (own_min (own_min a b) cc)), .val (.int (own_max (own_max a b) cc)), .val (.int ((((a + b) + cc) - (own_min (own_min a b) cc)) - (own_max (own_max a b) cc))), .val (.int (n &&& (3 : Int32))), .val (.int (((n.toUInt32 >>> ((2 : Int32) &&& 31).toUInt32).toInt32) &&& (7 : Int32))), .val (.int (((((a + b) + cc) - (own_min (own_min a b) cc)) - (own_max (own_max a b) cc)) + (1 : Int32))), .unset, .unset, .unset, .unset, .unset]) rfl k') ?_
                  show Go p e below _ (T104.setTop (mkF m 146 #[.val (.int a), .val (.int b), .val (.int cc), .val (.int q), .val (.int n), .val (.int (own_min (own_min a b) cc)), .val (.int (own_max (own_max a b) cc)), .val (.int ((((a + b) + cc) - (own_min (own_min a b) cc)) - (own_max (own_max a b) cc))), .val (.int (n &&& (3 : Int32))), .val (.int (((n.toUInt32 >>> ((2 : Int32) &&& 31).toUInt32).toInt32) &&& (7 : Int32))), .val (.int (((((a + b) + cc) - (own_min (own_min a b) cc)) - (own_max (own_max a b) cc)) + (1 : Int32))), .unset, .unset, .unset, .unset, .unset] []))
                  refine Go.st (fun t' k' => XS.goto X104.here hx rfl (pc0 := 146) (pc' := 152) rfl (hb hby at_146) (by decide) (by decide) k') ?_
                  -- pc 152: behind the cut
                  exact blk152 Z a0 hw a b cc q n w_NO_BYTES w_NO_NUMBERS k_B k_N h0 S_NO_BYTES S_NO_NUMBERS A_NO_BYTES A_NO_NUMBERS ((own_min (own_min a b) cc)) ((own_max (own_max a b) cc)) (((((a + b) + cc) - (own_min (own_min a b) cc)) - (own_max (own_max a b) cc))) ((n &&& (3 : Int32))) ((((n.toUInt32 >>> ((2 : Int32) &&& 31).toUInt32).toInt32) &&& (7 : Int32))) ((((((a + b) + cc) - (own_min (own_min a b) cc)) - (own_max (own_max a b) cc)) + (1 : Int32))) h0 (own_stand_mono X104 (by decide) (by decide)) hx hZ hby hml hown hret hlk e104 N104 O0 (own_and3 n)
                · refine Go.st (fun t' k' => XS.icmpYes X104.here hx rfl (pc0 := 137) (pc' := 149) rfl (hb hby at_137) rfl (feq hc137_112).2 (by decide) (by decide) k') ?_
                  show Go p e below _ (T104.setTop (mkF m 149 #[.val (.int a), .val (.int b), .val (.int cc), .val (.int q), .val (.int n), .val (.int (own_min (own_min a b) cc)), .val (.int (own_max (own_max a b) cc)), .val (.int ((((a + b) + cc) - (own_min (own_min a b) cc)) - (own_max (own_max a b) cc))), .val (.int (n &&& (3 : Int32))), .val (.int (((n.toUInt32 >>> ((2 : Int32) &&& 31).toUInt32).toInt32) &&& (7 : Int32))), .unset, .unset, .unset, .unset, .unset, .unset] []))
                  refine Go.st (fun t' k' => XS.iloadN X104.here hx rfl (hb hby at_149) rfl k') ?_
                  show Go p e below _ (T104.setTop (mkF m 150 #[.val (.int a), .val (.int b), .val (.int cc), .val (.int q), .val (.int n), .val (.int (own_min (own_min a b) cc)), .val (.int (own_max (own_max a b) cc)), .val (.int ((((a + b) + cc) - (own_min (own_min a b) cc)) - (own_max (own_max a b) cc))), .val (.int (n &&& (3 : Int32))), .val (.int (((n.toUInt32 >>> ((2 : Int32) &&& 31).toUInt32).toInt32) &&& (7 : Int32))), .unset, .unset, .unset, .unset, .unset, .unset] [(.int q)]))
                  refine Go.st (fun t' k' => XS.istore X104.here hx rfl (hb hby at_150) rfl (l' := #[.val (.int a), .val (.int b), .val (.int cc), .val (.int q), .val (.int n), .val (.int (own_min (own_min a b) cc)), .val (.int (own_max (own_max a b) cc)), .val (.int ((((a + b) + cc) - (own_min (own_min a b) cc)) - (own_max (own_max a b) cc))), .val (.int (n &&& (3 : Int32))), .val (.int (((n.toUInt32 >>> ((2 : Int32) &&& 31).toUInt32).toInt32) &&& (7 : Int32))), .val (.int q), .unset, .unset, .unset, .unset, .unset]) rfl k') ?_
                  -- pc 152: behind the cut
                  exact blk152 Z a0 hw a b cc q n w_NO_BYTES w_NO_NUMBERS k_B k_N h0 S_NO_BYTES S_NO_NUMBERS A_NO_BYTES A_NO_NUMBERS ((own_min (own_min a b) cc)) ((own_max (own_max a b) cc)) (((((a + b) + cc) - (own_min (own_min a b) cc)) - (own_max (own_max a b) cc))) ((n &&& (3 : Int32))) ((((n.toUInt32 >>> ((2 : Int32) &&& 31).toUInt32).toInt32) &&& (7 : Int32))) q h0 (own_stand_mono X104 (by decide) (by decide)) hx hZ hby hml hown hret hlk e104 N104 O0 (own_and3 n)
set_option maxRecDepth 65536 in
set_option maxHeartbeats 40000000 in
theorem comes_1 {Post : Tables → Env → Array Value → State → Outcome → State → Prop} (hpost : ∀ tb e args s v u, (limb_1_1.after args s (.returned v) u = true ∧ limb_1_2.after args s (.returned v) u = true ∧ True) → FrameEnd s (.returned v) u (Jvm.fieldLocs frame_1_writes args s ++ Jvm.arrayLocs frame_1_arrays args s ++ Jvm.staticLocs frame_1_statics s) 24 128 → Post tb e args s (.returned v) u) :
    ArmFor flags0 classFile x code maxLocals ret World_1 tables_1 room_1 Calls_1 rest_1 Pre_1 Post := by
  intro l hfl _ _ p e ha hc hk s m args below hf hA hF happ hP
  obtain ⟨hcalls, hrest, hpre⟩ := hP
  obtain ⟨-, -, -, hnamed, -, -, -, hat⟩ := (Spec.applies_iff hf).mp happ
  obtain ⟨hg, hn⟩ := and_e (Cond.before_iff.mp (show (Jvm.Cond.and given_1 narrow_1).before args s = true from hpre))
  obtain ⟨c1, c2⟩ := and_e hg
  obtain ⟨c3, c4⟩ := and_e c2
  obtain ⟨c5, c6⟩ := and_e c4
  obtain ⟨c7, c8⟩ := and_e c6
  obtain ⟨c9, c10⟩ := and_e c8
  obtain ⟨w0, w1, w2, w3, w4, rfl⟩ : ∃ w0 w1 w2 w3 w4 : Value, args = #[w0, w1, w2, w3, w4] := by
    have hs : args.size = 5 := by simpa [Cond.value, given_1] using c1
    obtain ⟨L⟩ := args
    match L, hs with
    | [w0, w1, w2, w3, w4], _ => exact ⟨w0, w1, w2, w3, w4, rfl⟩
  have hw := fun d (hd : d ∈ tables_1) => atoms_spec (ws := Jvm.Cond.code x code maxLocals ret :: tables_1) hat d (List.mem_cons_of_mem _ hd)
  have hfit : Fit s := fun {y c} hc i hi => by
    obtain ⟨ha, rfl⟩ := Array.getElem?_eq_some_iff.mp hc
    have q := List.all_eq_true.mp ((Array.all_eq_true_iff_forall_mem.mp hF) _ (Array.getElem_mem ha)) i (List.mem_range.mpr hi)
    simpa [Array.getElem?_eq_getElem hi] using q
  obtain ⟨i0, ei0⟩ := is_v c3
  obtain rfl : w0 = (.int i0) := Option.some.inj ei0
  obtain ⟨i1, ei1⟩ := is_v c5
  obtain rfl : w1 = (.int i1) := Option.some.inj ei1
  obtain ⟨i2, ei2⟩ := is_v c7
  obtain rfl : w2 = (.int i2) := Option.some.inj ei2
  obtain ⟨i3, ei3⟩ := is_v c9
  obtain rfl : w3 = (.int i3) := Option.some.inj ei3
  obtain ⟨i4, ei4⟩ := is_v c10
  obtain rfl : w4 = (.int i4) := Option.some.inj ei4
  obtain ⟨c11, c12⟩ := and_e hn
  obtain ⟨c13, c14⟩ := and_e c12
  obtain ⟨c15, c16⟩ := and_e c14
  obtain ⟨c17, c18⟩ := and_e c16
  obtain ⟨c19, c20⟩ := and_e c18
  obtain ⟨w_NO_BYTES, ev_NO_BYTES⟩ := exa_v c13
  have S_NO_BYTES := Sta.start ev_NO_BYTES (Or.inr ⟨(hw _ (List.mem_of_getElem? (i := 11) rfl)), (hw _ (List.mem_of_getElem? (i := 19) rfl))⟩)
  have E_NO_BYTES := Exa.start ev_NO_BYTES c13
  obtain ⟨w_NO_NUMBERS, ev_NO_NUMBERS⟩ := exa_v c19
  have S_NO_NUMBERS := Sta.start ev_NO_NUMBERS (Or.inr ⟨(hw _ (List.mem_of_getElem? (i := 11) rfl)), (hw _ (List.mem_of_getElem? (i := 23) rfl))⟩)
  have E_NO_NUMBERS := Exa.start ev_NO_NUMBERS c19
  obtain ⟨cl_B, Ar_B⟩ := Arr.start ev_NO_BYTES c11
  obtain ⟨lt_B, len_B⟩ := own_len ev_NO_BYTES Ar_B c15
  have A_NO_BYTES : Arv s s.heap w_NO_BYTES cl_B.cls .byte 0 [] (.int 0) := Arv.start hfit Ar_B lt_B len_B (by decide) rfl trivial
  obtain ⟨cl_N, Ar_N⟩ := Arr.start ev_NO_NUMBERS c17
  obtain ⟨lt_N, len_N⟩ := own_len ev_NO_NUMBERS Ar_N c20
  have A_NO_NUMBERS : Arv s s.heap w_NO_NUMBERS cl_N.cls .int 0 [] (.int 0) := Arv.start hfit Ar_N lt_N len_N (by decide) rfl trivial
  obtain ⟨n, o, h1, h2, h3, _, L, rfl, ⟨rfl, N⟩, hq⟩ := rm0 l s _ hw tables_1 i0 i1 i2 i3 i4 w_NO_BYTES w_NO_NUMBERS cl_B.cls cl_N.cls s.heap (own_ext_refl _) S_NO_BYTES S_NO_NUMBERS A_NO_BYTES A_NO_NUMBERS p e ha hc hk s m _ below hf ((Spec.applies_iff_loose hf).mp happ).1 ⟨rfl, State.Warmed39.refl s, rfl⟩ trivial
  refine ⟨n, _, h1, h2, h3, hpost _ _ _ _ _ _ ⟨Cond.after_iff.mpr rfl, Cond.after_iff.mpr (eq_i res_at (Term.int_eval (1)) rfl), trivial⟩ ⟨hq.1, hq.2.1, (hq.2.2.sift fun y hy => Or.inr (N y hy)).mono (by decide) (by decide)⟩⟩
theorem main_1_1 : Claimed_1_1 := comes_1 fun _ _ _ _ _ _ h hF => ⟨h.1, hF⟩
theorem main_1_2 : Claimed_1_2 := comes_1 fun _ _ _ _ _ _ h hF => ⟨h.2.1, hF⟩
end Jvm.Pilot.@@N@@
namespace Jvm.Pilot.@@N@@
open Jvm Jvm.ClassFile Sem Op Lib Jvm.Free Jvm.Stand Jvm.Pilot.@@N@@.Jvm.D
/-! MADE BY PROGRAM (witnessworld.py) out of the Statement's table words and the real class files: 11 classes; the members and pool entries that the words name. The judged class is class 1, her method 1. -/
namespace start1
open Jvm.ClassFile
def u (s : String) : CpInfo := .utf8 (stringToUtf16 s)
/-- a pool by its gaps: so many unusable entries, then the entry; so many at the end -/
def gap : Nat → List CpInfo → List CpInfo
  | 0, r => r
  | n + 1, r => .unusable :: gap n r
def poolList (es : List (Nat × CpInfo)) (last : Nat) : List CpInfo := es.foldr (fun e r => gap e.1 (e.2 :: r)) (gap last [])
def pool (es : List (Nat × CpInfo)) (last : Nat) : Array CpInfo := ⟨poolList es last⟩
def fileOf (pool : Array CpInfo) (this : Nat) (attrs : Array Attribute := #[]) (ms : Array MethodInfo := #[]) (fl : Nat := 33) (sup : Nat := 0) (ifs : Array Nat := #[]) (fds : Array FieldInfo := #[]) : ClassFile where
  minorVersion := 0
  majorVersion := 65
  constantPool := pool
  accessFlags := fl
  thisClass := this
  superClass := sup
  interfaces := ifs
  fields := fds
  methods := ms
  attributes := attrs
def plain (name : String) (sup : Option ClassId) : Class where
  name := name
  kind := .ordinary
  loader := none
  accessFlags := 33
  super := sup
  interfaces := #[]
  cf := none
  fields := #[]
  methods := #[]
  instanceTypes := #[]
  staticTypes := #[]
  resolved := #[]
  callSites := []
  init := .initialized
  statics := none
  mirror := none

def pool0 : Array CpInfo := pool [(5, u "<init>"), (0, u "()V"), (1, .class_ 10), (1, u "java/lang/Object")] 113

def k0c0 : Code := { maxStack := 0, maxLocals := 1, code := object_method_1_code, exceptionTable := #[], attributes := #[] }
def k0m0 : Method := { name := "<init>", desc := "()V", sig := { parameters := [], returnType := none }, accessFlags := 1, code := some k0c0 }
/-- java/lang/Object -/
def k0 : Class := { plain "java/lang/Object" none with
  accessFlags := 33
  interfaces := #[]
  cf := some (fileOf pool0 8 #[] #[{ accessFlags := 1, nameIndex := 5, descriptorIndex := 6, attributes := #[] }] 33 0 #[] #[])
  fields := #[]
  methods := #[k0m0]
  instanceTypes := #[]
  staticTypes := #[]
  resolved := Array.replicate 124 none
  statics := none }

def pool1 : Array CpInfo := pool [(2, .class_ 4), (0, .nameAndType 5 6), (0, u "java/lang/Object"), (0, u "<init>"), (0, u "()V"), (0, .methodref 8 9), (0, .class_ 10), (0, .nameAndType 11 12), (0, u "java/lang/Math"), (0, u "min"), (0, u "(II)I"), (0, .methodref 8 14), (0, .nameAndType 15 12), (0, u "max"), (0, .class_ 17), (0, u "com/example/harakeke/harakeke/model/Record"), (0, .methodref 16 3), (0, .methodref 16 20), (0, .nameAndType 21 22), (0, u "set"), (0, u "(IJJ[B[IIJ[II)V"), (0, .methodref 16 24), (0, .nameAndType 25 26), (0, u "isPrintable"), (0, u "(I)Z"), (0, .class_ 28), (0, u "com/example/harakeke/harakeke/model/RecordIsPrintablePinLaw"), (2, u "law"), (0, u "(IIIII)Z")] 7

def k1m0 : Method := { name := "<init>", desc := "()V", sig := { parameters := [], returnType := none }, accessFlags := 2, code := none }
def k1c1 : Code := { maxStack := 13, maxLocals := 16, code := code, exceptionTable := #[], attributes := #[] }
def k1m1 : Method := { name := "law", desc := "(IIIII)Z", sig := { parameters := [.int, .int, .int, .int, .int], returnType := some .boolean }, accessFlags := 9, code := some k1c1 }
/-- com/example/harakeke/harakeke/model/RecordIsPrintablePinLaw -/
def k1 : Class := { plain "com/example/harakeke/harakeke/model/RecordIsPrintablePinLaw" (some 0) with
  accessFlags := 49
  interfaces := #[]
  cf := some (fileOf pool1 27 #[] #[{ accessFlags := 2, nameIndex := 5, descriptorIndex := 6, attributes := #[] }, { accessFlags := 9, nameIndex := 31, descriptorIndex := 32, attributes := #[] }] 49 2 #[] #[])
  fields := #[]
  methods := #[k1m0, k1m1]
  instanceTypes := #[]
  staticTypes := #[]
  resolved := Array.replicate 40 none
  statics := none }

def pool2 : Array CpInfo := pool [(1, .class_ 2), (0, u "java/lang/Math"), (1, .class_ 6), (1, u "java/lang/Object"), (0, u "<init>"), (0, u "()V"), (89, .class_ 100), (1, u "java/lang/Math$RandomNumberGeneratorHolder"), (71, u "negativeZeroFloatBits"), (0, u "J"), (2, u "negativeZeroDoubleBits"), (21, u "max"), (2, u "min"), (43, u "$assertionsDisabled"), (0, u "Z"), (88, u "(II)I"), (2, u "twoToTheDoubleScaleDown"), (0, u "D"), (4, u "twoToTheDoubleScaleUp"), (9, u "E"), (3, u "PI"), (2, u "TAU"), (2, u "DEGREES_TO_RADIANS"), (0, u "RADIANS_TO_DEGREES")] 94

def k2m0 : Method := { name := "<init>", desc := "()V", sig := { parameters := [], returnType := none }, accessFlags := 2, code := none }
def k2c1 : Code := { maxStack := 2, maxLocals := 2, code := jdk_29_method_65_code, exceptionTable := #[], attributes := #[] }
def k2m1 : Method := { name := "max", desc := "(II)I", sig := { parameters := [.int, .int], returnType := some .int }, accessFlags := 9, code := some k2c1 }
def k2c2 : Code := { maxStack := 2, maxLocals := 2, code := jdk_29_method_69_code, exceptionTable := #[], attributes := #[] }
def k2m2 : Method := { name := "min", desc := "(II)I", sig := { parameters := [.int, .int], returnType := some .int }, accessFlags := 9, code := some k2c2 }
/-- java/lang/Math -/
def k2 : Class := { plain "java/lang/Math" (some 0) with
  accessFlags := 49
  interfaces := #[]
  cf := some (fileOf pool2 1 #[.nestMembers #[98]] #[{ accessFlags := 2, nameIndex := 7, descriptorIndex := 8, attributes := #[] }, { accessFlags := 9, nameIndex := 198, descriptorIndex := 335, attributes := #[] }, { accessFlags := 9, nameIndex := 201, descriptorIndex := 335, attributes := #[] }] 49 4 #[] #[{ accessFlags := 25, nameIndex := 354, descriptorIndex := 339, attributes := #[] }, { accessFlags := 25, nameIndex := 358, descriptorIndex := 339, attributes := #[] }, { accessFlags := 25, nameIndex := 361, descriptorIndex := 339, attributes := #[] }, { accessFlags := 26, nameIndex := 364, descriptorIndex := 339, attributes := #[] }, { accessFlags := 26, nameIndex := 365, descriptorIndex := 339, attributes := #[] }, { accessFlags := 26, nameIndex := 172, descriptorIndex := 173, attributes := #[] }, { accessFlags := 26, nameIndex := 176, descriptorIndex := 173, attributes := #[] }, { accessFlags := 8, nameIndex := 344, descriptorIndex := 339, attributes := #[] }, { accessFlags := 8, nameIndex := 338, descriptorIndex := 339, attributes := #[] }, { accessFlags := 4120, nameIndex := 245, descriptorIndex := 246, attributes := #[] }])
  fields := #[{ name := "E", type := .double, accessFlags := 25, slot := 0, constantValue := 0 }, { name := "PI", type := .double, accessFlags := 25, slot := 1, constantValue := 0 }, { name := "TAU", type := .double, accessFlags := 25, slot := 2, constantValue := 0 }, { name := "DEGREES_TO_RADIANS", type := .double, accessFlags := 26, slot := 3, constantValue := 0 }, { name := "RADIANS_TO_DEGREES", type := .double, accessFlags := 26, slot := 4, constantValue := 0 }, { name := "negativeZeroFloatBits", type := .long, accessFlags := 26, slot := 5, constantValue := 0 }, { name := "negativeZeroDoubleBits", type := .long, accessFlags := 26, slot := 6, constantValue := 0 }, { name := "twoToTheDoubleScaleUp", type := .double, accessFlags := 8, slot := 7, constantValue := 0 }, { name := "twoToTheDoubleScaleDown", type := .double, accessFlags := 8, slot := 8, constantValue := 0 }, { name := "$assertionsDisabled", type := .boolean, accessFlags := 4120, slot := 9, constantValue := 0 }]
  methods := #[k2m0, k2m1, k2m2]
  instanceTypes := #[]
  staticTypes := #[.double, .double, .double, .double, .double, .long, .long, .double, .double, .boolean]
  resolved := Array.replicate 460 none
  statics := none }

def pool3 : Array CpInfo := pool [(1, .methodref 2 3), (0, .class_ 4), (0, .nameAndType 5 6), (0, u "java/lang/Object"), (0, u "<init>"), (0, u "()V"), (0, .fieldref 8 9), (0, .class_ 10), (0, .nameAndType 11 12), (0, u "com/example/harakeke/harakeke/model/Record"), (0, u "NO_BYTES"), (0, u "[B"), (0, .fieldref 8 14), (0, .nameAndType 15 12), (0, u "bytes"), (0, .fieldref 8 17), (0, .nameAndType 18 19), (0, u "NO_NUMBERS"), (0, u "[I"), (0, .fieldref 8 21), (0, .nameAndType 22 19), (0, u "ends"), (0, .fieldref 8 24), (0, .nameAndType 25 19), (0, u "unprintable"), (41, u "length"), (35, u "set"), (0, u "(IJJ[B[IIJ[II)V"), (0, .methodref 106 107), (0, .class_ 108), (0, .nameAndType 109 110), (0, u "java/lang/Math"), (0, u "max"), (0, u "(II)I"), (0, .methodref 112 113), (0, .class_ 114), (0, .nameAndType 115 116), (0, u "java/lang/System"), (0, u "arraycopy"), (0, u "(Ljava/lang/Object;ILjava/lang/Object;II)V"), (0, .fieldref 8 118), (0, .nameAndType 119 120), (0, u "line"), (0, u "I"), (0, .fieldref 8 122), (0, .nameAndType 123 124), (0, u "offset"), (0, u "J"), (0, .fieldref 8 126), (0, .nameAndType 67 124), (0, .fieldref 8 128), (0, .nameAndType 129 120), (0, u "kept"), (0, .fieldref 8 131), (0, .nameAndType 132 124), (0, u "fieldCount"), (0, .fieldref 8 134), (0, .nameAndType 135 120), (0, u "unprintableCount"), (115, u "isPrintable"), (0, u "(I)Z")] 48

def k3c0 : Code := { maxStack := 2, maxLocals := 1, code := prog_52_method_1_code, exceptionTable := #[], attributes := #[] }
def k3m0 : Method := { name := "<init>", desc := "()V", sig := { parameters := [], returnType := none }, accessFlags := 1, code := some k3c0 }
def k3c1 : Code := { maxStack := 5, maxLocals := 14, code := prog_52_method_3_code, exceptionTable := #[], attributes := #[] }
def k3m1 : Method := { name := "set", desc := "(IJJ[B[IIJ[II)V", sig := { parameters := [.int, .long, .long, (.array .byte), (.array .int), .int, .long, (.array .int), .int], returnType := none }, accessFlags := 1, code := some k3c1 }
def k3c2 : Code := { maxStack := 2, maxLocals := 3, code := prog_52_method_19_code, exceptionTable := #[], attributes := #[] }
def k3m2 : Method := { name := "isPrintable", desc := "(I)Z", sig := { parameters := [.int], returnType := some .boolean }, accessFlags := 1, code := some k3c2 }
/-- com/example/harakeke/harakeke/model/Record -/
def k3 : Class := { plain "com/example/harakeke/harakeke/model/Record" (some 0) with
  accessFlags := 49
  interfaces := #[]
  cf := some (fileOf pool3 8 #[] #[{ accessFlags := 1, nameIndex := 5, descriptorIndex := 6, attributes := #[] }, { accessFlags := 1, nameIndex := 103, descriptorIndex := 104, attributes := #[] }, { accessFlags := 1, nameIndex := 251, descriptorIndex := 252, attributes := #[] }] 49 2 #[] #[{ accessFlags := 26, nameIndex := 11, descriptorIndex := 12, attributes := #[] }, { accessFlags := 26, nameIndex := 18, descriptorIndex := 19, attributes := #[] }, { accessFlags := 2, nameIndex := 119, descriptorIndex := 120, attributes := #[] }, { accessFlags := 2, nameIndex := 123, descriptorIndex := 124, attributes := #[] }, { accessFlags := 2, nameIndex := 67, descriptorIndex := 124, attributes := #[] }, { accessFlags := 2, nameIndex := 15, descriptorIndex := 12, attributes := #[] }, { accessFlags := 2, nameIndex := 22, descriptorIndex := 19, attributes := #[] }, { accessFlags := 2, nameIndex := 129, descriptorIndex := 120, attributes := #[] }, { accessFlags := 2, nameIndex := 132, descriptorIndex := 124, attributes := #[] }, { accessFlags := 2, nameIndex := 25, descriptorIndex := 19, attributes := #[] }, { accessFlags := 2, nameIndex := 135, descriptorIndex := 120, attributes := #[] }])
  fields := #[{ name := "NO_BYTES", type := (.array .byte), accessFlags := 26, slot := 0, constantValue := 0 }, { name := "NO_NUMBERS", type := (.array .int), accessFlags := 26, slot := 1, constantValue := 0 }, { name := "line", type := .int, accessFlags := 2, slot := 0, constantValue := 0 }, { name := "offset", type := .long, accessFlags := 2, slot := 1, constantValue := 0 }, { name := "length", type := .long, accessFlags := 2, slot := 2, constantValue := 0 }, { name := "bytes", type := (.array .byte), accessFlags := 2, slot := 3, constantValue := 0 }, { name := "ends", type := (.array .int), accessFlags := 2, slot := 4, constantValue := 0 }, { name := "kept", type := .int, accessFlags := 2, slot := 5, constantValue := 0 }, { name := "fieldCount", type := .long, accessFlags := 2, slot := 6, constantValue := 0 }, { name := "unprintable", type := (.array .int), accessFlags := 2, slot := 7, constantValue := 0 }, { name := "unprintableCount", type := .int, accessFlags := 2, slot := 8, constantValue := 0 }]
  methods := #[k3m0, k3m1, k3m2]
  instanceTypes := #[.int, .long, .long, (.array .byte), (.array .int), .int, .long, (.array .int), .int]
  staticTypes := #[(.array .byte), (.array .int)]
  resolved := Array.replicate 301 none
  statics := some 0 }

def pool4 : Array CpInfo := pool [(2, .class_ 4), (1, u "java/lang/Object"), (0, u "<init>"), (0, u "()V"), (1, .class_ 10), (1, u "java/lang/System"), (0, u "allowSecurityManager"), (0, u "I"), (16, u "cons"), (0, u "Ljava/io/Console;"), (77, .class_ 110), (1, u "java/lang/System$CallersHolder"), (43, u "initialErrStream"), (0, u "Ljava/io/PrintStream;"), (19, u "security"), (0, u "Ljava/lang/SecurityManager;"), (31, .class_ 209), (0, u "java/lang/System$1"), (7, u "props"), (0, u "Ljava/util/Properties;"), (2, u "lineSeparator"), (0, u "Ljava/lang/String;"), (96, .class_ 321), (1, u "java/lang/System$LoggerFinder"), (5, .class_ 328), (0, u "java/lang/System$Logger"), (67, u "err"), (2, u "out"), (91, u "notSupportedJnuEncoding"), (15, u "in"), (17, u "initialIn"), (0, u "Ljava/io/InputStream;"), (35, u "bootLayer"), (0, u "Ljava/lang/ModuleLayer;"), (99, .class_ 664), (0, u "java/lang/System$2"), (9, u "NEVER"), (2, u "MAYBE"), (49, u "arraycopy"), (0, u "(Ljava/lang/Object;ILjava/lang/Object;II)V"), (72, .class_ 802), (0, u "java/lang/System$Logger$Level")] 31

def k4m0 : Method := { name := "<init>", desc := "()V", sig := { parameters := [], returnType := none }, accessFlags := 2, code := none }
def k4m1 : Method := { name := "arraycopy", desc := "(Ljava/lang/Object;ILjava/lang/Object;II)V", sig := { parameters := [(.object "java/lang/Object"), .int, (.object "java/lang/Object"), .int, .int], returnType := none }, accessFlags := 265, code := none }
/-- java/lang/System -/
def k4 : Class := { plain "java/lang/System" (some 0) with
  accessFlags := 49
  interfaces := #[]
  cf := some (fileOf pool4 8 #[.nestMembers #[319, 327, 801, 108, 663, 208]] #[{ accessFlags := 2, nameIndex := 5, descriptorIndex := 6, attributes := #[] }, { accessFlags := 265, nameIndex := 727, descriptorIndex := 728, attributes := #[] }] 49 2 #[] #[{ accessFlags := 25, nameIndex := 507, descriptorIndex := 526, attributes := #[] }, { accessFlags := 25, nameIndex := 399, descriptorIndex := 155, attributes := #[] }, { accessFlags := 25, nameIndex := 396, descriptorIndex := 155, attributes := #[] }, { accessFlags := 10, nameIndex := 525, descriptorIndex := 526, attributes := #[] }, { accessFlags := 26, nameIndex := 674, descriptorIndex := 12, attributes := #[] }, { accessFlags := 26, nameIndex := 677, descriptorIndex := 12, attributes := #[] }, { accessFlags := 10, nameIndex := 11, descriptorIndex := 12, attributes := #[] }, { accessFlags := 74, nameIndex := 175, descriptorIndex := 176, attributes := #[] }, { accessFlags := 10, nameIndex := 491, descriptorIndex := 222, attributes := #[] }, { accessFlags := 74, nameIndex := 29, descriptorIndex := 30, attributes := #[] }, { accessFlags := 74, nameIndex := 154, descriptorIndex := 155, attributes := #[] }, { accessFlags := 10, nameIndex := 217, descriptorIndex := 218, attributes := #[] }, { accessFlags := 10, nameIndex := 221, descriptorIndex := 222, attributes := #[] }, { accessFlags := 8, nameIndex := 562, descriptorIndex := 563, attributes := #[] }])
  fields := #[{ name := "in", type := (.object "java/io/InputStream"), accessFlags := 25, slot := 0, constantValue := 0 }, { name := "out", type := (.object "java/io/PrintStream"), accessFlags := 25, slot := 1, constantValue := 0 }, { name := "err", type := (.object "java/io/PrintStream"), accessFlags := 25, slot := 2, constantValue := 0 }, { name := "initialIn", type := (.object "java/io/InputStream"), accessFlags := 10, slot := 3, constantValue := 0 }, { name := "NEVER", type := .int, accessFlags := 26, slot := 4, constantValue := 0 }, { name := "MAYBE", type := .int, accessFlags := 26, slot := 5, constantValue := 0 }, { name := "allowSecurityManager", type := .int, accessFlags := 10, slot := 6, constantValue := 0 }, { name := "security", type := (.object "java/lang/SecurityManager"), accessFlags := 74, slot := 7, constantValue := 0 }, { name := "notSupportedJnuEncoding", type := (.object "java/lang/String"), accessFlags := 10, slot := 8, constantValue := 0 }, { name := "cons", type := (.object "java/io/Console"), accessFlags := 74, slot := 9, constantValue := 0 }, { name := "initialErrStream", type := (.object "java/io/PrintStream"), accessFlags := 74, slot := 10, constantValue := 0 }, { name := "props", type := (.object "java/util/Properties"), accessFlags := 10, slot := 11, constantValue := 0 }, { name := "lineSeparator", type := (.object "java/lang/String"), accessFlags := 10, slot := 12, constantValue := 0 }, { name := "bootLayer", type := (.object "java/lang/ModuleLayer"), accessFlags := 8, slot := 13, constantValue := 0 }]
  methods := #[k4m0, k4m1]
  instanceTypes := #[]
  staticTypes := #[(.object "java/io/InputStream"), (.object "java/io/PrintStream"), (.object "java/io/PrintStream"), (.object "java/io/InputStream"), .int, .int, .int, (.object "java/lang/SecurityManager"), (.object "java/lang/String"), (.object "java/io/Console"), (.object "java/io/PrintStream"), (.object "java/util/Properties"), (.object "java/lang/String"), (.object "java/lang/ModuleLayer")]
  resolved := Array.replicate 834 none
  statics := none }

def pool5 : Array CpInfo := pool [(1, u "java/lang/Cloneable"), (0, .class_ 1), (0, u "java/lang/Object"), (0, .class_ 3)] 3

/-- java/lang/Cloneable -/
def k5 : Class := { plain "java/lang/Cloneable" (some 0) with
  accessFlags := 1537
  interfaces := #[]
  cf := some (fileOf pool5 2 #[] #[] 1537 4 #[] #[])
  fields := #[]
  methods := #[]
  instanceTypes := #[]
  staticTypes := #[]
  resolved := Array.replicate 8 none
  statics := none }

def pool6 : Array CpInfo := pool [(1, u "java/io/Serializable"), (0, .class_ 1), (0, u "java/lang/Object"), (0, .class_ 3)] 3

/-- java/io/Serializable -/
def k6 : Class := { plain "java/io/Serializable" (some 0) with
  accessFlags := 1537
  interfaces := #[]
  cf := some (fileOf pool6 2 #[] #[] 1537 4 #[] #[])
  fields := #[]
  methods := #[]
  instanceTypes := #[]
  staticTypes := #[]
  resolved := Array.replicate 8 none
  statics := none }

/-- the primitive byte -/
def k7 : Class := { plain "byte" none with kind := .primitive 'B', accessFlags := 0x411 }
/-- [B -/
def k8 : Class := { plain "[B" (some 0) with kind := .array 7 .byte, interfaces := #[5, 6], accessFlags := 1041 }

/-- the primitive int -/
def k9 : Class := { plain "int" none with kind := .primitive 'I', accessFlags := 0x411 }
/-- [I -/
def k10 : Class := { plain "[I" (some 0) with kind := .array 9 .int, interfaces := #[5, 6], accessFlags := 1041 }

def heap : Heap := #[{ cls := 3, slots := #[.ref 1, .ref 2], vm := .statics 3 },
  { cls := 8, slots := #[], vm := .none },
  { cls := 10, slots := #[], vm := .none }]
def classes : Array Class := #[k0, k1, k2, k3, k4, k5, k6, k7, k8, k9, k10]
def interned : List (Array UInt16 × Addr) := []
def slotsUsed : Nat := 2
def theMethod : MethodId := ⟨1, 1⟩
def args0 : Array Value := #[.int 0, .int 1, .int 2, .int 3, .int 4]
def aboutOver (below : List Frame) : State where
  vm := { classes := classes, interned := interned.toArray }
  heap := heap
  slotsUsed := slotsUsed
  threads := #[{ frames := .invoking theMethod args0 :: below }]
def below0 : List Frame := [.native { method := ⟨0, 0⟩, args := #[] }]
def about1 : State := aboutOver below0
def p0 : Program := .bare "" "" ""
def e0 : Env := launch0.env 0 0 0
theorem w_frames : about1.frames = Frame.invoking theMethod args0 :: below0 := rfl
set_option maxRecDepth 65536 in
theorem w_args : argsFit about1.vm theMethod args0 = true := by decide +kernel
set_option maxRecDepth 65536 in
theorem w_heap : heapFits about1 = true := by decide +kernel
set_option maxRecDepth 65536 in
theorem w_runnable : about1.curStatus? = some .runnable := by decide +kernel
set_option maxRecDepth 65536 in
theorem w_alone : about1.alone = true := by decide +kernel
set_option maxRecDepth 65536 in
theorem w_named : about1.methodNamed? x = some theMethod := by decide +kernel
set_option maxRecDepth 65536 in
theorem w_hears : about1.hears theMethod below0 = true := by decide +kernel
set_option maxRecDepth 65536 in
theorem w_ripe : about1.ripe theMethod args0 below0 = true := by decide +kernel
theorem w_running : about1.status = .running := rfl
set_option maxRecDepth 65536 in
theorem w_room : about1.hasRoom e0.platform room_1 = true :=
  launch0.hasRoom_least _ room_1 (by decide +kernel) (by decide +kernel) (by decide +kernel) (by decide +kernel) (by decide +kernel) (by decide +kernel)
theorem allAtoms_all (ts : List Jvm.Cond) (a : Array Jvm.Value) (st : Jvm.State) : (allAtoms ts).before a st = ts.all (fun c => c.before a st) := by
  induction ts with
  | nil => rfl
  | cons c t ih =>
    show (Jvm.Cond.and c (allAtoms t)).before a st = _
    rw [Jvm.Cond.before_and, ih, List.all_cons]
def words1 : List Jvm.Cond := Jvm.Cond.code x code maxLocals ret :: tables_1
/-- a 'code' word, met by the world's own term for the bytes: nothing is compared byte by byte -/
theorem code_word {y : MethodName} {bytes : ByteArray} {mx : Nat} {rt : Option FieldType} {a : Array Value} {s : State} {m : MethodId} {meth : Method} {c : Code} (h1 : s.methodNamed? y = some m) (h2 : s.vm.method? m = some meth) (h3 : meth.code = some c) (h4 : c.code = bytes)
    (h5 : (c.maxLocals == mx && c.exceptionTable.isEmpty && decide (c.maxStack ≤ mostOperands) && decide (meth.sig.returnType = rt) && !meth.locks && decide (parseMethodDescriptor y.desc = some meth.sig)) = true) : (Jvm.Cond.code y bytes mx rt).before a s = true := by
  simp only [Bool.and_eq_true, beq_iff_eq, Bool.not_eq_true', decide_eq_true_eq] at h5
  obtain ⟨⟨⟨⟨⟨g1, g2⟩, g3⟩, g4⟩, g5⟩, g6⟩ := h5
  simp [Cond.before, Cond.holds, Cond.value, h1, h2, h3, h4, g1, g2, g3, g4, g5, g6]
def isCode : Jvm.Cond → Bool
  | .code _ _ _ _ => true
  | _ => false
theorem all_split {L : List Jvm.Cond} {P : Jvm.Cond → Bool} (h1 : L.all (fun c => isCode c || P c) = true) (h2 : ∀ c ∈ L.filter isCode, P c = true) : L.all P = true := by
  refine List.all_eq_true.mpr fun c hc => ?_
  have h := List.all_eq_true.mp h1 c hc
  rcases Bool.eq_false_or_eq_true (isCode c) with hi | hi
  · exact h2 c (List.mem_filter.mpr ⟨hc, hi⟩)
  · simpa [hi] using h
set_option maxRecDepth 65536 in
theorem w_c0 : (Jvm.Cond.code x code maxLocals ret).before args0 about1 = true := code_word (m := ⟨1, 1⟩) (meth := k1m1) (c := k1c1) (by decide +kernel) rfl rfl rfl (by decide +kernel)
set_option maxRecDepth 65536 in
theorem w_c1 : (Jvm.Cond.code ({ cls := "java/lang/Math", name := "min", desc := "(II)I" } : Jvm.MethodName) jdk_29_method_69_code (2 : Nat) (Option.some Jvm.ClassFile.FieldType.int)).before args0 about1 = true := code_word (m := ⟨2, 2⟩) (meth := k2m2) (c := k2c2) (by decide +kernel) rfl rfl rfl (by decide +kernel)
set_option maxRecDepth 65536 in
theorem w_c2 : (Jvm.Cond.code ({ cls := "java/lang/Math", name := "max", desc := "(II)I" } : Jvm.MethodName) jdk_29_method_65_code (2 : Nat) (Option.some Jvm.ClassFile.FieldType.int)).before args0 about1 = true := code_word (m := ⟨2, 1⟩) (meth := k2m1) (c := k2c1) (by decide +kernel) rfl rfl rfl (by decide +kernel)
set_option maxRecDepth 65536 in
theorem w_c3 : (Jvm.Cond.code ({ cls := "com/example/harakeke/harakeke/model/Record", name := "<init>", desc := "()V" } : Jvm.MethodName) prog_52_method_1_code (1 : Nat) (Option.none : Option Jvm.ClassFile.FieldType)).before args0 about1 = true := code_word (m := ⟨3, 0⟩) (meth := k3m0) (c := k3c0) (by decide +kernel) rfl rfl rfl (by decide +kernel)
set_option maxRecDepth 65536 in
theorem w_c4 : (Jvm.Cond.code ({ cls := "java/lang/Object", name := "<init>", desc := "()V" } : Jvm.MethodName) object_method_1_code (1 : Nat) (Option.none : Option Jvm.ClassFile.FieldType)).before args0 about1 = true := code_word (m := ⟨0, 0⟩) (meth := k0m0) (c := k0c0) (by decide +kernel) rfl rfl rfl (by decide +kernel)
set_option maxRecDepth 65536 in
theorem w_c5 : (Jvm.Cond.code ({ cls := "com/example/harakeke/harakeke/model/Record", name := "set", desc := "(IJJ[B[IIJ[II)V" } : Jvm.MethodName) prog_52_method_3_code (14 : Nat) (Option.none : Option Jvm.ClassFile.FieldType)).before args0 about1 = true := code_word (m := ⟨3, 1⟩) (meth := k3m1) (c := k3c1) (by decide +kernel) rfl rfl rfl (by decide +kernel)
set_option maxRecDepth 65536 in
theorem w_c6 : (Jvm.Cond.code ({ cls := "com/example/harakeke/harakeke/model/Record", name := "isPrintable", desc := "(I)Z" } : Jvm.MethodName) prog_52_method_19_code (3 : Nat) (Option.some Jvm.ClassFile.FieldType.boolean)).before args0 about1 = true := code_word (m := ⟨3, 2⟩) (meth := k3m2) (c := k3c2) (by decide +kernel) rfl rfl rfl (by decide +kernel)
def codes1 : List Jvm.Cond := [Jvm.Cond.code x code maxLocals ret, Jvm.Cond.code ({ cls := "java/lang/Math", name := "min", desc := "(II)I" } : Jvm.MethodName) jdk_29_method_69_code (2 : Nat) (Option.some Jvm.ClassFile.FieldType.int), Jvm.Cond.code ({ cls := "java/lang/Math", name := "max", desc := "(II)I" } : Jvm.MethodName) jdk_29_method_65_code (2 : Nat) (Option.some Jvm.ClassFile.FieldType.int), Jvm.Cond.code ({ cls := "com/example/harakeke/harakeke/model/Record", name := "<init>", desc := "()V" } : Jvm.MethodName) prog_52_method_1_code (1 : Nat) (Option.none : Option Jvm.ClassFile.FieldType), Jvm.Cond.code ({ cls := "java/lang/Object", name := "<init>", desc := "()V" } : Jvm.MethodName) object_method_1_code (1 : Nat) (Option.none : Option Jvm.ClassFile.FieldType), Jvm.Cond.code ({ cls := "com/example/harakeke/harakeke/model/Record", name := "set", desc := "(IJJ[B[IIJ[II)V" } : Jvm.MethodName) prog_52_method_3_code (14 : Nat) (Option.none : Option Jvm.ClassFile.FieldType), Jvm.Cond.code ({ cls := "com/example/harakeke/harakeke/model/Record", name := "isPrintable", desc := "(I)Z" } : Jvm.MethodName) prog_52_method_19_code (3 : Nat) (Option.some Jvm.ClassFile.FieldType.boolean)]
set_option maxRecDepth 65536 in
theorem codes_eq : words1.filter isCode = codes1 := rfl
theorem w_codes : ∀ c ∈ words1.filter isCode, c.before args0 about1 = true := by
  rw [codes_eq]
  intro c hc
  simp only [codes1, List.mem_cons, List.not_mem_nil, or_false] at hc
  rcases hc with rfl | rfl | rfl | rfl | rfl | rfl | rfl
  · exact w_c0
  · exact w_c1
  · exact w_c2
  · exact w_c3
  · exact w_c4
  · exact w_c5
  · exact w_c6
set_option maxRecDepth 65536 in
theorem w_t1 : (words1.take 24).all (fun c => isCode c || c.before args0 about1) = true := by decide +kernel
set_option maxRecDepth 65536 in
theorem w_t2 : ((words1.drop 24).take 24).all (fun c => isCode c || c.before args0 about1) = true := by decide +kernel
set_option maxRecDepth 65536 in
theorem w_t3 : ((words1.drop 24).drop 24).all (fun c => isCode c || c.before args0 about1) = true := by decide +kernel
theorem w_tables : (allAtoms (Jvm.Cond.code x code maxLocals ret :: tables_1)).before args0 about1 = true := by
  rw [allAtoms_all]
  show words1.all (fun c => c.before args0 about1) = true
  refine all_split ?_ w_codes
  rw [← List.take_append_drop 24 words1, List.all_append, w_t1, ← List.take_append_drop 24 (words1.drop 24), List.all_append, w_t2, w_t3]
  rfl
set_option maxRecDepth 65536 in
theorem w_case : (Jvm.Cond.and given_1 narrow_1).before args0 about1 = true := by decide +kernel
theorem w_applies : (headSpec (Jvm.Cond.code x code maxLocals ret :: tables_1) room_1).applies x e0.platform about1 = true :=
  (Spec.applies_iff w_frames).mpr ⟨w_running, w_runnable, w_alone, w_named, w_hears, w_ripe, w_room, w_tables⟩
theorem atStart : AtStart classFile x code maxLocals ret World_1 tables_1 room_1 Calls_1 rest_1 Pre_1 launch0 p0 e0 about1 theMethod args0 below0 :=
  ⟨lists_1, trivial, launch0.admits_env _ _ _, launch0.least_env, fairChoices_fair.cas, fairChoices_fair.clock, w_frames, w_args, w_heap, w_applies, trivial, trivial, w_case⟩
end start1
theorem witness_1 : WitnessClaimed_1 := ⟨start1.p0, start1.e0, start1.about1, start1.theMethod, start1.args0, start1.below0, start1.atStart⟩
end Jvm.Pilot.@@N@@
