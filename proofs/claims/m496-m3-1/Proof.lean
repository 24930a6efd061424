import JvmDerived
import JvmDerived.Pilot.@@N@@Statement
import JvmDerived.Pilot.@@N@@Code
set_option linter.unusedVariables false
set_option linter.unusedSimpArgs false
namespace Jvm.Own
open Sem ClassFile Op Lib Jvm.Stand Jvm.Free Jvm.LawKit Jvm.RoadKit
section Own
variable {p : Program} {l : Launch} {e : Env} {R : Room} {s : State} {m : MethodId} {args : Array Value} {below : List Frame} {meth : Method} {c : Code} {T S S' : State} {locs : List Loc} {cells slots : Nat} {G : Outcome → State → Prop} {Q : Option Value → Heap → List Loc → Prop} {C K : Nat}
/-- from S the run comes to an end of which G holds -/
def Go (p : Program) (e : Env) (below : List Frame) (G : Outcome → State → Prop) (S : State) : Prop := ∃ t o, Steps p.tables e below S t ∧ t.status = .running ∧ Ended t below o ∧ G o t
def GO (s : State) (Q : Option Value → Heap → List Loc → Prop) (C K : Nat) (o : Outcome) (t : State) : Prop := ∃ v L, o = .returned v ∧ Q v t.heap L ∧ FrameEnd s o t L C K
theorem Go.st (k : ∀ t, Steps p.tables e below S' t → Steps p.tables e below S t) (h : Go p e below G S') : Go p e below G S := by
  obtain ⟨t, o, h1, h2⟩ := h
  exact ⟨t, o, k t h1, h2⟩
theorem Go.tr (k : Steps p.tables e below S S') (h : Go p e below G S') : Go p e below G S := by
  obtain ⟨t, o, h1, h2⟩ := h
  exact ⟨t, o, k.trans h1, h2⟩
theorem Go.outN (X : Stand p l e R s m args below meth c T locs cells slots) (hx : p.tables.exec = Jvm.exec) (hlk : meth.locks = false) {pc : Nat} {Ls : Array Slot} {z : Int32} {t : FieldType} {rest : List Value} (hret : meth.sig.returnType = some t) (ht : t = .boolean ∨ t = .byte ∨ t = .char ∨ t = .short)
    (hd : decode c.code pc = .ok (.ireturn, 1)) (hQ : Q (some (.int (nar t z))) T.heap locs) (hC : cells ≤ C) (hK : slots ≤ K) : Go p e below (GO s Q C K) (T.setTop (mkF m pc Ls (.int z :: rest))) := by
  obtain ⟨fs, hr, hrun, hended, hW, hsame⟩ := X.leave (v := some (.int (nar t z))) (fun h => by rw [hret] at h; cases h) hlk
  exact ⟨_, _, retN X hx hret ht hd hr, hrun, hended, _, _, rfl, hQ, ⟨_, rfl⟩, hW, hsame.mono hC hK⟩
theorem Go.outI (X : Stand p l e R s m args below meth c T locs cells slots) (hx : p.tables.exec = Jvm.exec) (hlk : meth.locks = false) {pc : Nat} {Ls : Array Slot} {z : Int32} {rest : List Value} (hret : meth.sig.returnType = some .int)
    (hd : decode c.code pc = .ok (.ireturn, 1)) (hQ : Q (some (.int z)) T.heap locs) (hC : cells ≤ C) (hK : slots ≤ K) : Go p e below (GO s Q C K) (T.setTop (mkF m pc Ls (.int z :: rest))) := by
  obtain ⟨fs, hr, hrun, hended, hW, hsame⟩ := X.leave (v := some (.int z)) (fun h => by rw [hret] at h; cases h) hlk
  exact ⟨_, _, retOut X hx hret rfl (Or.inl ⟨rfl, Or.inl rfl, z, rfl⟩) hd hr, hrun, hended, _, _, rfl, hQ, ⟨_, rfl⟩, hW, hsame.mono hC hK⟩
theorem Go.outJ (X : Stand p l e R s m args below meth c T locs cells slots) (hx : p.tables.exec = Jvm.exec) (hlk : meth.locks = false) {pc : Nat} {Ls : Array Slot} {z : Int64} {rest : List Value} (hret : meth.sig.returnType = some .long)
    (hd : decode c.code pc = .ok (.lreturn, 1)) (hQ : Q (some (.long z)) T.heap locs) (hC : cells ≤ C) (hK : slots ≤ K) : Go p e below (GO s Q C K) (T.setTop (mkF m pc Ls (.long z :: rest))) := by
  obtain ⟨fs, hr, hrun, hended, hW, hsame⟩ := X.leave (v := some (.long z)) (fun h => by rw [hret] at h; cases h) hlk
  exact ⟨_, _, retOut X hx hret rfl (Or.inr (Or.inl ⟨rfl, rfl, z, rfl⟩)) hd hr, hrun, hended, _, _, rfl, hQ, ⟨_, rfl⟩, hW, hsame.mono hC hK⟩
theorem own_narrow_ref (t : FieldType) {w : Value} (h : w.isRef = true) : narrow t w = w := by
  rcases ref_cases h with rfl | ⟨a, rfl⟩ <;> cases t <;> rfl
theorem own_fits_ref (t : FieldType) {w : Value} (h : w.isRef = true) (ht : t.isReference = true := by rfl) : fits t w = true := by
  rcases ref_cases h with rfl | ⟨a, rfl⟩ <;> cases t <;> first | rfl | (cases ht)
theorem own_cat_ref {w : Value} (h : w.isRef = true) : w.category = 1 := by
  rcases ref_cases h with rfl | ⟨a, rfl⟩ <;> rfl
theorem Go.outR (X : Stand p l e R s m args below meth c T locs cells slots) (hx : p.tables.exec = Jvm.exec) (hlk : meth.locks = false) {pc : Nat} {Ls : Array Slot} {w : Value} {t : FieldType} {rest : List Value} (hret : meth.sig.returnType = some t) (ht : t.isReference = true) (hw : w.isRef = true)
    (hd : decode c.code pc = .ok (.areturn, 1)) (hQ : Q (some w) T.heap locs) (hC : cells ≤ C) (hK : slots ≤ K) : Go p e below (GO s Q C K) (T.setTop (mkF m pc Ls (w :: rest))) := by
  obtain ⟨fs, hr, hrun, hended, hW, hsame⟩ := X.leave (v := some w) (fun h => by rw [hret] at h; cases h) hlk
  exact ⟨_, _, retOut X hx hret (own_narrow_ref t hw) (Or.inr (Or.inr (Or.inr (Or.inr ⟨rfl, ht, hw⟩)))) hd hr, hrun, hended, _, _, rfl, hQ, ⟨_, rfl⟩, hW, hsame.mono hC hK⟩
theorem Go.outU (X : Stand p l e R s m args below meth c T locs cells slots) (hx : p.tables.exec = Jvm.exec) (hlk : meth.locks = false) {pc : Nat} {Ls : Array Slot} (hret : meth.sig.returnType = none)
    (hd : decode c.code pc = .ok (.return_, 1)) (hQ : Q none T.heap locs) (hC : cells ≤ C) (hK : slots ≤ K) : Go p e below (GO s Q C K) (T.setTop (mkF m pc Ls [])) := by
  obtain ⟨fs, hr, hrun, hended, hW, hsame⟩ := X.leave (v := none) (fun _ => rfl) hlk
  exact ⟨_, _, X.returnOut hx hret hd hr, hrun, hended, _, _, rfl, hQ, ⟨_, rfl⟩, hW, hsame.mono hC hK⟩
def GOW (s : State) (Q : Option Value → Heap → List Loc → Prop) (C K : Nat) (o : Outcome) (t : State) : Prop := ∃ v L, o = .returned v ∧ Q v t.heap L ∧ ReturnedEndW s o t L C K
theorem Go.outW {vm₁ : Vm} {n : Nat} (X : Stand p l e R (s.setVm vm₁) m args below meth c T locs cells slots) (hS : s.Since vm₁ n) (hn : n ≤ T.heap.size) {v : Option Value} (hv : meth.sig.returnType = none → v = none) (hlk : meth.locks = false)
    (st : ∀ fs, (∀ (f : JFrame) (acts : List Action), f.method = m → f.locked = none → f.entered = [] → (doReturn e (T.setTop f) acts v).1 = T.setFrames fs) → Steps p.tables e below S (T.setFrames fs)) (hQ : Q v T.heap locs) (hC : cells ≤ C) (hK : slots ≤ K) : Go p e below (GOW s Q C K) S := by
  obtain ⟨fs, hr, hrun, hended, h1, h2, h3, h4⟩ := X.leaveW hS hn (v := v) hv hlk
  exact ⟨_, _, st fs hr, hrun, hended, _, _, rfl, hQ, h1, h2, h3, h4.mono hC hK⟩
theorem own_stand_mono {cells' slots' : Nat} (X : Stand p l e R s m args below meth c T locs cells slots) (h1 : cells ≤ cells') (h2 : slots ≤ slots') : Stand p l e R s m args below meth c T locs cells' slots' :=
  ⟨X.admits, X.cas, X.clock, X.frames, X.room, X.hears, X.method, X.code, X.here, X.tail, X.warmed, X.limits, X.bytes, X.same.mono h1 h2⟩
end Own
section Facts
variable {Z : State} {h h' h0 : Heap} {a b : Addr} {sl : Nat} {v : Value} {ws : List Addr}
theorem own_ext_refl (h : Heap) : Ext h h := ⟨Nat.le_refl _, fun _ _ q => q⟩
theorem own_ext_trans (O : Ext h0 h) (E : Ext h h') : Ext h0 h' := ⟨Nat.le_trans O.1 E.1, fun x c q => E.2 x c (O.2 x c q)⟩
theorem own_ext_keep (O : Ext h0 h) (K : Keep h h' ws) (g : ∀ x ∈ ws, h0.size ≤ x) : Ext h0 h' := ⟨Nat.le_trans O.1 K.1, fun x c q => K.2.1 x c (O.2 x c q) fun z => Nat.not_lt.mpr (g x z) (Array.getElem?_eq_some_iff.mp q).1⟩
theorem own_ext_wr (O : Ext h0 h) (W : Wr h h' a sl v) (g : h0.size ≤ a) : Ext h0 h' := own_ext_keep O (Keep.of_wr W) (allS g all0)
theorem own_irr (x : Int32) : ¬ x < x := fun h => Int32.lt_irrefl h
theorem own_fld {args : Array Value} {t : Term} {C n d : String} {k : Int32} (ev : t.eval args Z none [] Z = some (.ref a)) (hq : (Cond.eq (.field t C n d) (.int k)).value args Z none Z [] = some true) : Fld Z Z.heap a C n d (.int k) := by
  obtain ⟨x, y, h1, h2, h3, h4⟩ := cmp_v (Or.inl hq)
  have e2 : y = .int k := Option.some.inj (h2.symm.trans (Term.int_eval k))
  subst e2
  obtain ⟨z, rfl⟩ := h4
  have e3 : z = k := by simpa [Cond.value, h1, h2] using hq
  subst e3
  exact Fld.start ((fld_at ev).symm.trans h1)
theorem own_fldN {args : Array Value} {t : Term} {C n d : String} (ev : t.eval args Z none [] Z = some (.ref a)) (hq : (Cond.eq (.field t C n d) .null).value args Z none Z [] = some true) : Fld Z Z.heap a C n d .null :=
  Fld.start ((fld_at ev).symm.trans (null_v hq))
theorem own_len {args : Array Value} {t : Term} {z : Int32} {cl : Cell} {ty : FieldType} (ev : t.eval args Z none [] Z = some (.ref a)) (A : Arr Z Z.heap a cl ty) (hq : (Cond.eq (.length t) (.int z)).value args Z none Z [] = some true) : cl.slots.size < 2 ^ 31 ∧ cl.slots.size.toInt32 = z := by
  obtain ⟨x, y, h1, h2, h3, h4⟩ := cmp_v (Or.inl hq)
  have e2 : y = .int z := Option.some.inj (h2.symm.trans (Term.int_eval z))
  subst e2
  have ha : Z.arrayAt? a = some cl := A.fin (Vm.Alike.refl _)
  by_cases hl : cl.slots.size < 2 ^ 31
  · have e3 := Option.some.inj ((len_f ev ha hl).symm.trans h1)
    subst e3
    refine ⟨hl, ?_⟩
    simpa [Cond.value, h1, h2] using hq
  · exfalso
    simp [Term.eval, ev, ha] at h1
    exact hl h1.1
theorem own_elem {args : Array Value} {t u : Term} {i : Int32} {cl : Cell} {ty : FieldType} (ev : t.eval args Z none [] Z = some (.ref a)) (A : Arr Z Z.heap a cl ty) (eu : u.eval args Z none [] Z = some (.ref b)) (hq : (Cond.eq (.elem t (.int i)) u).value args Z none Z [] = some true) : cl.slots[i.toNatClampNeg]? = some (.ref b) := by
  obtain ⟨x, y, h1, h2, h3, h4⟩ := cmp_v (Or.inl hq)
  have e2 : y = .ref b := Option.some.inj (h2.symm.trans eu)
  subst e2
  have h5 := (elem_in h1 ev (Term.int_eval i) A.1).2
  have e3 : x = .ref b := gotT (eq_R h1 h2 h4.2 rfl) hq
  rw [← e3]
  exact h5
theorem own_and3 (k : Int32) : k &&& 3 = 0 ∨ k &&& 3 = 1 ∨ k &&& 3 = 2 ∨ k &&& 3 = 3 := by
  have h := c_mask k 3 2 (by decide) (by decide)
  simp only [← Int32.toInt_inj, Int32.reduceToInt]
  omega
theorem own_mod (x n : Int32) (hn : 0 < n.toInt) : 0 ≤ ((x &&& 2147483647) % n).toInt ∧ ((x &&& 2147483647) % n).toInt < n.toInt := by
  have h1 := (c_and x 2147483647 (by decide)).1
  have h2 := (c_iremV (x &&& 2147483647) n).1 h1 hn
  exact ⟨h2.1, h2.2.1⟩
theorem own_cp0 {p : Program} {l : Launch} {e : Env} {R : Room} {s : State} {m : MethodId} {args : Array Value} {below : List Frame} {meth : Method} {c : Code} {T : State} {locs : List Loc} {cells slots : Nat} {a0 : Array Value} {own : String} {index : Nat} (X : Stand p l e R s m args below meth c T locs cells slots) (hx : p.tables.exec = Jvm.exec) (hZ : Z.Warmed39 s.vm) (hown : s.vm.findClass own = some m.cls)
    (w1 : (Cond.methodLink own index Jvm.Stand.acN).before a0 Z = true) (w2 : (Cond.native Jvm.Stand.acN).before a0 Z = true) (w3 : (Cond.static Jvm.Stand.acN).before a0 Z = true) (w4 : (Cond.initialized "java/lang/System").before a0 Z = true) (eT : T.heap = h)
    {k k' : ClassId} {ty : FieldType} {z z' : Int32} {vs vd : List Value} {dv dd : Value} (A : Arv Z h a k ty z vs dv) (B : Arv Z h b k' ty z' vd dd) (hty : refKind ty = false) {nn : Int32} (hnn : nn = 0)
    {g : JFrame} (hg : g.method = m) (hsize : g.locals.size = c.maxLocals) {rest : List Value} (hs : g.stack = .int nn :: .int 0 :: .ref b :: .int 0 :: .ref a :: rest) (hd : decode c.code g.pc = .ok (.invokestatic index, 3))
    (hf : 1 ≤ R.frames) {W : Nat} (hW : 2 * g.monitorRoom + (rest.map fun v => v.category).sum ≤ W) (hlo : W + (nativeFrameWords "java/lang/System" "arraycopy" 5 + 11) ≤ R.locals) :
    ∃ T', Stand p l e R s m args below meth c T' locs cells slots ∧ T'.heap = h ∧ ∀ target, Steps p.tables e below (T'.setTop { g with pc := g.pc + 3, stack := rest }) target → Steps p.tables e below (T.setTop g) target := by
  subst hnn
  obtain ⟨cs, As, -, Ss, -, Hs, Gs⟩ := A
  obtain ⟨cd, Ad, qd, Sd, Nd, Hd, Gd⟩ := B
  obtain ⟨os, ks, hks, sc, hsk⟩ := State.isArrayOf_alike hZ.alike As.2.1
  obtain ⟨od, kd, hkd, dc, hdk⟩ := State.isArrayOf_alike hZ.alike Ad.2.1
  have z0 : (0 : Int32).toInt = 0 := rfl
  obtain ⟨vm₁, hW₁, X', st⟩ := X.arraycopyK (srcPos := 0) (destPos := 0) (n := 0) hx hown (mvT hZ w1) (mvT hZ w2) (mvT hZ w3) (mvT hZ w4) (by rw [eT]; exact As.1) (by rw [eT]; exact Ad.1) os od As.2.2 Ad.2.2 hks hkd hsk hdk
    (by simp [hty]) (by decide) (by decide) (by decide) (by rw [z0]; omega) (by rw [z0]; omega) (fun vm₁ hw i hi => absurd hi (Nat.not_lt_zero i)) hg hsize hs hd hf (by omega)
  have e1 : copied cs cd 0 0 0 = cd := rfl
  have e2 : copyLocs b (0 : Int32).toNatClampNeg (0 : Int32).toNatClampNeg = [] := rfl
  rw [e1] at X' st
  rw [e2, List.append_nil] at X'
  refine ⟨_, X', ?_, st⟩
  show (T.heap.setIfInBounds b cd) = h
  rw [eT]
  refine Array.ext_getElem? fun i => ?_
  by_cases q : b = i
  · subst q
    rw [Array.getElem?_setIfInBounds_self_of_lt (Array.getElem?_eq_some_iff.mp Ad.1).1]
    exact Ad.1.symm
  · rw [Array.getElem?_setIfInBounds_ne q]
/-- an array of which the length alone is said -/
def own_AL (Z : State) (h : Heap) (a : Addr) (ty : FieldType) (z : Int32) : Prop := ∃ k vs d, Arv Z h a k ty z vs d
theorem own_AL.of {k : ClassId} {ty : FieldType} {z : Int32} {vs : List Value} {d : Value} (F : Arv Z h a k ty z vs d) : own_AL Z h a ty z := ⟨k, vs, d, F⟩
theorem own_AL.lt {ty : FieldType} {z : Int32} (F : own_AL Z h a ty z) : a < h.size := by obtain ⟨k, vs, d, F⟩ := F; exact F.lt
theorem own_AL.ext {ty : FieldType} {z : Int32} (F : own_AL Z h a ty z) (E : Ext h h') : own_AL Z h' a ty z := by obtain ⟨k, vs, d, F⟩ := F; exact ⟨k, vs, d, F.ext E⟩
theorem own_AL.other {ty : FieldType} {z : Int32} (F : own_AL Z h b ty z) (W : Wr h h' a sl v) (q : b ≠ a) : own_AL Z h' b ty z := by obtain ⟨k, vs, d, F⟩ := F; exact ⟨k, vs, d, F.other W q⟩
theorem own_AL.keep {ty : FieldType} {z : Int32} (F : own_AL Z h a ty z) (K : Keep h h' ws) (q : a ∉ ws) : own_AL Z h' a ty z := by obtain ⟨k, vs, d, F⟩ := F; exact ⟨k, vs, d, F.keep K q⟩
theorem own_AL.len {ty : FieldType} {z : Int32} (F : own_AL Z h a ty z) (n : Nat) : ∃ k vs d, Arv Z h a k ty z vs d ∧ n ≤ vs.length := by
  obtain ⟨k, vs, d, F⟩ := F
  exact ⟨k, vs ++ List.replicate n d, d, F.pad (pad_rep vs d n), by simp⟩
theorem own_AL.nn {ty : FieldType} {z : Int32} (F : own_AL Z h a ty z) : 0 ≤ z.toInt := by
  obtain ⟨k, vs, d, c, A, q1, q2, q3, r⟩ := F
  rw [Int32.lt_iff_toInt_lt] at q3
  exact Int.not_lt.mp q3
/-- a copy into one array leaves every array's length -/
theorem own_AL.cp {k : ClassId} {ty ty' : FieldType} {z z' : Int32} {vs : List Value} {d : Value} (F : own_AL Z h a ty z) (B : own_AL Z h b ty' z') (K : Keep h h' [b]) (V : Arv Z h' b k ty' z' vs d) : own_AL Z h' a ty z := by
  by_cases q : a = b
  · subst q
    obtain ⟨k1, vs1, d1, c1, A1, e1, s1, n1, -⟩ := F
    obtain ⟨k2, vs2, d2, c2, A2, e2, s2, n2, -⟩ := B
    have ec : c1 = c2 := Option.some.inj (A1.1.symm.trans A2.1)
    subst ec
    obtain ⟨-, w1, g1, p1, g2⟩ := A1.2.1
    obtain ⟨-, w2, g3, p2, g4⟩ := A2.2.1
    have ew : w1 = w2 := Option.some.inj (g1.symm.trans g3)
    subst ew
    have et : ty = ty' := by rw [g2] at g4; cases g4; rfl
    have ez : z = z' := by rw [← (back32 n1).1, ← (back32 n2).1, ← s1, ← s2]
    subst et ez
    exact ⟨_, _, _, V⟩
  · exact F.keep K (ninS q nin0)
theorem own_IB {vm : Vm} (hint : vm.interned = Z.vm.interned) : IB Z vm [] := ⟨#[], by rw [hint]; simp, fun q hq => by simp at hq⟩
theorem own_backOfSI {p : Program} {l : Launch} {e : Env} {R : Room} {s : State} {args : Array Value} {below : List Frame} {a0 : Array Value} {y : MethodName} {bytes : ByteArray} {maxL : Nat} {ret : Option FieldType} {rm : Room} {len W : Nat} {as' : Array Value} {Q : Option Value → Heap → List Loc → Prop} (hint : s.vm.interned = Z.vm.interned)
    (hM : MetFree l y (head1 [Cond.code y bytes maxL ret] rm) (fun a U => a = as' ∧ Z.Warmed39 U.vm ∧ U.heap = h ∧ U.vm.interned = Z.vm.interned) (fun _ _ _ _ _ => True) (fun _ U o U' => ∃ v L, o = .returned v ∧ Q v U'.heap L ∧ ReturnedEndW U o U' L rm.cells rm.slots))
    (hZ : Z.Warmed39 s.vm) (wc : (Cond.code y bytes maxL ret).before a0 Z = true) (wz : (Cond.initialized y.cls).before a0 Z = true) (hf : rm.frames + 1 ≤ R.frames) (hl : W + (maxL + 11) + rm.locals ≤ R.locals) :
    BackS l R p e below s args y len W (fun A a => a = as' ∧ A.U.heap = h ∧ A.cells + rm.cells ≤ R.cells ∧ A.slots + rm.slots ≤ R.slots)
      (fun A _ v B => ∃ L, Q v B.U.heap L ∧ B.locs = A.locs ++ L ∧ B.cells = A.cells + rm.cells ∧ B.slots = A.slots + rm.slots) :=
  BackS.of_freeW (bytes := bytes) (maxL := maxL) (ret := ret) (E := fun _ _ o t L k n => k = rm.cells ∧ n = rm.slots ∧ ∃ v, o = .returned v ∧ Q v t.heap L) hM hf hl
    (fun m meth c A a Y hp => have hU : Z.Warmed39 A.U.vm := wtrans hZ Y.warmed
      ⟨by show (Cond.and _ .tt).before a A.U = true; rw [Cond.before_and, mv hU wc]; rfl, mv hU wc, mv hU wz, hp.2.2.1, hp.2.2.2⟩)
    (fun m meth c A a g mk Y hp => ⟨hp.1, wtrans hZ Y.warmed, hp.2.1, Y.warmed.interned_eq.trans hint⟩) (fun _ _ _ _ _ _ _ _ _ => trivial)
    (fun _ _ _ _ ⟨v, L, h1, h2, h3⟩ => ⟨L, _, _, h3, rfl, rfl, v, h1, h2⟩)
    (fun m meth c A a g mk v t L k n Y hp _ _ ⟨e1, e2, v', e3, e4⟩ => by cases e3; subst e1 e2; exact ⟨L, e4, rfl, rfl, rfl⟩)
end Facts
end Jvm.Own
namespace Jvm.Pilot.@@N@@
open Jvm Jvm.ClassFile Sem Op Lib Jvm.Free Jvm.Stand Jvm.LawKit Jvm.RoadKit Jvm.Own Bundle Jvm.Pilot.@@N@@.Jvm.D
theorem ef_rm1 (m : MethodId) (x0 : Addr) : entryFrame m #[(.ref x0)] 1 = mkF m 0 #[.val (.ref x0)] [] := by first | (simp [entryFrame, mkF, argsToLocals, Value.category]; done) | rfl
def Q_rm1 (Z : State) (a : Addr) (w_CHAR : Addr) (w_VARCHAR : Addr) (h0 : Heap) (v : Option Value) (h : Heap) (L : List Loc) : Prop := v = some (.int (if a = w_CHAR ∨ a = w_VARCHAR then 1 else 0)) ∧ L = [] ∧ h = h0
theorem pn_com_example_harakeke_harakeke_model_FieldType_Kind : plainName "com/example/harakeke/harakeke/model/FieldType$Kind" = true := by first | (simp [plainName, overriddenIn]; done) | decide +kernel
theorem d1_0 : decode prog_44_method_4_code 0 = .ok (.aload_n 0, 1) := by decide +kernel
theorem d1_1 : decode prog_44_method_4_code 1 = .ok (.getstatic 3, 3) := by decide +kernel
theorem d1_4 : decode prog_44_method_4_code 4 = .ok (.if_acmp .eq 10, 3) := by decide +kernel
theorem d1_14 : decode prog_44_method_4_code 14 = .ok (.iconst 1, 1) := by decide +kernel
theorem d1_15 : decode prog_44_method_4_code 15 = .ok (.goto 4, 3) := by decide +kernel
theorem d1_19 : decode prog_44_method_4_code 19 = .ok (.ireturn, 1) := by decide +kernel
theorem d1_7 : decode prog_44_method_4_code 7 = .ok (.aload_n 0, 1) := by decide +kernel
theorem d1_8 : decode prog_44_method_4_code 8 = .ok (.getstatic 7, 3) := by decide +kernel
theorem d1_11 : decode prog_44_method_4_code 11 = .ok (.if_acmp .ne 7, 3) := by decide +kernel
theorem d1_18 : decode prog_44_method_4_code 18 = .ok (.iconst 0, 1) := by decide +kernel
set_option maxRecDepth 65536 in
set_option maxHeartbeats 40000000 in
theorem rm1 (l : Launch) (Z : State) (a0 : Array Value) (hw : ∀ d ∈ tables_1, d.before a0 Z = true) (ws : List Jvm.Cond) (a : Addr) (w_CHAR : Addr) (w_VARCHAR : Addr) (h0 : Heap) (O0 : Ext Z.heap h0) (S_CHAR : Sta Z Z.heap "com/example/harakeke/harakeke/model/FieldType$Kind" "CHAR" "Lcom/example/harakeke/harakeke/model/FieldType$Kind;" (.ref w_CHAR)) (S_VARCHAR : Sta Z Z.heap "com/example/harakeke/harakeke/model/FieldType$Kind" "VARCHAR" "Lcom/example/harakeke/harakeke/model/FieldType$Kind;" (.ref w_VARCHAR)) :
    MetFree l (⟨"com/example/harakeke/harakeke/model/FieldType$Kind", "isText", "()Z"⟩ : MethodName) (head1 (Jvm.Cond.code (⟨"com/example/harakeke/harakeke/model/FieldType$Kind", "isText", "()Z"⟩ : MethodName) prog_44_method_4_code 1 (some .boolean) :: ws) ({ frames := 0, cells := 0, slots := 0, locals := 0 } : Room)) (fun av' U => av' = #[(.ref a)] ∧ Z.Warmed39 U.vm ∧ U.heap = h0) (fun _ _ _ _ _ => True) (fun _ U o U' => ∃ v L, o = .returned v ∧ Q_rm1 Z a w_CHAR w_VARCHAR h0 v U'.heap L ∧ FrameEnd U o U' L ({ frames := 0, cells := 0, slots := 0, locals := 0 } : Room).cells ({ frames := 0, cells := 0, slots := 0, locals := 0 } : Room).slots) := by
  refine MetFree.of_bodySF (plainFor_of_name pn_com_example_harakeke_harakeke_model_FieldType_Kind) hisR ?_
  intro p e s m args below meth c s₁ Bd hml0 hP hK
  obtain ⟨rfl, hZ, hh⟩ := hP
  have hx := Bd.exec
  have hby := Bd.bytes
  have hret := Bd.returns
  have hlk : meth.locks = false := Bd.notSynchronized
  have hml : c.maxLocals = 1 := hml0
  have hown : s.vm.findClass "com/example/harakeke/harakeke/model/FieldType$Kind" = some m.cls := findClass_of_methodNamed Bd.named
  have hnm := (name_of_methodNamed Bd.named Bd.method).1
  have X0 : Stand p l e ({ frames := 0, cells := 0, slots := 0, locals := 0 } : Room) s m #[(.ref a)] below meth c s₁ [] 0 0 := Stand.of_body Bd
  -- the walk
  have e0 : s₁.heap = h0 := by rw [← hh, Bd.state]; rfl
  have N0 := Fr.nil Z.heap.size
  show Go p e below (GO s (Q_rm1 Z a w_CHAR w_VARCHAR h0) ({ frames := 0, cells := 0, slots := 0, locals := 0 } : Room).cells ({ frames := 0, cells := 0, slots := 0, locals := 0 } : Room).slots) (s₁.setTop (entryFrame m #[(.ref a)] 1))
  refine Go.st (fun t' k' => castTop (ef_rm1 m a) k') ?_
  show Go p e below _ (s₁.setTop (mkF m 0 #[.val (.ref a)] []))
  refine Go.st (fun t' k' => XS.aloadN X0.here hx rfl (hb hby d1_0) rfl rfl k') ?_
  show Go p e below _ (s₁.setTop (mkF m 1 #[.val (.ref a)] [(.ref a)]))
  obtain ⟨T1, X1, e1, st1⟩ := getS2 X0 hx hZ hown (host := "") (Or.inl (hw _ (List.mem_of_getElem? (i := 9) rfl))) Via.refl e0 (S_CHAR.ext O0) (g := (mkF m 1 #[.val (.ref a)] [(.ref a)])) rfl (hb hby d1_1)
  refine Go.st st1 ?_
  show Go p e below _ (T1.setTop (mkF m 4 #[.val (.ref a)] [(.ref w_CHAR), (.ref a)]))
  by_cases hc4_2 : a = w_CHAR
  · refine Go.st (fun t' k' => Jvm.RoadKit.acmp (g := (mkF m 4 #[.val (.ref a)] [(.ref w_CHAR), (.ref a)])) X1 hx rfl rfl rfl (pc0 := 4) (pc' := 14) (same := true) rfl (hb hby d1_4) rfl (decide_eq_true (congrArg Value.ref hc4_2)) (by decide) (by decide) k') ?_
    show Go p e below _ (T1.setTop (mkF m 14 #[.val (.ref a)] []))
    refine Go.st (fun t' k' => XS.iconst X1.here hx rfl (hb hby d1_14) k') ?_
    show Go p e below _ (T1.setTop (mkF m 15 #[.val (.ref a)] [(.int (1 : Int32))]))
    refine Go.st (fun t' k' => XS.goto X1.here hx rfl (pc0 := 15) (pc' := 19) rfl (hb hby d1_15) (by decide) (by decide) k') ?_
    show Go p e below _ (T1.setTop (mkF m 19 #[.val (.ref a)] [(.int (1 : Int32))]))
    exact Go.outN X1 hx hlk (t := .boolean) hret (by simp) (hb hby d1_19) (Q := Q_rm1 Z a w_CHAR w_VARCHAR h0) (by rw [e1]; exact ⟨(by simp [*] <;> rfl), rfl, rfl⟩) (by decide) (by decide)
  · refine Go.st (fun t' k' => Jvm.RoadKit.acmp (g := (mkF m 4 #[.val (.ref a)] [(.ref w_CHAR), (.ref a)])) X1 hx rfl rfl rfl (pc0 := 4) (pc' := 7) (same := false) rfl (hb hby d1_4) rfl (decide_eq_false fun q => hc4_2 (Value.ref.inj q)) (by decide) (by decide) k') ?_
    show Go p e below _ (T1.setTop (mkF m 7 #[.val (.ref a)] []))
    refine Go.st (fun t' k' => XS.aloadN X1.here hx rfl (hb hby d1_7) rfl rfl k') ?_
    show Go p e below _ (T1.setTop (mkF m 8 #[.val (.ref a)] [(.ref a)]))
    obtain ⟨T3, X3, e3, st3⟩ := getS2 X1 hx hZ hown (host := "") (Or.inl (hw _ (List.mem_of_getElem? (i := 12) rfl))) Via.refl e1 (S_VARCHAR.ext O0) (g := (mkF m 8 #[.val (.ref a)] [(.ref a)])) rfl (hb hby d1_8)
    refine Go.st st3 ?_
    show Go p e below _ (T3.setTop (mkF m 11 #[.val (.ref a)] [(.ref w_VARCHAR), (.ref a)]))
    by_cases hc11_4 : a = w_VARCHAR
    · refine Go.st (fun t' k' => Jvm.RoadKit.acmp (g := (mkF m 11 #[.val (.ref a)] [(.ref w_VARCHAR), (.ref a)])) X3 hx rfl rfl rfl (pc0 := 11) (pc' := 14) (same := true) rfl (hb hby d1_11) rfl (decide_eq_true (congrArg Value.ref hc11_4)) (by decide) (by decide) k') ?_
      show Go p e below _ (T3.setTop (mkF m 14 #[.val (.ref a)] []))
      refine Go.st (fun t' k' => XS.iconst X3.here hx rfl (hb hby d1_14) k') ?_
      show Go p e below _ (T3.setTop (mkF m 15 #[.val (.ref a)] [(.int (1 : Int32))]))
      refine Go.st (fun t' k' => XS.goto X3.here hx rfl (pc0 := 15) (pc' := 19) rfl (hb hby d1_15) (by decide) (by decide) k') ?_
      show Go p e below _ (T3.setTop (mkF m 19 #[.val (.ref a)] [(.int (1 : Int32))]))
      exact Go.outN X3 hx hlk (t := .boolean) hret (by simp) (hb hby d1_19) (Q := Q_rm1 Z a w_CHAR w_VARCHAR h0) (by rw [e3]; exact ⟨(by simp [*] <;> rfl), rfl, rfl⟩) (by decide) (by decide)
    · refine Go.st (fun t' k' => Jvm.RoadKit.acmp (g := (mkF m 11 #[.val (.ref a)] [(.ref w_VARCHAR), (.ref a)])) X3 hx rfl rfl rfl (pc0 := 11) (pc' := 18) (same := false) rfl (hb hby d1_11) rfl (decide_eq_false fun q => hc11_4 (Value.ref.inj q)) (by decide) (by decide) k') ?_
      show Go p e below _ (T3.setTop (mkF m 18 #[.val (.ref a)] []))
      refine Go.st (fun t' k' => XS.iconst X3.here hx rfl (hb hby d1_18) k') ?_
      show Go p e below _ (T3.setTop (mkF m 19 #[.val (.ref a)] [(.int (0 : Int32))]))
      exact Go.outN X3 hx hlk (t := .boolean) hret (by simp) (hb hby d1_19) (Q := Q_rm1 Z a w_CHAR w_VARCHAR h0) (by rw [e3]; exact ⟨(by simp [*] <;> rfl), rfl, rfl⟩) (by decide) (by decide)
theorem ef_rm0 (m : MethodId) (x0 : Int32) : entryFrame m #[(.int x0)] maxLocals = mkF m 0 #[.val (.int x0), .unset, .unset, .unset] [] := by first | (simp [entryFrame, mkF, argsToLocals, Value.category, maxLocals]; done) | rfl
def Q_rm0 (Z : State) (k : Int32) (w_CHAR : Addr) (w_VARCHAR : Addr) (w_DATE : Addr) (w_PARTIAL_DATE : Addr) (w_DATETIME : Addr) (h0 : Heap) (v : Option Value) (h : Heap) (L : List Loc) : Prop := v = some (.int (1 : Int32)) ∧ Fr Z.heap.size L
theorem pn_com_example_harakeke_harakeke_model_KindIsTextPinLaw : plainName "com/example/harakeke/harakeke/model/KindIsTextPinLaw" = true := by first | (simp [plainName, overriddenIn]; done) | decide +kernel
theorem pd___Z : parseMethodDescriptor "()Z" = some ⟨[], some .boolean⟩ := by decide +kernel
set_option maxRecDepth 65536 in
set_option maxHeartbeats 40000000 in
theorem rm0 (l : Launch) (Z : State) (a0 : Array Value) (hw : ∀ d ∈ tables_1, d.before a0 Z = true) (ws : List Jvm.Cond) (k : Int32) (w_CHAR : Addr) (w_VARCHAR : Addr) (w_DATE : Addr) (w_PARTIAL_DATE : Addr) (w_DATETIME : Addr) (h0 : Heap) (O0 : Ext Z.heap h0) (S_CHAR : Sta Z Z.heap "com/example/harakeke/harakeke/model/FieldType$Kind" "CHAR" "Lcom/example/harakeke/harakeke/model/FieldType$Kind;" (.ref w_CHAR)) (S_VARCHAR : Sta Z Z.heap "com/example/harakeke/harakeke/model/FieldType$Kind" "VARCHAR" "Lcom/example/harakeke/harakeke/model/FieldType$Kind;" (.ref w_VARCHAR)) (S_DATE : Sta Z Z.heap "com/example/harakeke/harakeke/model/FieldType$Kind" "DATE" "Lcom/example/harakeke/harakeke/model/FieldType$Kind;" (.ref w_DATE)) (S_PARTIAL_DATE : Sta Z Z.heap "com/example/harakeke/harakeke/model/FieldType$Kind" "PARTIAL_DATE" "Lcom/example/harakeke/harakeke/model/FieldType$Kind;" (.ref w_PARTIAL_DATE)) (S_DATETIME : Sta Z Z.heap "com/example/harakeke/harakeke/model/FieldType$Kind" "DATETIME" "Lcom/example/harakeke/harakeke/model/FieldType$Kind;" (.ref w_DATETIME)) (E_CHAR : Exa Z Z.heap w_CHAR "com/example/harakeke/harakeke/model/FieldType$Kind") (E_VARCHAR : Exa Z Z.heap w_VARCHAR "com/example/harakeke/harakeke/model/FieldType$Kind") (E_DATE : Exa Z Z.heap w_DATE "com/example/harakeke/harakeke/model/FieldType$Kind") (E_PARTIAL_DATE : Exa Z Z.heap w_PARTIAL_DATE "com/example/harakeke/harakeke/model/FieldType$Kind") (E_DATETIME : Exa Z Z.heap w_DATETIME "com/example/harakeke/harakeke/model/FieldType$Kind") (F_CHAR_ordinal : Fld Z Z.heap w_CHAR "java/lang/Enum" "ordinal" "I" (.int (0 : Int32))) (F_VARCHAR_ordinal : Fld Z Z.heap w_VARCHAR "java/lang/Enum" "ordinal" "I" (.int (1 : Int32))) (F_DATE_ordinal : Fld Z Z.heap w_DATE "java/lang/Enum" "ordinal" "I" (.int (2 : Int32))) (F_PARTIAL_DATE_ordinal : Fld Z Z.heap w_PARTIAL_DATE "java/lang/Enum" "ordinal" "I" (.int (3 : Int32))) (F_DATETIME_ordinal : Fld Z Z.heap w_DATETIME "java/lang/Enum" "ordinal" "I" (.int (4 : Int32))) :
    MetFree l x (head1 (Jvm.Cond.code x code maxLocals ret :: ws) room_1) (fun av' U => av' = #[(.int k)] ∧ Z.Warmed39 U.vm ∧ U.heap = h0) (fun _ _ _ _ _ => True) (fun _ U o U' => ∃ v L, o = .returned v ∧ Q_rm0 Z k w_CHAR w_VARCHAR w_DATE w_PARTIAL_DATE w_DATETIME h0 v U'.heap L ∧ FrameEnd U o U' L room_1.cells room_1.slots) := by
  refine MetFree.of_bodySF (plainFor_of_name pn_com_example_harakeke_harakeke_model_KindIsTextPinLaw) hisR ?_
  intro p e s m args below meth c s₁ Bd hml0 hP hK
  obtain ⟨rfl, hZ, hh⟩ := hP
  have hx := Bd.exec
  have hby := Bd.bytes
  have hret := Bd.returns
  have hlk : meth.locks = false := Bd.notSynchronized
  have hml : c.maxLocals = 4 := hml0
  have hown : s.vm.findClass "com/example/harakeke/harakeke/model/KindIsTextPinLaw" = some m.cls := findClass_of_methodNamed Bd.named
  have hnm := (name_of_methodNamed Bd.named Bd.method).1
  have X0 : Stand p l e room_1 s m #[(.int k)] below meth c s₁ [] 0 0 := Stand.of_body Bd
  -- the walk
  have e0 : s₁.heap = h0 := by rw [← hh, Bd.state]; rfl
  have N0 := Fr.nil Z.heap.size
  show Go p e below (GO s (Q_rm0 Z k w_CHAR w_VARCHAR w_DATE w_PARTIAL_DATE w_DATETIME h0) room_1.cells room_1.slots) (s₁.setTop (entryFrame m #[(.int k)] maxLocals))
  refine Go.st (fun t' k' => castTop (ef_rm0 m k) k') ?_
  show Go p e below _ (s₁.setTop (mkF m 0 #[.val (.int k), .unset, .unset, .unset] []))
  have ne_CHAR_VARCHAR : w_CHAR ≠ w_VARCHAR := Fld.ne F_CHAR_ordinal F_VARCHAR_ordinal (by decide)
  have ne_CHAR_DATE : w_CHAR ≠ w_DATE := Fld.ne F_CHAR_ordinal F_DATE_ordinal (by decide)
  have ne_CHAR_PARTIAL_DATE : w_CHAR ≠ w_PARTIAL_DATE := Fld.ne F_CHAR_ordinal F_PARTIAL_DATE_ordinal (by decide)
  have ne_CHAR_DATETIME : w_CHAR ≠ w_DATETIME := Fld.ne F_CHAR_ordinal F_DATETIME_ordinal (by decide)
  have ne_VARCHAR_DATE : w_VARCHAR ≠ w_DATE := Fld.ne F_VARCHAR_ordinal F_DATE_ordinal (by decide)
  have ne_VARCHAR_PARTIAL_DATE : w_VARCHAR ≠ w_PARTIAL_DATE := Fld.ne F_VARCHAR_ordinal F_PARTIAL_DATE_ordinal (by decide)
  have ne_VARCHAR_DATETIME : w_VARCHAR ≠ w_DATETIME := Fld.ne F_VARCHAR_ordinal F_DATETIME_ordinal (by decide)
  have ne_DATE_PARTIAL_DATE : w_DATE ≠ w_PARTIAL_DATE := Fld.ne F_DATE_ordinal F_PARTIAL_DATE_ordinal (by decide)
  have ne_DATE_DATETIME : w_DATE ≠ w_DATETIME := Fld.ne F_DATE_ordinal F_DATETIME_ordinal (by decide)
  have ne_PARTIAL_DATE_DATETIME : w_PARTIAL_DATE ≠ w_DATETIME := Fld.ne F_PARTIAL_DATE_ordinal F_DATETIME_ordinal (by decide)
  refine Go.st (fun t' k' => XS.iloadN X0.here hx rfl (hb hby at_0) rfl k') ?_
  show Go p e below _ (s₁.setTop (mkF m 1 #[.val (.int k), .unset, .unset, .unset] [(.int k)]))
  refine Go.st (X0.ldcInt hx hown (mvT hZ (hw _ (List.mem_of_getElem? (i := 0) rfl))) (g := (mkF m 1 #[.val (.int k), .unset, .unset, .unset] [(.int k)])) rfl (hb hby at_1)) ?_
  show Go p e below _ (s₁.setTop (mkF m 3 #[.val (.int k), .unset, .unset, .unset] [(.int (2147483647 : Int32)), (.int k)]))
  refine Go.st (fun t' k' => XS.iand X0.here hx rfl (hb hby at_3) rfl k') ?_
  show Go p e below _ (s₁.setTop (mkF m 4 #[.val (.int k), .unset, .unset, .unset] [(.int (k &&& (2147483647 : Int32)))]))
  refine Go.st (fun t' k' => XS.iconst X0.here hx rfl (hb hby at_4) k') ?_
  show Go p e below _ (s₁.setTop (mkF m 5 #[.val (.int k), .unset, .unset, .unset] [(.int (5 : Int32)), (.int (k &&& (2147483647 : Int32)))]))
  refine Go.st (fun t' k' => Jvm.RoadKit.iremM (g := (mkF m 5 #[.val (.int k), .unset, .unset, .unset] [(.int (5 : Int32)), (.int (k &&& (2147483647 : Int32)))])) X0 hx rfl (hb hby at_5) rfl (by decide) k') ?_
  show Go p e below _ (s₁.setTop (mkF m 6 #[.val (.int k), .unset, .unset, .unset] [(.int ((k &&& (2147483647 : Int32)) % (5 : Int32)))]))
  refine Go.st (fun t' k' => XS.istoreN X0.here hx rfl (hb hby at_6) rfl (l' := #[.val (.int k), .val (.int ((k &&& (2147483647 : Int32)) % (5 : Int32))), .unset, .unset]) rfl k') ?_
  show Go p e below _ (s₁.setTop (mkF m 7 #[.val (.int k), .val (.int ((k &&& (2147483647 : Int32)) % (5 : Int32))), .unset, .unset] []))
  refine Go.st (fun t' k' => XS.iloadN X0.here hx rfl (hb hby at_7) rfl k') ?_
  show Go p e below _ (s₁.setTop (mkF m 8 #[.val (.int k), .val (.int ((k &&& (2147483647 : Int32)) % (5 : Int32))), .unset, .unset] [(.int ((k &&& (2147483647 : Int32)) % (5 : Int32)))]))
  by_cases hc8_1 : ((k &&& (2147483647 : Int32)) % (5 : Int32)) = (0 : Int32)
  · refine Go.st (fun t' k' => XS.ifNo X0.here hx rfl (hb hby at_8) rfl ((if0 _ _).trans (teq hc8_1).2) k') ?_
    show Go p e below _ (s₁.setTop (mkF m 11 #[.val (.int k), .val (.int ((k &&& (2147483647 : Int32)) % (5 : Int32))), .unset, .unset] []))
    obtain ⟨T2, X2, e2, st2⟩ := getS2 X0 hx hZ hown (host := "") (Or.inl (hw _ (List.mem_of_getElem? (i := 1) rfl))) Via.refl e0 (S_CHAR.ext O0) (g := (mkF m 11 #[.val (.int k), .val (.int ((k &&& (2147483647 : Int32)) % (5 : Int32))), .unset, .unset] [])) rfl (hb hby at_11)
    refine Go.st st2 ?_
    show Go p e below _ (T2.setTop (mkF m 14 #[.val (.int k), .val (.int ((k &&& (2147483647 : Int32)) % (5 : Int32))), .unset, .unset] [(.ref w_CHAR)]))
    refine Go.st (fun t' k' => XS.astoreN X2.here hx rfl (hb hby at_14) rfl rfl (l' := #[.val (.int k), .val (.int ((k &&& (2147483647 : Int32)) % (5 : Int32))), .val (.ref w_CHAR), .unset]) rfl k') ?_
    show Go p e below _ (T2.setTop (mkF m 15 #[.val (.int k), .val (.int ((k &&& (2147483647 : Int32)) % (5 : Int32))), .val (.ref w_CHAR), .unset] []))
    refine Go.st (fun t' k' => XS.goto X2.here hx rfl (pc0 := 15) (pc' := 58) rfl (hb hby at_15) (by decide) (by decide) k') ?_
    show Go p e below _ (T2.setTop (mkF m 58 #[.val (.int k), .val (.int ((k &&& (2147483647 : Int32)) % (5 : Int32))), .val (.ref w_CHAR), .unset] []))
    refine Go.st (fun t' k' => XS.iloadN X2.here hx rfl (hb hby at_58) rfl k') ?_
    show Go p e below _ (T2.setTop (mkF m 59 #[.val (.int k), .val (.int ((k &&& (2147483647 : Int32)) % (5 : Int32))), .val (.ref w_CHAR), .unset] [(.int ((k &&& (2147483647 : Int32)) % (5 : Int32)))]))
    refine Go.st (fun t' k' => XS.iconst X2.here hx rfl (hb hby at_59) k') ?_
    show Go p e below _ (T2.setTop (mkF m 60 #[.val (.int k), .val (.int ((k &&& (2147483647 : Int32)) % (5 : Int32))), .val (.ref w_CHAR), .unset] [(.int (1 : Int32)), (.int ((k &&& (2147483647 : Int32)) % (5 : Int32)))]))
    refine Go.st (fun t' k' => XS.icmpNo X2.here hx rfl (hb hby at_60) rfl (flt (by have hm := own_mod k 5 (by decide); simp only [Int32.lt_iff_toInt_lt, ← Int32.toInt_inj, Int32.reduceToInt] at hm hc8_1 ⊢; omega : ¬ ((1 : Int32) < ((k &&& (2147483647 : Int32)) % (5 : Int32))))).2.2.1 k') ?_
    show Go p e below _ (T2.setTop (mkF m 63 #[.val (.int k), .val (.int ((k &&& (2147483647 : Int32)) % (5 : Int32))), .val (.ref w_CHAR), .unset] []))
    refine Go.st (fun t' k' => XS.iconst X2.here hx rfl (hb hby at_63) k') ?_
    show Go p e below _ (T2.setTop (mkF m 64 #[.val (.int k), .val (.int ((k &&& (2147483647 : Int32)) % (5 : Int32))), .val (.ref w_CHAR), .unset] [(.int (1 : Int32))]))
    refine Go.st (fun t' k' => XS.goto X2.here hx rfl (pc0 := 64) (pc' := 68) rfl (hb hby at_64) (by decide) (by decide) k') ?_
    show Go p e below _ (T2.setTop (mkF m 68 #[.val (.int k), .val (.int ((k &&& (2147483647 : Int32)) % (5 : Int32))), .val (.ref w_CHAR), .unset] [(.int (1 : Int32))]))
    refine Go.st (fun t' k' => XS.istoreN X2.here hx rfl (hb hby at_68) rfl (l' := #[.val (.int k), .val (.int ((k &&& (2147483647 : Int32)) % (5 : Int32))), .val (.ref w_CHAR), .val (.int (1 : Int32))]) rfl k') ?_
    show Go p e below _ (T2.setTop (mkF m 69 #[.val (.int k), .val (.int ((k &&& (2147483647 : Int32)) % (5 : Int32))), .val (.ref w_CHAR), .val (.int (1 : Int32))] []))
    refine Go.st (fun t' k' => XS.aloadN X2.here hx rfl (hb hby at_69) rfl rfl k') ?_
    show Go p e below _ (T2.setTop (mkF m 70 #[.val (.int k), .val (.int ((k &&& (2147483647 : Int32)) % (5 : Int32))), .val (.ref w_CHAR), .val (.int (1 : Int32))] [(.ref w_CHAR)]))
    obtain ⟨cq3, kq3, q3a, q3b, q3c⟩ := isOf hZ e2 (E_CHAR.ext O0)
    obtain ⟨_, _, ⟨T3, L3, k3, n3⟩, -, X3, ⟨Lc3, hQ3, l3, y3, z3⟩, st3⟩ := X2.virtualBack hx (y := (⟨"com/example/harakeke/harakeke/model/FieldType$Kind", "isText", "()Z"⟩ : MethodName)) (z := (⟨"com/example/harakeke/harakeke/model/FieldType$Kind", "isText", "()Z"⟩ : MethodName)) hown (mvT hZ (hw _ (List.mem_of_getElem? (i := 4) rfl))) (mvT hZ (hw _ (List.mem_of_getElem? (i := 5) rfl))) (notFace_of_selects (args := #[]) (mvT hZ (hw _ (List.mem_of_getElem? (i := 7) rfl)))) (mvT hZ (hw _ (List.mem_of_getElem? (i := 7) rfl))) (mvT hZ (hw _ (List.mem_of_getElem? (i := 6) rfl))) (by decide) (backOf (W := 0) (rm1 l Z a0 hw [] w_CHAR w_CHAR w_VARCHAR h0 O0 S_CHAR S_VARCHAR) hZ (hw _ (List.mem_of_getElem? (i := 8) rfl)) (hw _ (List.mem_of_getElem? (i := 2) rfl)) (by decide) (by decide)) q3a q3c (g := (mkF m 70 #[.val (.int k), .val (.int ((k &&& (2147483647 : Int32)) % (5 : Int32))), .val (.ref w_CHAR), .val (.int (1 : Int32))] [(.ref w_CHAR)])) rfl (by rw [hml]; rfl) (Steps.refl _) (argsL := []) (rest := []) (lenOf pd___Z rfl) rfl (by show 2 * 0 + _ ≤ _; exact Nat.le_of_eq rfl) (hb hby at_70) (fun _ _ => ⟨rfl, e2, (by decide : 0 + 0 ≤ _), (by decide : 0 + 0 ≤ _)⟩)
    dsimp only [Pt.U, Pt.locs, Pt.cells, Pt.slots] at X3 l3 y3 z3 st3 hQ3
    subst l3 y3 z3
    obtain ⟨rfl, rfl, e3⟩ := hQ3
    have N3 := Fr.app N0 (Fr.nil _)
    refine Go.tr st3 ?_
    show Go p e below _ (T3.setTop (mkF m 73 #[.val (.int k), .val (.int ((k &&& (2147483647 : Int32)) % (5 : Int32))), .val (.ref w_CHAR), .val (.int (1 : Int32))] [(.int (if w_CHAR = w_CHAR ∨ w_CHAR = w_VARCHAR then 1 else 0))]))
    refine Go.st (fun t' k' => XS.iloadN X3.here hx rfl (hb hby at_73) rfl k') ?_
    show Go p e below _ (T3.setTop (mkF m 74 #[.val (.int k), .val (.int ((k &&& (2147483647 : Int32)) % (5 : Int32))), .val (.ref w_CHAR), .val (.int (1 : Int32))] [(.int (1 : Int32)), (.int (if w_CHAR = w_CHAR ∨ w_CHAR = w_VARCHAR then 1 else 0))]))
    refine Go.st (fun t' k' => XS.icmpNo X3.here hx rfl (hb hby at_74) rfl (teq (by simp [ne_CHAR_DATE, ne_CHAR_DATETIME, ne_CHAR_PARTIAL_DATE, ne_CHAR_VARCHAR, ne_DATE_DATETIME, ne_DATE_PARTIAL_DATE, ne_PARTIAL_DATE_DATETIME, ne_VARCHAR_DATE, ne_VARCHAR_DATETIME, ne_VARCHAR_PARTIAL_DATE, Ne.symm ne_CHAR_DATE, Ne.symm ne_CHAR_DATETIME, Ne.symm ne_CHAR_PARTIAL_DATE, Ne.symm ne_CHAR_VARCHAR, Ne.symm ne_DATE_DATETIME, Ne.symm ne_DATE_PARTIAL_DATE, Ne.symm ne_PARTIAL_DATE_DATETIME, Ne.symm ne_VARCHAR_DATE, Ne.symm ne_VARCHAR_DATETIME, Ne.symm ne_VARCHAR_PARTIAL_DATE])).2 k') ?_
    show Go p e below _ (T3.setTop (mkF m 77 #[.val (.int k), .val (.int ((k &&& (2147483647 : Int32)) % (5 : Int32))), .val (.ref w_CHAR), .val (.int (1 : Int32))] []))
    refine Go.st (fun t' k' => XS.iconst X3.here hx rfl (hb hby at_77) k') ?_
    show Go p e below _ (T3.setTop (mkF m 78 #[.val (.int k), .val (.int ((k &&& (2147483647 : Int32)) % (5 : Int32))), .val (.ref w_CHAR), .val (.int (1 : Int32))] [(.int (1 : Int32))]))
    refine Go.st (fun t' k' => XS.goto X3.here hx rfl (pc0 := 78) (pc' := 82) rfl (hb hby at_78) (by decide) (by decide) k') ?_
    show Go p e below _ (T3.setTop (mkF m 82 #[.val (.int k), .val (.int ((k &&& (2147483647 : Int32)) % (5 : Int32))), .val (.ref w_CHAR), .val (.int (1 : Int32))] [(.int (1 : Int32))]))
    exact Go.outN X3 hx hlk (t := .boolean) hret (by simp) (hb hby at_82) (Q := Q_rm0 Z k w_CHAR w_VARCHAR w_DATE w_PARTIAL_DATE w_DATETIME h0) (by rw [e3]; exact ⟨rfl, N3⟩) (by decide) (by decide)
  · refine Go.st (fun t' k' => XS.ifYes X0.here hx rfl (pc0 := 8) (pc' := 18) rfl (hb hby at_8) rfl ((if0 _ _).trans (feq hc8_1).2) (by decide) (by decide) k') ?_
    show Go p e below _ (s₁.setTop (mkF m 18 #[.val (.int k), .val (.int ((k &&& (2147483647 : Int32)) % (5 : Int32))), .unset, .unset] []))
    refine Go.st (fun t' k' => XS.iloadN X0.here hx rfl (hb hby at_18) rfl k') ?_
    show Go p e below _ (s₁.setTop (mkF m 19 #[.val (.int k), .val (.int ((k &&& (2147483647 : Int32)) % (5 : Int32))), .unset, .unset] [(.int ((k &&& (2147483647 : Int32)) % (5 : Int32)))]))
    refine Go.st (fun t' k' => XS.iconst X0.here hx rfl (hb hby at_19) k') ?_
    show Go p e below _ (s₁.setTop (mkF m 20 #[.val (.int k), .val (.int ((k &&& (2147483647 : Int32)) % (5 : Int32))), .unset, .unset] [(.int (1 : Int32)), (.int ((k &&& (2147483647 : Int32)) % (5 : Int32)))]))
    by_cases hc20_4 : ((k &&& (2147483647 : Int32)) % (5 : Int32)) = (1 : Int32)
    · refine Go.st (fun t' k' => XS.icmpNo X0.here hx rfl (hb hby at_20) rfl (teq hc20_4).2 k') ?_
      show Go p e below _ (s₁.setTop (mkF m 23 #[.val (.int k), .val (.int ((k &&& (2147483647 : Int32)) % (5 : Int32))), .unset, .unset] []))
      obtain ⟨T5, X5, e5, st5⟩ := getS2 X0 hx hZ hown (host := "") (Or.inl (hw _ (List.mem_of_getElem? (i := 14) rfl))) Via.refl e0 (S_VARCHAR.ext O0) (g := (mkF m 23 #[.val (.int k), .val (.int ((k &&& (2147483647 : Int32)) % (5 : Int32))), .unset, .unset] [])) rfl (hb hby at_23)
      refine Go.st st5 ?_
      show Go p e below _ (T5.setTop (mkF m 26 #[.val (.int k), .val (.int ((k &&& (2147483647 : Int32)) % (5 : Int32))), .unset, .unset] [(.ref w_VARCHAR)]))
      refine Go.st (fun t' k' => XS.astoreN X5.here hx rfl (hb hby at_26) rfl rfl (l' := #[.val (.int k), .val (.int ((k &&& (2147483647 : Int32)) % (5 : Int32))), .val (.ref w_VARCHAR), .unset]) rfl k') ?_
      show Go p e below _ (T5.setTop (mkF m 27 #[.val (.int k), .val (.int ((k &&& (2147483647 : Int32)) % (5 : Int32))), .val (.ref w_VARCHAR), .unset] []))
      refine Go.st (fun t' k' => XS.goto X5.here hx rfl (pc0 := 27) (pc' := 58) rfl (hb hby at_27) (by decide) (by decide) k') ?_
      show Go p e below _ (T5.setTop (mkF m 58 #[.val (.int k), .val (.int ((k &&& (2147483647 : Int32)) % (5 : Int32))), .val (.ref w_VARCHAR), .unset] []))
      refine Go.st (fun t' k' => XS.iloadN X5.here hx rfl (hb hby at_58) rfl k') ?_
      show Go p e below _ (T5.setTop (mkF m 59 #[.val (.int k), .val (.int ((k &&& (2147483647 : Int32)) % (5 : Int32))), .val (.ref w_VARCHAR), .unset] [(.int ((k &&& (2147483647 : Int32)) % (5 : Int32)))]))
      refine Go.st (fun t' k' => XS.iconst X5.here hx rfl (hb hby at_59) k') ?_
      show Go p e below _ (T5.setTop (mkF m 60 #[.val (.int k), .val (.int ((k &&& (2147483647 : Int32)) % (5 : Int32))), .val (.ref w_VARCHAR), .unset] [(.int (1 : Int32)), (.int ((k &&& (2147483647 : Int32)) % (5 : Int32)))]))
      refine Go.st (fun t' k' => XS.icmpNo X5.here hx rfl (hb hby at_60) rfl (flt (by have hm := own_mod k 5 (by decide); simp only [Int32.lt_iff_toInt_lt, ← Int32.toInt_inj, Int32.reduceToInt] at hm hc8_1 hc20_4 ⊢; omega : ¬ ((1 : Int32) < ((k &&& (2147483647 : Int32)) % (5 : Int32))))).2.2.1 k') ?_
      show Go p e below _ (T5.setTop (mkF m 63 #[.val (.int k), .val (.int ((k &&& (2147483647 : Int32)) % (5 : Int32))), .val (.ref w_VARCHAR), .unset] []))
      refine Go.st (fun t' k' => XS.iconst X5.here hx rfl (hb hby at_63) k') ?_
      show Go p e below _ (T5.setTop (mkF m 64 #[.val (.int k), .val (.int ((k &&& (2147483647 : Int32)) % (5 : Int32))), .val (.ref w_VARCHAR), .unset] [(.int (1 : Int32))]))
      refine Go.st (fun t' k' => XS.goto X5.here hx rfl (pc0 := 64) (pc' := 68) rfl (hb hby at_64) (by decide) (by decide) k') ?_
      show Go p e below _ (T5.setTop (mkF m 68 #[.val (.int k), .val (.int ((k &&& (2147483647 : Int32)) % (5 : Int32))), .val (.ref w_VARCHAR), .unset] [(.int (1 : Int32))]))
      refine Go.st (fun t' k' => XS.istoreN X5.here hx rfl (hb hby at_68) rfl (l' := #[.val (.int k), .val (.int ((k &&& (2147483647 : Int32)) % (5 : Int32))), .val (.ref w_VARCHAR), .val (.int (1 : Int32))]) rfl k') ?_
      show Go p e below _ (T5.setTop (mkF m 69 #[.val (.int k), .val (.int ((k &&& (2147483647 : Int32)) % (5 : Int32))), .val (.ref w_VARCHAR), .val (.int (1 : Int32))] []))
      refine Go.st (fun t' k' => XS.aloadN X5.here hx rfl (hb hby at_69) rfl rfl k') ?_
      show Go p e below _ (T5.setTop (mkF m 70 #[.val (.int k), .val (.int ((k &&& (2147483647 : Int32)) % (5 : Int32))), .val (.ref w_VARCHAR), .val (.int (1 : Int32))] [(.ref w_VARCHAR)]))
      obtain ⟨cq6, kq6, q6a, q6b, q6c⟩ := isOf hZ e5 (E_VARCHAR.ext O0)
      obtain ⟨_, _, ⟨T6, L6, k6, n6⟩, -, X6, ⟨Lc6, hQ6, l6, y6, z6⟩, st6⟩ := X5.virtualBack hx (y := (⟨"com/example/harakeke/harakeke/model/FieldType$Kind", "isText", "()Z"⟩ : MethodName)) (z := (⟨"com/example/harakeke/harakeke/model/FieldType$Kind", "isText", "()Z"⟩ : MethodName)) hown (mvT hZ (hw _ (List.mem_of_getElem? (i := 4) rfl))) (mvT hZ (hw _ (List.mem_of_getElem? (i := 5) rfl))) (notFace_of_selects (args := #[]) (mvT hZ (hw _ (List.mem_of_getElem? (i := 7) rfl)))) (mvT hZ (hw _ (List.mem_of_getElem? (i := 7) rfl))) (mvT hZ (hw _ (List.mem_of_getElem? (i := 6) rfl))) (by decide) (backOf (W := 0) (rm1 l Z a0 hw [] w_VARCHAR w_CHAR w_VARCHAR h0 O0 S_CHAR S_VARCHAR) hZ (hw _ (List.mem_of_getElem? (i := 8) rfl)) (hw _ (List.mem_of_getElem? (i := 2) rfl)) (by decide) (by decide)) q6a q6c (g := (mkF m 70 #[.val (.int k), .val (.int ((k &&& (2147483647 : Int32)) % (5 : Int32))), .val (.ref w_VARCHAR), .val (.int (1 : Int32))] [(.ref w_VARCHAR)])) rfl (by rw [hml]; rfl) (Steps.refl _) (argsL := []) (rest := []) (lenOf pd___Z rfl) rfl (by show 2 * 0 + _ ≤ _; exact Nat.le_of_eq rfl) (hb hby at_70) (fun _ _ => ⟨rfl, e5, (by decide : 0 + 0 ≤ _), (by decide : 0 + 0 ≤ _)⟩)
      dsimp only [Pt.U, Pt.locs, Pt.cells, Pt.slots] at X6 l6 y6 z6 st6 hQ6
      subst l6 y6 z6
      obtain ⟨rfl, rfl, e6⟩ := hQ6
      have N6 := Fr.app N0 (Fr.nil _)
      refine Go.tr st6 ?_
      show Go p e below _ (T6.setTop (mkF m 73 #[.val (.int k), .val (.int ((k &&& (2147483647 : Int32)) % (5 : Int32))), .val (.ref w_VARCHAR), .val (.int (1 : Int32))] [(.int (if w_VARCHAR = w_CHAR ∨ w_VARCHAR = w_VARCHAR then 1 else 0))]))
      refine Go.st (fun t' k' => XS.iloadN X6.here hx rfl (hb hby at_73) rfl k') ?_
      show Go p e below _ (T6.setTop (mkF m 74 #[.val (.int k), .val (.int ((k &&& (2147483647 : Int32)) % (5 : Int32))), .val (.ref w_VARCHAR), .val (.int (1 : Int32))] [(.int (1 : Int32)), (.int (if w_VARCHAR = w_CHAR ∨ w_VARCHAR = w_VARCHAR then 1 else 0))]))
      refine Go.st (fun t' k' => XS.icmpNo X6.here hx rfl (hb hby at_74) rfl (teq (by simp [ne_CHAR_DATE, ne_CHAR_DATETIME, ne_CHAR_PARTIAL_DATE, ne_CHAR_VARCHAR, ne_DATE_DATETIME, ne_DATE_PARTIAL_DATE, ne_PARTIAL_DATE_DATETIME, ne_VARCHAR_DATE, ne_VARCHAR_DATETIME, ne_VARCHAR_PARTIAL_DATE, Ne.symm ne_CHAR_DATE, Ne.symm ne_CHAR_DATETIME, Ne.symm ne_CHAR_PARTIAL_DATE, Ne.symm ne_CHAR_VARCHAR, Ne.symm ne_DATE_DATETIME, Ne.symm ne_DATE_PARTIAL_DATE, Ne.symm ne_PARTIAL_DATE_DATETIME, Ne.symm ne_VARCHAR_DATE, Ne.symm ne_VARCHAR_DATETIME, Ne.symm ne_VARCHAR_PARTIAL_DATE])).2 k') ?_
      show Go p e below _ (T6.setTop (mkF m 77 #[.val (.int k), .val (.int ((k &&& (2147483647 : Int32)) % (5 : Int32))), .val (.ref w_VARCHAR), .val (.int (1 : Int32))] []))
      refine Go.st (fun t' k' => XS.iconst X6.here hx rfl (hb hby at_77) k') ?_
      show Go p e below _ (T6.setTop (mkF m 78 #[.val (.int k), .val (.int ((k &&& (2147483647 : Int32)) % (5 : Int32))), .val (.ref w_VARCHAR), .val (.int (1 : Int32))] [(.int (1 : Int32))]))
      refine Go.st (fun t' k' => XS.goto X6.here hx rfl (pc0 := 78) (pc' := 82) rfl (hb hby at_78) (by decide) (by decide) k') ?_
      show Go p e below _ (T6.setTop (mkF m 82 #[.val (.int k), .val (.int ((k &&& (2147483647 : Int32)) % (5 : Int32))), .val (.ref w_VARCHAR), .val (.int (1 : Int32))] [(.int (1 : Int32))]))
      exact Go.outN X6 hx hlk (t := .boolean) hret (by simp) (hb hby at_82) (Q := Q_rm0 Z k w_CHAR w_VARCHAR w_DATE w_PARTIAL_DATE w_DATETIME h0) (by rw [e6]; exact ⟨rfl, N6⟩) (by decide) (by decide)
    · refine Go.st (fun t' k' => XS.icmpYes X0.here hx rfl (pc0 := 20) (pc' := 30) rfl (hb hby at_20) rfl (feq hc20_4).2 (by decide) (by decide) k') ?_
      show Go p e below _ (s₁.setTop (mkF m 30 #[.val (.int k), .val (.int ((k &&& (2147483647 : Int32)) % (5 : Int32))), .unset, .unset] []))
      refine Go.st (fun t' k' => XS.iloadN X0.here hx rfl (hb hby at_30) rfl k') ?_
      show Go p e below _ (s₁.setTop (mkF m 31 #[.val (.int k), .val (.int ((k &&& (2147483647 : Int32)) % (5 : Int32))), .unset, .unset] [(.int ((k &&& (2147483647 : Int32)) % (5 : Int32)))]))
      refine Go.st (fun t' k' => XS.iconst X0.here hx rfl (hb hby at_31) k') ?_
      show Go p e below _ (s₁.setTop (mkF m 32 #[.val (.int k), .val (.int ((k &&& (2147483647 : Int32)) % (5 : Int32))), .unset, .unset] [(.int (2 : Int32)), (.int ((k &&& (2147483647 : Int32)) % (5 : Int32)))]))
      by_cases hc32_7 : ((k &&& (2147483647 : Int32)) % (5 : Int32)) = (2 : Int32)
      · refine Go.st (fun t' k' => XS.icmpNo X0.here hx rfl (hb hby at_32) rfl (teq hc32_7).2 k') ?_
        show Go p e below _ (s₁.setTop (mkF m 35 #[.val (.int k), .val (.int ((k &&& (2147483647 : Int32)) % (5 : Int32))), .unset, .unset] []))
        obtain ⟨T8, X8, e8, st8⟩ := getS2 X0 hx hZ hown (host := "") (Or.inl (hw _ (List.mem_of_getElem? (i := 17) rfl))) Via.refl e0 (S_DATE.ext O0) (g := (mkF m 35 #[.val (.int k), .val (.int ((k &&& (2147483647 : Int32)) % (5 : Int32))), .unset, .unset] [])) rfl (hb hby at_35)
        refine Go.st st8 ?_
        show Go p e below _ (T8.setTop (mkF m 38 #[.val (.int k), .val (.int ((k &&& (2147483647 : Int32)) % (5 : Int32))), .unset, .unset] [(.ref w_DATE)]))
        refine Go.st (fun t' k' => XS.astoreN X8.here hx rfl (hb hby at_38) rfl rfl (l' := #[.val (.int k), .val (.int ((k &&& (2147483647 : Int32)) % (5 : Int32))), .val (.ref w_DATE), .unset]) rfl k') ?_
        show Go p e below _ (T8.setTop (mkF m 39 #[.val (.int k), .val (.int ((k &&& (2147483647 : Int32)) % (5 : Int32))), .val (.ref w_DATE), .unset] []))
        refine Go.st (fun t' k' => XS.goto X8.here hx rfl (pc0 := 39) (pc' := 58) rfl (hb hby at_39) (by decide) (by decide) k') ?_
        show Go p e below _ (T8.setTop (mkF m 58 #[.val (.int k), .val (.int ((k &&& (2147483647 : Int32)) % (5 : Int32))), .val (.ref w_DATE), .unset] []))
        refine Go.st (fun t' k' => XS.iloadN X8.here hx rfl (hb hby at_58) rfl k') ?_
        show Go p e below _ (T8.setTop (mkF m 59 #[.val (.int k), .val (.int ((k &&& (2147483647 : Int32)) % (5 : Int32))), .val (.ref w_DATE), .unset] [(.int ((k &&& (2147483647 : Int32)) % (5 : Int32)))]))
        refine Go.st (fun t' k' => XS.iconst X8.here hx rfl (hb hby at_59) k') ?_
        show Go p e below _ (T8.setTop (mkF m 60 #[.val (.int k), .val (.int ((k &&& (2147483647 : Int32)) % (5 : Int32))), .val (.ref w_DATE), .unset] [(.int (1 : Int32)), (.int ((k &&& (2147483647 : Int32)) % (5 : Int32)))]))
        refine Go.st (fun t' k' => XS.icmpYes X8.here hx rfl (pc0 := 60) (pc' := 67) rfl (hb hby at_60) rfl (tlt (by have hm := own_mod k 5 (by decide); simp only [Int32.lt_iff_toInt_lt, ← Int32.toInt_inj, Int32.reduceToInt] at hm hc8_1 hc20_4 hc32_7 ⊢; omega : (1 : Int32) < ((k &&& (2147483647 : Int32)) % (5 : Int32)))).2.2.1 (by decide) (by decide) k') ?_
        show Go p e below _ (T8.setTop (mkF m 67 #[.val (.int k), .val (.int ((k &&& (2147483647 : Int32)) % (5 : Int32))), .val (.ref w_DATE), .unset] []))
        refine Go.st (fun t' k' => XS.iconst X8.here hx rfl (hb hby at_67) k') ?_
        show Go p e below _ (T8.setTop (mkF m 68 #[.val (.int k), .val (.int ((k &&& (2147483647 : Int32)) % (5 : Int32))), .val (.ref w_DATE), .unset] [(.int (0 : Int32))]))
        refine Go.st (fun t' k' => XS.istoreN X8.here hx rfl (hb hby at_68) rfl (l' := #[.val (.int k), .val (.int ((k &&& (2147483647 : Int32)) % (5 : Int32))), .val (.ref w_DATE), .val (.int (0 : Int32))]) rfl k') ?_
        show Go p e below _ (T8.setTop (mkF m 69 #[.val (.int k), .val (.int ((k &&& (2147483647 : Int32)) % (5 : Int32))), .val (.ref w_DATE), .val (.int (0 : Int32))] []))
        refine Go.st (fun t' k' => XS.aloadN X8.here hx rfl (hb hby at_69) rfl rfl k') ?_
        show Go p e below _ (T8.setTop (mkF m 70 #[.val (.int k), .val (.int ((k &&& (2147483647 : Int32)) % (5 : Int32))), .val (.ref w_DATE), .val (.int (0 : Int32))] [(.ref w_DATE)]))
        obtain ⟨cq9, kq9, q9a, q9b, q9c⟩ := isOf hZ e8 (E_DATE.ext O0)
        obtain ⟨_, _, ⟨T9, L9, k9, n9⟩, -, X9, ⟨Lc9, hQ9, l9, y9, z9⟩, st9⟩ := X8.virtualBack hx (y := (⟨"com/example/harakeke/harakeke/model/FieldType$Kind", "isText", "()Z"⟩ : MethodName)) (z := (⟨"com/example/harakeke/harakeke/model/FieldType$Kind", "isText", "()Z"⟩ : MethodName)) hown (mvT hZ (hw _ (List.mem_of_getElem? (i := 4) rfl))) (mvT hZ (hw _ (List.mem_of_getElem? (i := 5) rfl))) (notFace_of_selects (args := #[]) (mvT hZ (hw _ (List.mem_of_getElem? (i := 7) rfl)))) (mvT hZ (hw _ (List.mem_of_getElem? (i := 7) rfl))) (mvT hZ (hw _ (List.mem_of_getElem? (i := 6) rfl))) (by decide) (backOf (W := 0) (rm1 l Z a0 hw [] w_DATE w_CHAR w_VARCHAR h0 O0 S_CHAR S_VARCHAR) hZ (hw _ (List.mem_of_getElem? (i := 8) rfl)) (hw _ (List.mem_of_getElem? (i := 2) rfl)) (by decide) (by decide)) q9a q9c (g := (mkF m 70 #[.val (.int k), .val (.int ((k &&& (2147483647 : Int32)) % (5 : Int32))), .val (.ref w_DATE), .val (.int (0 : Int32))] [(.ref w_DATE)])) rfl (by rw [hml]; rfl) (Steps.refl _) (argsL := []) (rest := []) (lenOf pd___Z rfl) rfl (by show 2 * 0 + _ ≤ _; exact Nat.le_of_eq rfl) (hb hby at_70) (fun _ _ => ⟨rfl, e8, (by decide : 0 + 0 ≤ _), (by decide : 0 + 0 ≤ _)⟩)
        dsimp only [Pt.U, Pt.locs, Pt.cells, Pt.slots] at X9 l9 y9 z9 st9 hQ9
        subst l9 y9 z9
        obtain ⟨rfl, rfl, e9⟩ := hQ9
        have N9 := Fr.app N0 (Fr.nil _)
        refine Go.tr st9 ?_
        show Go p e below _ (T9.setTop (mkF m 73 #[.val (.int k), .val (.int ((k &&& (2147483647 : Int32)) % (5 : Int32))), .val (.ref w_DATE), .val (.int (0 : Int32))] [(.int (if w_DATE = w_CHAR ∨ w_DATE = w_VARCHAR then 1 else 0))]))
        refine Go.st (fun t' k' => XS.iloadN X9.here hx rfl (hb hby at_73) rfl k') ?_
        show Go p e below _ (T9.setTop (mkF m 74 #[.val (.int k), .val (.int ((k &&& (2147483647 : Int32)) % (5 : Int32))), .val (.ref w_DATE), .val (.int (0 : Int32))] [(.int (0 : Int32)), (.int (if w_DATE = w_CHAR ∨ w_DATE = w_VARCHAR then 1 else 0))]))
        refine Go.st (fun t' k' => XS.icmpNo X9.here hx rfl (hb hby at_74) rfl (teq (by simp [ne_CHAR_DATE, ne_CHAR_DATETIME, ne_CHAR_PARTIAL_DATE, ne_CHAR_VARCHAR, ne_DATE_DATETIME, ne_DATE_PARTIAL_DATE, ne_PARTIAL_DATE_DATETIME, ne_VARCHAR_DATE, ne_VARCHAR_DATETIME, ne_VARCHAR_PARTIAL_DATE, Ne.symm ne_CHAR_DATE, Ne.symm ne_CHAR_DATETIME, Ne.symm ne_CHAR_PARTIAL_DATE, Ne.symm ne_CHAR_VARCHAR, Ne.symm ne_DATE_DATETIME, Ne.symm ne_DATE_PARTIAL_DATE, Ne.symm ne_PARTIAL_DATE_DATETIME, Ne.symm ne_VARCHAR_DATE, Ne.symm ne_VARCHAR_DATETIME, Ne.symm ne_VARCHAR_PARTIAL_DATE])).2 k') ?_
        show Go p e below _ (T9.setTop (mkF m 77 #[.val (.int k), .val (.int ((k &&& (2147483647 : Int32)) % (5 : Int32))), .val (.ref w_DATE), .val (.int (0 : Int32))] []))
        refine Go.st (fun t' k' => XS.iconst X9.here hx rfl (hb hby at_77) k') ?_
        show Go p e below _ (T9.setTop (mkF m 78 #[.val (.int k), .val (.int ((k &&& (2147483647 : Int32)) % (5 : Int32))), .val (.ref w_DATE), .val (.int (0 : Int32))] [(.int (1 : Int32))]))
        refine Go.st (fun t' k' => XS.goto X9.here hx rfl (pc0 := 78) (pc' := 82) rfl (hb hby at_78) (by decide) (by decide) k') ?_
        show Go p e below _ (T9.setTop (mkF m 82 #[.val (.int k), .val (.int ((k &&& (2147483647 : Int32)) % (5 : Int32))), .val (.ref w_DATE), .val (.int (0 : Int32))] [(.int (1 : Int32))]))
        exact Go.outN X9 hx hlk (t := .boolean) hret (by simp) (hb hby at_82) (Q := Q_rm0 Z k w_CHAR w_VARCHAR w_DATE w_PARTIAL_DATE w_DATETIME h0) (by rw [e9]; exact ⟨rfl, N9⟩) (by decide) (by decide)
      · refine Go.st (fun t' k' => XS.icmpYes X0.here hx rfl (pc0 := 32) (pc' := 42) rfl (hb hby at_32) rfl (feq hc32_7).2 (by decide) (by decide) k') ?_
        show Go p e below _ (s₁.setTop (mkF m 42 #[.val (.int k), .val (.int ((k &&& (2147483647 : Int32)) % (5 : Int32))), .unset, .unset] []))
        refine Go.st (fun t' k' => XS.iloadN X0.here hx rfl (hb hby at_42) rfl k') ?_
        show Go p e below _ (s₁.setTop (mkF m 43 #[.val (.int k), .val (.int ((k &&& (2147483647 : Int32)) % (5 : Int32))), .unset, .unset] [(.int ((k &&& (2147483647 : Int32)) % (5 : Int32)))]))
        refine Go.st (fun t' k' => XS.iconst X0.here hx rfl (hb hby at_43) k') ?_
        show Go p e below _ (s₁.setTop (mkF m 44 #[.val (.int k), .val (.int ((k &&& (2147483647 : Int32)) % (5 : Int32))), .unset, .unset] [(.int (3 : Int32)), (.int ((k &&& (2147483647 : Int32)) % (5 : Int32)))]))
        by_cases hc44_10 : ((k &&& (2147483647 : Int32)) % (5 : Int32)) = (3 : Int32)
        · refine Go.st (fun t' k' => XS.icmpNo X0.here hx rfl (hb hby at_44) rfl (teq hc44_10).2 k') ?_
          show Go p e below _ (s₁.setTop (mkF m 47 #[.val (.int k), .val (.int ((k &&& (2147483647 : Int32)) % (5 : Int32))), .unset, .unset] []))
          obtain ⟨T11, X11, e11, st11⟩ := getS2 X0 hx hZ hown (host := "") (Or.inl (hw _ (List.mem_of_getElem? (i := 10) rfl))) Via.refl e0 (S_PARTIAL_DATE.ext O0) (g := (mkF m 47 #[.val (.int k), .val (.int ((k &&& (2147483647 : Int32)) % (5 : Int32))), .unset, .unset] [])) rfl (hb hby at_47)
          refine Go.st st11 ?_
          show Go p e below _ (T11.setTop (mkF m 50 #[.val (.int k), .val (.int ((k &&& (2147483647 : Int32)) % (5 : Int32))), .unset, .unset] [(.ref w_PARTIAL_DATE)]))
          refine Go.st (fun t' k' => XS.astoreN X11.here hx rfl (hb hby at_50) rfl rfl (l' := #[.val (.int k), .val (.int ((k &&& (2147483647 : Int32)) % (5 : Int32))), .val (.ref w_PARTIAL_DATE), .unset]) rfl k') ?_
          show Go p e below _ (T11.setTop (mkF m 51 #[.val (.int k), .val (.int ((k &&& (2147483647 : Int32)) % (5 : Int32))), .val (.ref w_PARTIAL_DATE), .unset] []))
          refine Go.st (fun t' k' => XS.goto X11.here hx rfl (pc0 := 51) (pc' := 58) rfl (hb hby at_51) (by decide) (by decide) k') ?_
          show Go p e below _ (T11.setTop (mkF m 58 #[.val (.int k), .val (.int ((k &&& (2147483647 : Int32)) % (5 : Int32))), .val (.ref w_PARTIAL_DATE), .unset] []))
          refine Go.st (fun t' k' => XS.iloadN X11.here hx rfl (hb hby at_58) rfl k') ?_
          show Go p e below _ (T11.setTop (mkF m 59 #[.val (.int k), .val (.int ((k &&& (2147483647 : Int32)) % (5 : Int32))), .val (.ref w_PARTIAL_DATE), .unset] [(.int ((k &&& (2147483647 : Int32)) % (5 : Int32)))]))
          refine Go.st (fun t' k' => XS.iconst X11.here hx rfl (hb hby at_59) k') ?_
          show Go p e below _ (T11.setTop (mkF m 60 #[.val (.int k), .val (.int ((k &&& (2147483647 : Int32)) % (5 : Int32))), .val (.ref w_PARTIAL_DATE), .unset] [(.int (1 : Int32)), (.int ((k &&& (2147483647 : Int32)) % (5 : Int32)))]))
          refine Go.st (fun t' k' => XS.icmpYes X11.here hx rfl (pc0 := 60) (pc' := 67) rfl (hb hby at_60) rfl (tlt (by have hm := own_mod k 5 (by decide); simp only [Int32.lt_iff_toInt_lt, ← Int32.toInt_inj, Int32.reduceToInt] at hm hc8_1 hc20_4 hc32_7 hc44_10 ⊢; omega : (1 : Int32) < ((k &&& (2147483647 : Int32)) % (5 : Int32)))).2.2.1 (by decide) (by decide) k') ?_
          show Go p e below _ (T11.setTop (mkF m 67 #[.val (.int k), .val (.int ((k &&& (2147483647 : Int32)) % (5 : Int32))), .val (.ref w_PARTIAL_DATE), .unset] []))
          refine Go.st (fun t' k' => XS.iconst X11.here hx rfl (hb hby at_67) k') ?_
          show Go p e below _ (T11.setTop (mkF m 68 #[.val (.int k), .val (.int ((k &&& (2147483647 : Int32)) % (5 : Int32))), .val (.ref w_PARTIAL_DATE), .unset] [(.int (0 : Int32))]))
          refine Go.st (fun t' k' => XS.istoreN X11.here hx rfl (hb hby at_68) rfl (l' := #[.val (.int k), .val (.int ((k &&& (2147483647 : Int32)) % (5 : Int32))), .val (.ref w_PARTIAL_DATE), .val (.int (0 : Int32))]) rfl k') ?_
          show Go p e below _ (T11.setTop (mkF m 69 #[.val (.int k), .val (.int ((k &&& (2147483647 : Int32)) % (5 : Int32))), .val (.ref w_PARTIAL_DATE), .val (.int (0 : Int32))] []))
          refine Go.st (fun t' k' => XS.aloadN X11.here hx rfl (hb hby at_69) rfl rfl k') ?_
          show Go p e below _ (T11.setTop (mkF m 70 #[.val (.int k), .val (.int ((k &&& (2147483647 : Int32)) % (5 : Int32))), .val (.ref w_PARTIAL_DATE), .val (.int (0 : Int32))] [(.ref w_PARTIAL_DATE)]))
          obtain ⟨cq12, kq12, q12a, q12b, q12c⟩ := isOf hZ e11 (E_PARTIAL_DATE.ext O0)
          obtain ⟨_, _, ⟨T12, L12, k12, n12⟩, -, X12, ⟨Lc12, hQ12, l12, y12, z12⟩, st12⟩ := X11.virtualBack hx (y := (⟨"com/example/harakeke/harakeke/model/FieldType$Kind", "isText", "()Z"⟩ : MethodName)) (z := (⟨"com/example/harakeke/harakeke/model/FieldType$Kind", "isText", "()Z"⟩ : MethodName)) hown (mvT hZ (hw _ (List.mem_of_getElem? (i := 4) rfl))) (mvT hZ (hw _ (List.mem_of_getElem? (i := 5) rfl))) (notFace_of_selects (args := #[]) (mvT hZ (hw _ (List.mem_of_getElem? (i := 7) rfl)))) (mvT hZ (hw _ (List.mem_of_getElem? (i := 7) rfl))) (mvT hZ (hw _ (List.mem_of_getElem? (i := 6) rfl))) (by decide) (backOf (W := 0) (rm1 l Z a0 hw [] w_PARTIAL_DATE w_CHAR w_VARCHAR h0 O0 S_CHAR S_VARCHAR) hZ (hw _ (List.mem_of_getElem? (i := 8) rfl)) (hw _ (List.mem_of_getElem? (i := 2) rfl)) (by decide) (by decide)) q12a q12c (g := (mkF m 70 #[.val (.int k), .val (.int ((k &&& (2147483647 : Int32)) % (5 : Int32))), .val (.ref w_PARTIAL_DATE), .val (.int (0 : Int32))] [(.ref w_PARTIAL_DATE)])) rfl (by rw [hml]; rfl) (Steps.refl _) (argsL := []) (rest := []) (lenOf pd___Z rfl) rfl (by show 2 * 0 + _ ≤ _; exact Nat.le_of_eq rfl) (hb hby at_70) (fun _ _ => ⟨rfl, e11, (by decide : 0 + 0 ≤ _), (by decide : 0 + 0 ≤ _)⟩)
          dsimp only [Pt.U, Pt.locs, Pt.cells, Pt.slots] at X12 l12 y12 z12 st12 hQ12
          subst l12 y12 z12
          obtain ⟨rfl, rfl, e12⟩ := hQ12
          have N12 := Fr.app N0 (Fr.nil _)
          refine Go.tr st12 ?_
          show Go p e below _ (T12.setTop (mkF m 73 #[.val (.int k), .val (.int ((k &&& (2147483647 : Int32)) % (5 : Int32))), .val (.ref w_PARTIAL_DATE), .val (.int (0 : Int32))] [(.int (if w_PARTIAL_DATE = w_CHAR ∨ w_PARTIAL_DATE = w_VARCHAR then 1 else 0))]))
          refine Go.st (fun t' k' => XS.iloadN X12.here hx rfl (hb hby at_73) rfl k') ?_
          show Go p e below _ (T12.setTop (mkF m 74 #[.val (.int k), .val (.int ((k &&& (2147483647 : Int32)) % (5 : Int32))), .val (.ref w_PARTIAL_DATE), .val (.int (0 : Int32))] [(.int (0 : Int32)), (.int (if w_PARTIAL_DATE = w_CHAR ∨ w_PARTIAL_DATE = w_VARCHAR then 1 else 0))]))
          refine Go.st (fun t' k' => XS.icmpNo X12.here hx rfl (hb hby at_74) rfl (teq (by simp [ne_CHAR_DATE, ne_CHAR_DATETIME, ne_CHAR_PARTIAL_DATE, ne_CHAR_VARCHAR, ne_DATE_DATETIME, ne_DATE_PARTIAL_DATE, ne_PARTIAL_DATE_DATETIME, ne_VARCHAR_DATE, ne_VARCHAR_DATETIME, ne_VARCHAR_PARTIAL_DATE, Ne.symm ne_CHAR_DATE, Ne.symm ne_CHAR_DATETIME, Ne.symm ne_CHAR_PARTIAL_DATE, Ne.symm ne_CHAR_VARCHAR, Ne.symm ne_DATE_DATETIME, Ne.symm ne_DATE_PARTIAL_DATE, Ne.symm ne_PARTIAL_DATE_DATETIME, Ne.symm ne_VARCHAR_DATE, Ne.symm ne_VARCHAR_DATETIME, Ne.symm ne_VARCHAR_PARTIAL_DATE])).2 k') ?_
          show Go p e below _ (T12.setTop (mkF m 77 #[.val (.int k), .val (.int ((k &&& (2147483647 : Int32)) % (5 : Int32))), .val (.ref w_PARTIAL_DATE), .val (.int (0 : Int32))] []))
          refine Go.st (fun t' k' => XS.iconst X12.here hx rfl (hb hby at_77) k') ?_
          show Go p e below _ (T12.setTop (mkF m 78 #[.val (.int k), .val (.int ((k &&& (2147483647 : Int32)) % (5 : Int32))), .val (.ref w_PARTIAL_DATE), .val (.int (0 : Int32))] [(.int (1 : Int32))]))
          refine Go.st (fun t' k' => XS.goto X12.here hx rfl (pc0 := 78) (pc' := 82) rfl (hb hby at_78) (by decide) (by decide) k') ?_
          show Go p e below _ (T12.setTop (mkF m 82 #[.val (.int k), .val (.int ((k &&& (2147483647 : Int32)) % (5 : Int32))), .val (.ref w_PARTIAL_DATE), .val (.int (0 : Int32))] [(.int (1 : Int32))]))
          exact Go.outN X12 hx hlk (t := .boolean) hret (by simp) (hb hby at_82) (Q := Q_rm0 Z k w_CHAR w_VARCHAR w_DATE w_PARTIAL_DATE w_DATETIME h0) (by rw [e12]; exact ⟨rfl, N12⟩) (by decide) (by decide)
        · refine Go.st (fun t' k' => XS.icmpYes X0.here hx rfl (pc0 := 44) (pc' := 54) rfl (hb hby at_44) rfl (feq hc44_10).2 (by decide) (by decide) k') ?_
          show Go p e below _ (s₁.setTop (mkF m 54 #[.val (.int k), .val (.int ((k &&& (2147483647 : Int32)) % (5 : Int32))), .unset, .unset] []))
          obtain ⟨T13, X13, e13, st13⟩ := getS2 X0 hx hZ hown (host := "") (Or.inl (hw _ (List.mem_of_getElem? (i := 15) rfl))) Via.refl e0 (S_DATETIME.ext O0) (g := (mkF m 54 #[.val (.int k), .val (.int ((k &&& (2147483647 : Int32)) % (5 : Int32))), .unset, .unset] [])) rfl (hb hby at_54)
          refine Go.st st13 ?_
          show Go p e below _ (T13.setTop (mkF m 57 #[.val (.int k), .val (.int ((k &&& (2147483647 : Int32)) % (5 : Int32))), .unset, .unset] [(.ref w_DATETIME)]))
          refine Go.st (fun t' k' => XS.astoreN X13.here hx rfl (hb hby at_57) rfl rfl (l' := #[.val (.int k), .val (.int ((k &&& (2147483647 : Int32)) % (5 : Int32))), .val (.ref w_DATETIME), .unset]) rfl k') ?_
          show Go p e below _ (T13.setTop (mkF m 58 #[.val (.int k), .val (.int ((k &&& (2147483647 : Int32)) % (5 : Int32))), .val (.ref w_DATETIME), .unset] []))
          refine Go.st (fun t' k' => XS.iloadN X13.here hx rfl (hb hby at_58) rfl k') ?_
          show Go p e below _ (T13.setTop (mkF m 59 #[.val (.int k), .val (.int ((k &&& (2147483647 : Int32)) % (5 : Int32))), .val (.ref w_DATETIME), .unset] [(.int ((k &&& (2147483647 : Int32)) % (5 : Int32)))]))
          refine Go.st (fun t' k' => XS.iconst X13.here hx rfl (hb hby at_59) k') ?_
          show Go p e below _ (T13.setTop (mkF m 60 #[.val (.int k), .val (.int ((k &&& (2147483647 : Int32)) % (5 : Int32))), .val (.ref w_DATETIME), .unset] [(.int (1 : Int32)), (.int ((k &&& (2147483647 : Int32)) % (5 : Int32)))]))
          refine Go.st (fun t' k' => XS.icmpYes X13.here hx rfl (pc0 := 60) (pc' := 67) rfl (hb hby at_60) rfl (tlt (by have hm := own_mod k 5 (by decide); simp only [Int32.lt_iff_toInt_lt, ← Int32.toInt_inj, Int32.reduceToInt] at hm hc8_1 hc20_4 hc32_7 hc44_10 ⊢; omega : (1 : Int32) < ((k &&& (2147483647 : Int32)) % (5 : Int32)))).2.2.1 (by decide) (by decide) k') ?_
          show Go p e below _ (T13.setTop (mkF m 67 #[.val (.int k), .val (.int ((k &&& (2147483647 : Int32)) % (5 : Int32))), .val (.ref w_DATETIME), .unset] []))
          refine Go.st (fun t' k' => XS.iconst X13.here hx rfl (hb hby at_67) k') ?_
          show Go p e below _ (T13.setTop (mkF m 68 #[.val (.int k), .val (.int ((k &&& (2147483647 : Int32)) % (5 : Int32))), .val (.ref w_DATETIME), .unset] [(.int (0 : Int32))]))
          refine Go.st (fun t' k' => XS.istoreN X13.here hx rfl (hb hby at_68) rfl (l' := #[.val (.int k), .val (.int ((k &&& (2147483647 : Int32)) % (5 : Int32))), .val (.ref w_DATETIME), .val (.int (0 : Int32))]) rfl k') ?_
          show Go p e below _ (T13.setTop (mkF m 69 #[.val (.int k), .val (.int ((k &&& (2147483647 : Int32)) % (5 : Int32))), .val (.ref w_DATETIME), .val (.int (0 : Int32))] []))
          refine Go.st (fun t' k' => XS.aloadN X13.here hx rfl (hb hby at_69) rfl rfl k') ?_
          show Go p e below _ (T13.setTop (mkF m 70 #[.val (.int k), .val (.int ((k &&& (2147483647 : Int32)) % (5 : Int32))), .val (.ref w_DATETIME), .val (.int (0 : Int32))] [(.ref w_DATETIME)]))
          obtain ⟨cq14, kq14, q14a, q14b, q14c⟩ := isOf hZ e13 (E_DATETIME.ext O0)
          obtain ⟨_, _, ⟨T14, L14, k14, n14⟩, -, X14, ⟨Lc14, hQ14, l14, y14, z14⟩, st14⟩ := X13.virtualBack hx (y := (⟨"com/example/harakeke/harakeke/model/FieldType$Kind", "isText", "()Z"⟩ : MethodName)) (z := (⟨"com/example/harakeke/harakeke/model/FieldType$Kind", "isText", "()Z"⟩ : MethodName)) hown (mvT hZ (hw _ (List.mem_of_getElem? (i := 4) rfl))) (mvT hZ (hw _ (List.mem_of_getElem? (i := 5) rfl))) (notFace_of_selects (args := #[]) (mvT hZ (hw _ (List.mem_of_getElem? (i := 7) rfl)))) (mvT hZ (hw _ (List.mem_of_getElem? (i := 7) rfl))) (mvT hZ (hw _ (List.mem_of_getElem? (i := 6) rfl))) (by decide) (backOf (W := 0) (rm1 l Z a0 hw [] w_DATETIME w_CHAR w_VARCHAR h0 O0 S_CHAR S_VARCHAR) hZ (hw _ (List.mem_of_getElem? (i := 8) rfl)) (hw _ (List.mem_of_getElem? (i := 2) rfl)) (by decide) (by decide)) q14a q14c (g := (mkF m 70 #[.val (.int k), .val (.int ((k &&& (2147483647 : Int32)) % (5 : Int32))), .val (.ref w_DATETIME), .val (.int (0 : Int32))] [(.ref w_DATETIME)])) rfl (by rw [hml]; rfl) (Steps.refl _) (argsL := []) (rest := []) (lenOf pd___Z rfl) rfl (by show 2 * 0 + _ ≤ _; exact Nat.le_of_eq rfl) (hb hby at_70) (fun _ _ => ⟨rfl, e13, (by decide : 0 + 0 ≤ _), (by decide : 0 + 0 ≤ _)⟩)
          dsimp only [Pt.U, Pt.locs, Pt.cells, Pt.slots] at X14 l14 y14 z14 st14 hQ14
          subst l14 y14 z14
          obtain ⟨rfl, rfl, e14⟩ := hQ14
          have N14 := Fr.app N0 (Fr.nil _)
          refine Go.tr st14 ?_
          show Go p e below _ (T14.setTop (mkF m 73 #[.val (.int k), .val (.int ((k &&& (2147483647 : Int32)) % (5 : Int32))), .val (.ref w_DATETIME), .val (.int (0 : Int32))] [(.int (if w_DATETIME = w_CHAR ∨ w_DATETIME = w_VARCHAR then 1 else 0))]))
          refine Go.st (fun t' k' => XS.iloadN X14.here hx rfl (hb hby at_73) rfl k') ?_
          show Go p e below _ (T14.setTop (mkF m 74 #[.val (.int k), .val (.int ((k &&& (2147483647 : Int32)) % (5 : Int32))), .val (.ref w_DATETIME), .val (.int (0 : Int32))] [(.int (0 : Int32)), (.int (if w_DATETIME = w_CHAR ∨ w_DATETIME = w_VARCHAR then 1 else 0))]))
          refine Go.st (fun t' k' => XS.icmpNo X14.here hx rfl (hb hby at_74) rfl (teq (by simp [ne_CHAR_DATE, ne_CHAR_DATETIME, ne_CHAR_PARTIAL_DATE, ne_CHAR_VARCHAR, ne_DATE_DATETIME, ne_DATE_PARTIAL_DATE, ne_PARTIAL_DATE_DATETIME, ne_VARCHAR_DATE, ne_VARCHAR_DATETIME, ne_VARCHAR_PARTIAL_DATE, Ne.symm ne_CHAR_DATE, Ne.symm ne_CHAR_DATETIME, Ne.symm ne_CHAR_PARTIAL_DATE, Ne.symm ne_CHAR_VARCHAR, Ne.symm ne_DATE_DATETIME, Ne.symm ne_DATE_PARTIAL_DATE, Ne.symm ne_PARTIAL_DATE_DATETIME, Ne.symm ne_VARCHAR_DATE, Ne.symm ne_VARCHAR_DATETIME, Ne.symm ne_VARCHAR_PARTIAL_DATE])).2 k') ?_
          show Go p e below _ (T14.setTop (mkF m 77 #[.val (.int k), .val (.int ((k &&& (2147483647 : Int32)) % (5 : Int32))), .val (.ref w_DATETIME), .val (.int (0 : Int32))] []))
          refine Go.st (fun t' k' => XS.iconst X14.here hx rfl (hb hby at_77) k') ?_
          show Go p e below _ (T14.setTop (mkF m 78 #[.val (.int k), .val (.int ((k &&& (2147483647 : Int32)) % (5 : Int32))), .val (.ref w_DATETIME), .val (.int (0 : Int32))] [(.int (1 : Int32))]))
          refine Go.st (fun t' k' => XS.goto X14.here hx rfl (pc0 := 78) (pc' := 82) rfl (hb hby at_78) (by decide) (by decide) k') ?_
          show Go p e below _ (T14.setTop (mkF m 82 #[.val (.int k), .val (.int ((k &&& (2147483647 : Int32)) % (5 : Int32))), .val (.ref w_DATETIME), .val (.int (0 : Int32))] [(.int (1 : Int32))]))
          exact Go.outN X14 hx hlk (t := .boolean) hret (by simp) (hb hby at_82) (Q := Q_rm0 Z k w_CHAR w_VARCHAR w_DATE w_PARTIAL_DATE w_DATETIME h0) (by rw [e14]; exact ⟨rfl, N14⟩) (by decide) (by decide)
set_option maxRecDepth 65536 in
set_option maxHeartbeats 40000000 in
theorem comes_1 {Post : Tables → Env → Array Value → State → Outcome → State → Prop} (hpost : ∀ tb e args s v u, (limb_1_1.after args s (.returned v) u = true ∧ limb_1_2.after args s (.returned v) u = true ∧ True) → FrameEnd s (.returned v) u (Jvm.fieldLocs frame_1_writes args s ++ Jvm.arrayLocs frame_1_arrays args s ++ Jvm.staticLocs frame_1_statics s) 0 0 → Post tb e args s (.returned v) u) :
    ArmFor flags0 classFile x code maxLocals ret World_1 tables_1 room_1 Calls_1 rest_1 Pre_1 Post := by
  intro l hfl _ _ p e ha hc hk s m args below hf hA hF happ hP
  obtain ⟨hcalls, hrest, hpre⟩ := hP
  obtain ⟨-, -, -, hnamed, -, -, -, hat⟩ := (Spec.applies_iff hf).mp happ
  obtain ⟨hg, hn⟩ := and_e (Cond.before_iff.mp (show (Jvm.Cond.and given_1 narrow_1).before args s = true from hpre))
  obtain ⟨c1, c2⟩ := and_e hg
  obtain ⟨w0, rfl⟩ : ∃ w0 : Value, args = #[w0] := by
    have hs : args.size = 1 := by simpa [Cond.value, given_1] using c1
    obtain ⟨L⟩ := args
    match L, hs with
    | [w0], _ => exact ⟨w0, rfl⟩
  have hw := fun d (hd : d ∈ tables_1) => atoms_spec (ws := Jvm.Cond.code x code maxLocals ret :: tables_1) hat d (List.mem_cons_of_mem _ hd)
  have hfit : Fit s := fun {y c} hc i hi => by
    obtain ⟨ha, rfl⟩ := Array.getElem?_eq_some_iff.mp hc
    have q := List.all_eq_true.mp ((Array.all_eq_true_iff_forall_mem.mp hF) _ (Array.getElem_mem ha)) i (List.mem_range.mpr hi)
    simpa [Array.getElem?_eq_getElem hi] using q
  obtain ⟨i0, ei0⟩ := is_v c2
  obtain rfl : w0 = (.int i0) := Option.some.inj ei0
  obtain ⟨c3, c4⟩ := and_e hn
  obtain ⟨c5, c6⟩ := and_e c4
  obtain ⟨c7, c8⟩ := and_e c6
  obtain ⟨c9, c10⟩ := and_e c8
  obtain ⟨c11, c12⟩ := and_e c10
  obtain ⟨c13, c14⟩ := and_e c12
  obtain ⟨c15, c16⟩ := and_e c14
  obtain ⟨c17, c18⟩ := and_e c16
  obtain ⟨c19, c20⟩ := and_e c18
  obtain ⟨w_CHAR, ev_CHAR⟩ := exa_v c3
  have S_CHAR := Sta.start ev_CHAR (Or.inr ⟨(hw _ (List.mem_of_getElem? (i := 2) rfl)), (hw _ (List.mem_of_getElem? (i := 3) rfl))⟩)
  have E_CHAR := Exa.start ev_CHAR c3
  obtain ⟨w_PARTIAL_DATE, ev_PARTIAL_DATE⟩ := exa_v c5
  have S_PARTIAL_DATE := Sta.start ev_PARTIAL_DATE (Or.inr ⟨(hw _ (List.mem_of_getElem? (i := 2) rfl)), (hw _ (List.mem_of_getElem? (i := 11) rfl))⟩)
  have E_PARTIAL_DATE := Exa.start ev_PARTIAL_DATE c5
  obtain ⟨w_VARCHAR, ev_VARCHAR⟩ := exa_v c11
  have S_VARCHAR := Sta.start ev_VARCHAR (Or.inr ⟨(hw _ (List.mem_of_getElem? (i := 2) rfl)), (hw _ (List.mem_of_getElem? (i := 13) rfl))⟩)
  have E_VARCHAR := Exa.start ev_VARCHAR c11
  obtain ⟨w_DATETIME, ev_DATETIME⟩ := exa_v c15
  have S_DATETIME := Sta.start ev_DATETIME (Or.inr ⟨(hw _ (List.mem_of_getElem? (i := 2) rfl)), (hw _ (List.mem_of_getElem? (i := 16) rfl))⟩)
  have E_DATETIME := Exa.start ev_DATETIME c15
  obtain ⟨w_DATE, ev_DATE⟩ := exa_v c19
  have S_DATE := Sta.start ev_DATE (Or.inr ⟨(hw _ (List.mem_of_getElem? (i := 2) rfl)), (hw _ (List.mem_of_getElem? (i := 18) rfl))⟩)
  have E_DATE := Exa.start ev_DATE c19
  have F_PARTIAL_DATE_ordinal := own_fld ev_PARTIAL_DATE c7
  have F_CHAR_ordinal := own_fld ev_CHAR c9
  have F_VARCHAR_ordinal := own_fld ev_VARCHAR c13
  have F_DATETIME_ordinal := own_fld ev_DATETIME c17
  have F_DATE_ordinal := own_fld ev_DATE c20
  obtain ⟨n, o, h1, h2, h3, _, L, rfl, ⟨rfl, N⟩, hq⟩ := rm0 l s _ hw tables_1 i0 w_CHAR w_VARCHAR w_DATE w_PARTIAL_DATE w_DATETIME s.heap (own_ext_refl _) S_CHAR S_VARCHAR S_DATE S_PARTIAL_DATE S_DATETIME E_CHAR E_VARCHAR E_DATE E_PARTIAL_DATE E_DATETIME F_CHAR_ordinal F_VARCHAR_ordinal F_DATE_ordinal F_PARTIAL_DATE_ordinal F_DATETIME_ordinal p e ha hc hk s m _ below hf ((Spec.applies_iff_loose hf).mp happ).1 ⟨rfl, State.Warmed39.refl s, rfl⟩ trivial
  refine ⟨n, _, h1, h2, h3, hpost _ _ _ _ _ _ ⟨Cond.after_iff.mpr rfl, Cond.after_iff.mpr (eq_i res_at (Term.int_eval (1)) rfl), trivial⟩ ⟨hq.1, hq.2.1, (hq.2.2.sift fun y hy => Or.inr (N y hy)).mono (by decide) (by decide)⟩⟩
theorem main_1_1 : Claimed_1_1 := comes_1 fun _ _ _ _ _ _ h hF => ⟨h.1, hF⟩
theorem main_1_2 : Claimed_1_2 := comes_1 fun _ _ _ _ _ _ h hF => ⟨h.2.1, hF⟩
end Jvm.Pilot.@@N@@
namespace Jvm.Pilot.@@N@@
open Jvm Jvm.ClassFile Sem Op Lib Jvm.Free Jvm.Stand Jvm.Pilot.@@N@@.Jvm.D
/-! MADE BY PROGRAM (witnessworld.py) out of the Statement's table words and the real class files: 12 classes; the members and pool entries that the words name. The judged class is class 1, her method 1. -/
namespace start1
open Jvm.ClassFile
def u (s : String) : CpInfo := .utf8 (stringToUtf16 s)
/-- a pool by its gaps: so many unusable entries, then the entry; so many at the end -/
def gap : Nat → List CpInfo → List CpInfo
  | 0, r => r
  | n + 1, r => .unusable :: gap n r
def poolList (es : List (Nat × CpInfo)) (last : Nat) : List CpInfo := es.foldr (fun e r => gap e.1 (e.2 :: r)) (gap last [])
def pool (es : List (Nat × CpInfo)) (last : Nat) : Array CpInfo := ⟨poolList es last⟩
def fileOf (pool : Array CpInfo) (this : Nat) (attrs : Array Attribute := #[]) (ms : Array MethodInfo := #[]) (fl : Nat := 33) (sup : Nat := 0) (ifs : Array Nat := #[]) (fds : Array FieldInfo := #[]) : ClassFile where
  minorVersion := 0
  majorVersion := 65
  constantPool := pool
  accessFlags := fl
  thisClass := this
  superClass := sup
  interfaces := ifs
  fields := fds
  methods := ms
  attributes := attrs
def plain (name : String) (sup : Option ClassId) : Class where
  name := name
  kind := .ordinary
  loader := none
  accessFlags := 33
  super := sup
  interfaces := #[]
  cf := none
  fields := #[]
  methods := #[]
  instanceTypes := #[]
  staticTypes := #[]
  resolved := #[]
  callSites := []
  init := .initialized
  statics := none
  mirror := none

def pool0 : Array CpInfo := pool [(5, u "<init>"), (0, u "()V"), (1, .class_ 10), (1, u "java/lang/Object")] 113

def k0m0 : Method := { name := "<init>", desc := "()V", sig := { parameters := [], returnType := none }, accessFlags := 1, code := none }
/-- java/lang/Object -/
def k0 : Class := { plain "java/lang/Object" none with
  accessFlags := 33
  interfaces := #[]
  cf := some (fileOf pool0 8 #[] #[{ accessFlags := 1, nameIndex := 5, descriptorIndex := 6, attributes := #[] }] 33 0 #[] #[])
  fields := #[]
  methods := #[k0m0]
  instanceTypes := #[]
  staticTypes := #[]
  resolved := Array.replicate 124 none
  statics := none }

def pool1 : Array CpInfo := pool [(2, .class_ 4), (1, u "java/lang/Object"), (0, u "<init>"), (0, u "()V"), (0, .integer 2147483647), (0, .fieldref 9 10), (0, .class_ 11), (0, .nameAndType 12 13), (0, u "com/example/harakeke/harakeke/model/FieldType$Kind"), (0, u "CHAR"), (0, u "Lcom/example/harakeke/harakeke/model/FieldType$Kind;"), (0, .fieldref 9 15), (0, .nameAndType 16 13), (0, u "VARCHAR"), (0, .fieldref 9 18), (0, .nameAndType 19 13), (0, u "DATE"), (0, .fieldref 9 21), (0, .nameAndType 22 13), (0, u "PARTIAL_DATE"), (0, .fieldref 9 24), (0, .nameAndType 25 13), (0, u "DATETIME"), (0, .methodref 9 27), (0, .nameAndType 28 29), (0, u "isText"), (0, u "()Z"), (0, .class_ 31), (0, u "com/example/harakeke/harakeke/model/KindIsTextPinLaw"), (2, u "law"), (0, u "(I)Z")] 7

def k1m0 : Method := { name := "<init>", desc := "()V", sig := { parameters := [], returnType := none }, accessFlags := 1, code := none }
def k1c1 : Code := { maxStack := 2, maxLocals := 4, code := code, exceptionTable := #[], attributes := #[] }
def k1m1 : Method := { name := "law", desc := "(I)Z", sig := { parameters := [.int], returnType := some .boolean }, accessFlags := 9, code := some k1c1 }
/-- com/example/harakeke/harakeke/model/KindIsTextPinLaw -/
def k1 : Class := { plain "com/example/harakeke/harakeke/model/KindIsTextPinLaw" (some 0) with
  accessFlags := 49
  interfaces := #[]
  cf := some (fileOf pool1 30 #[] #[{ accessFlags := 1, nameIndex := 5, descriptorIndex := 6, attributes := #[] }, { accessFlags := 9, nameIndex := 34, descriptorIndex := 35, attributes := #[] }] 49 2 #[] #[])
  fields := #[]
  methods := #[k1m0, k1m1]
  instanceTypes := #[]
  staticTypes := #[]
  resolved := Array.replicate 43 none
  statics := none }

def pool2 : Array CpInfo := pool [(1, .class_ 2), (0, u "java/lang/constant/Constable"), (0, .class_ 4), (0, u "java/lang/Object")] 6

/-- java/lang/constant/Constable -/
def k2 : Class := { plain "java/lang/constant/Constable" (some 0) with
  accessFlags := 1537
  interfaces := #[]
  cf := some (fileOf pool2 1 #[] #[] 1537 3 #[] #[])
  fields := #[]
  methods := #[]
  instanceTypes := #[]
  staticTypes := #[]
  resolved := Array.replicate 11 none
  statics := none }

def pool3 : Array CpInfo := pool [(1, .class_ 2), (0, u "java/lang/Comparable"), (0, .class_ 4), (0, u "java/lang/Object")] 7

/-- java/lang/Comparable -/
def k3 : Class := { plain "java/lang/Comparable" (some 0) with
  accessFlags := 1537
  interfaces := #[]
  cf := some (fileOf pool3 1 #[] #[] 1537 3 #[] #[])
  fields := #[]
  methods := #[]
  instanceTypes := #[]
  staticTypes := #[]
  resolved := Array.replicate 12 none
  statics := none }

def pool4 : Array CpInfo := pool [(1, .class_ 2), (0, u "java/io/Serializable"), (0, .class_ 4), (0, u "java/lang/Object")] 2

/-- java/io/Serializable -/
def k4 : Class := { plain "java/io/Serializable" (some 0) with
  accessFlags := 1537
  interfaces := #[]
  cf := some (fileOf pool4 1 #[] #[] 1537 3 #[] #[])
  fields := #[]
  methods := #[]
  instanceTypes := #[]
  staticTypes := #[]
  resolved := Array.replicate 7 none
  statics := none }

def pool5 : Array CpInfo := pool [(2, .class_ 4), (1, u "java/lang/Enum"), (0, u "name"), (0, u "Ljava/lang/String;"), (2, u "ordinal"), (0, u "I"), (1, .class_ 14), (1, u "java/lang/Object"), (4, u "hash"), (86, .class_ 108), (1, u "java/lang/Enum$EnumDesc"), (2, .class_ 112), (0, u "java/lang/constant/Constable"), (0, .class_ 114), (0, u "java/lang/Comparable"), (0, .class_ 116), (0, u "java/io/Serializable")] 87

/-- java/lang/Enum -/
def k5 : Class := { plain "java/lang/Enum" (some 0) with
  accessFlags := 1057
  interfaces := #[2, 3, 4]
  cf := some (fileOf pool5 2 #[.nestMembers #[106]] #[] 1057 12 #[111, 113, 115] #[{ accessFlags := 18, nameIndex := 5, descriptorIndex := 6, attributes := #[] }, { accessFlags := 18, nameIndex := 9, descriptorIndex := 10, attributes := #[] }, { accessFlags := 2, nameIndex := 19, descriptorIndex := 10, attributes := #[] }])
  fields := #[{ name := "name", type := (.object "java/lang/String"), accessFlags := 18, slot := 0, constantValue := 0 }, { name := "ordinal", type := .int, accessFlags := 18, slot := 1, constantValue := 0 }, { name := "hash", type := .int, accessFlags := 2, slot := 2, constantValue := 0 }]
  methods := #[]
  instanceTypes := #[(.object "java/lang/String"), .int, .int]
  staticTypes := #[]
  resolved := Array.replicate 204 none
  statics := none }

def pool6 : Array CpInfo := pool [(1, .class_ 2), (0, u "com/example/harakeke/harakeke/model/FieldType$Kind"), (0, .fieldref 1 4), (0, .nameAndType 5 6), (0, u "CHAR"), (0, u "Lcom/example/harakeke/harakeke/model/FieldType$Kind;"), (0, .fieldref 1 8), (0, .nameAndType 9 6), (0, u "VARCHAR"), (2, u "DATE"), (2, u "PARTIAL_DATE"), (2, u "DATETIME"), (2, u "$VALUES"), (0, u "[Lcom/example/harakeke/harakeke/model/FieldType$Kind;"), (6, .class_ 31), (1, u "java/lang/Enum"), (23, u "isText"), (0, u "()Z"), (6, .class_ 64), (0, u "com/example/harakeke/harakeke/model/FieldType")] 2

def k6c0 : Code := { maxStack := 2, maxLocals := 1, code := prog_44_method_4_code, exceptionTable := #[], attributes := #[] }
def k6m0 : Method := { name := "isText", desc := "()Z", sig := { parameters := [], returnType := some .boolean }, accessFlags := 1, code := some k6c0 }
/-- com/example/harakeke/harakeke/model/FieldType$Kind -/
def k6 : Class := { plain "com/example/harakeke/harakeke/model/FieldType$Kind" (some 5) with
  accessFlags := 16433
  interfaces := #[]
  cf := some (fileOf pool6 1 #[.nestHost 63] #[{ accessFlags := 1, nameIndex := 55, descriptorIndex := 56, attributes := #[] }] 16433 29 #[] #[{ accessFlags := 16409, nameIndex := 5, descriptorIndex := 6, attributes := #[] }, { accessFlags := 16409, nameIndex := 9, descriptorIndex := 6, attributes := #[] }, { accessFlags := 16409, nameIndex := 12, descriptorIndex := 6, attributes := #[] }, { accessFlags := 16409, nameIndex := 15, descriptorIndex := 6, attributes := #[] }, { accessFlags := 16409, nameIndex := 18, descriptorIndex := 6, attributes := #[] }, { accessFlags := 4122, nameIndex := 21, descriptorIndex := 22, attributes := #[] }])
  fields := #[{ name := "CHAR", type := (.object "com/example/harakeke/harakeke/model/FieldType$Kind"), accessFlags := 16409, slot := 0, constantValue := 0 }, { name := "VARCHAR", type := (.object "com/example/harakeke/harakeke/model/FieldType$Kind"), accessFlags := 16409, slot := 1, constantValue := 0 }, { name := "DATE", type := (.object "com/example/harakeke/harakeke/model/FieldType$Kind"), accessFlags := 16409, slot := 2, constantValue := 0 }, { name := "PARTIAL_DATE", type := (.object "com/example/harakeke/harakeke/model/FieldType$Kind"), accessFlags := 16409, slot := 3, constantValue := 0 }, { name := "DATETIME", type := (.object "com/example/harakeke/harakeke/model/FieldType$Kind"), accessFlags := 16409, slot := 4, constantValue := 0 }, { name := "$VALUES", type := (.array (.object "com/example/harakeke/harakeke/model/FieldType$Kind")), accessFlags := 4122, slot := 5, constantValue := 0 }]
  methods := #[k6m0]
  instanceTypes := #[(.object "java/lang/String"), .int, .int]
  staticTypes := #[(.object "com/example/harakeke/harakeke/model/FieldType$Kind"), (.object "com/example/harakeke/harakeke/model/FieldType$Kind"), (.object "com/example/harakeke/harakeke/model/FieldType$Kind"), (.object "com/example/harakeke/harakeke/model/FieldType$Kind"), (.object "com/example/harakeke/harakeke/model/FieldType$Kind"), (.array (.object "com/example/harakeke/harakeke/model/FieldType$Kind"))]
  resolved := Array.replicate 67 none
  statics := some 0 }

def pool7 : Array CpInfo := pool [(1, u "java/lang/Cloneable"), (0, .class_ 1), (0, u "java/lang/Object"), (0, .class_ 3)] 3

/-- java/lang/Cloneable -/
def k7 : Class := { plain "java/lang/Cloneable" (some 0) with
  accessFlags := 1537
  interfaces := #[]
  cf := some (fileOf pool7 2 #[] #[] 1537 4 #[] #[])
  fields := #[]
  methods := #[]
  instanceTypes := #[]
  staticTypes := #[]
  resolved := Array.replicate 8 none
  statics := none }

/-- the primitive byte -/
def k8 : Class := { plain "byte" none with kind := .primitive 'B', accessFlags := 0x411 }
/-- [B -/
def k9 : Class := { plain "[B" (some 0) with kind := .array 8 .byte, interfaces := #[7, 4], accessFlags := 1041 }

/-- the primitive int -/
def k10 : Class := { plain "int" none with kind := .primitive 'I', accessFlags := 0x411 }
/-- [I -/
def k11 : Class := { plain "[I" (some 0) with kind := .array 10 .int, interfaces := #[7, 4], accessFlags := 1041 }

def heap : Heap := #[{ cls := 6, slots := #[.ref 1, .ref 2, .ref 3, .ref 4, .ref 5, .null], vm := .statics 6 },
  { cls := 6, slots := #[.null, .int 0, .int 0], vm := .none },
  { cls := 6, slots := #[.null, .int 1, .int 0], vm := .none },
  { cls := 6, slots := #[.null, .int 2, .int 0], vm := .none },
  { cls := 6, slots := #[.null, .int 3, .int 0], vm := .none },
  { cls := 6, slots := #[.null, .int 4, .int 0], vm := .none }]
def classes : Array Class := #[k0, k1, k2, k3, k4, k5, k6, k7, k8, k9, k10, k11]
def interned : List (Array UInt16 × Addr) := []
def slotsUsed : Nat := 21
def theMethod : MethodId := ⟨1, 1⟩
def args0 : Array Value := #[.int 5]
def aboutOver (below : List Frame) : State where
  vm := { classes := classes, interned := interned.toArray }
  heap := heap
  slotsUsed := slotsUsed
  threads := #[{ frames := .invoking theMethod args0 :: below }]
def below0 : List Frame := [.native { method := ⟨0, 0⟩, args := #[] }]
def about1 : State := aboutOver below0
def p0 : Program := .bare "" "" ""
def e0 : Env := launch0.env 0 0 0
theorem w_frames : about1.frames = Frame.invoking theMethod args0 :: below0 := rfl
set_option maxRecDepth 65536 in
theorem w_args : argsFit about1.vm theMethod args0 = true := by decide +kernel
set_option maxRecDepth 65536 in
theorem w_heap : heapFits about1 = true := by decide +kernel
set_option maxRecDepth 65536 in
theorem w_runnable : about1.curStatus? = some .runnable := by decide +kernel
set_option maxRecDepth 65536 in
theorem w_alone : about1.alone = true := by decide +kernel
set_option maxRecDepth 65536 in
theorem w_named : about1.methodNamed? x = some theMethod := by decide +kernel
set_option maxRecDepth 65536 in
theorem w_hears : about1.hears theMethod below0 = true := by decide +kernel
set_option maxRecDepth 65536 in
theorem w_ripe : about1.ripe theMethod args0 below0 = true := by decide +kernel
theorem w_running : about1.status = .running := rfl
set_option maxRecDepth 65536 in
theorem w_room : about1.hasRoom e0.platform room_1 = true :=
  launch0.hasRoom_least _ room_1 (by decide +kernel) (by decide +kernel) (by decide +kernel) (by decide +kernel) (by decide +kernel) (by decide +kernel)
theorem allAtoms_all (ts : List Jvm.Cond) (a : Array Jvm.Value) (st : Jvm.State) : (allAtoms ts).before a st = ts.all (fun c => c.before a st) := by
  induction ts with
  | nil => rfl
  | cons c t ih =>
    show (Jvm.Cond.and c (allAtoms t)).before a st = _
    rw [Jvm.Cond.before_and, ih, List.all_cons]
def words1 : List Jvm.Cond := Jvm.Cond.code x code maxLocals ret :: tables_1
/-- a 'code' word, met by the world's own term for the bytes: nothing is compared byte by byte -/
theorem code_word {y : MethodName} {bytes : ByteArray} {mx : Nat} {rt : Option FieldType} {a : Array Value} {s : State} {m : MethodId} {meth : Method} {c : Code} (h1 : s.methodNamed? y = some m) (h2 : s.vm.method? m = some meth) (h3 : meth.code = some c) (h4 : c.code = bytes)
    (h5 : (c.maxLocals == mx && c.exceptionTable.isEmpty && decide (c.maxStack ≤ mostOperands) && decide (meth.sig.returnType = rt) && !meth.locks && decide (parseMethodDescriptor y.desc = some meth.sig)) = true) : (Jvm.Cond.code y bytes mx rt).before a s = true := by
  simp only [Bool.and_eq_true, beq_iff_eq, Bool.not_eq_true', decide_eq_true_eq] at h5
  obtain ⟨⟨⟨⟨⟨g1, g2⟩, g3⟩, g4⟩, g5⟩, g6⟩ := h5
  simp [Cond.before, Cond.holds, Cond.value, h1, h2, h3, h4, g1, g2, g3, g4, g5, g6]
def isCode : Jvm.Cond → Bool
  | .code _ _ _ _ => true
  | _ => false
theorem all_split {L : List Jvm.Cond} {P : Jvm.Cond → Bool} (h1 : L.all (fun c => isCode c || P c) = true) (h2 : ∀ c ∈ L.filter isCode, P c = true) : L.all P = true := by
  refine List.all_eq_true.mpr fun c hc => ?_
  have h := List.all_eq_true.mp h1 c hc
  rcases Bool.eq_false_or_eq_true (isCode c) with hi | hi
  · exact h2 c (List.mem_filter.mpr ⟨hc, hi⟩)
  · simpa [hi] using h
set_option maxRecDepth 65536 in
theorem w_c0 : (Jvm.Cond.code x code maxLocals ret).before args0 about1 = true := code_word (m := ⟨1, 1⟩) (meth := k1m1) (c := k1c1) (by decide +kernel) rfl rfl rfl (by decide +kernel)
set_option maxRecDepth 65536 in
theorem w_c1 : (Jvm.Cond.code ({ cls := "com/example/harakeke/harakeke/model/FieldType$Kind", name := "isText", desc := "()Z" } : Jvm.MethodName) prog_44_method_4_code (1 : Nat) (Option.some Jvm.ClassFile.FieldType.boolean)).before args0 about1 = true := code_word (m := ⟨6, 0⟩) (meth := k6m0) (c := k6c0) (by decide +kernel) rfl rfl rfl (by decide +kernel)
def codes1 : List Jvm.Cond := [Jvm.Cond.code x code maxLocals ret, Jvm.Cond.code ({ cls := "com/example/harakeke/harakeke/model/FieldType$Kind", name := "isText", desc := "()Z" } : Jvm.MethodName) prog_44_method_4_code (1 : Nat) (Option.some Jvm.ClassFile.FieldType.boolean)]
set_option maxRecDepth 65536 in
theorem codes_eq : words1.filter isCode = codes1 := rfl
theorem w_codes : ∀ c ∈ words1.filter isCode, c.before args0 about1 = true := by
  rw [codes_eq]
  intro c hc
  simp only [codes1, List.mem_cons, List.not_mem_nil, or_false] at hc
  rcases hc with rfl | rfl
  · exact w_c0
  · exact w_c1
set_option maxRecDepth 65536 in
theorem w_t1 : words1.all (fun c => isCode c || c.before args0 about1) = true := by decide +kernel
theorem w_tables : (allAtoms (Jvm.Cond.code x code maxLocals ret :: tables_1)).before args0 about1 = true := by
  rw [allAtoms_all]
  show words1.all (fun c => c.before args0 about1) = true
  refine all_split ?_ w_codes
  rw [w_t1]
set_option maxRecDepth 65536 in
theorem w_case : (Jvm.Cond.and given_1 narrow_1).before args0 about1 = true := by decide +kernel
theorem w_applies : (headSpec (Jvm.Cond.code x code maxLocals ret :: tables_1) room_1).applies x e0.platform about1 = true :=
  (Spec.applies_iff w_frames).mpr ⟨w_running, w_runnable, w_alone, w_named, w_hears, w_ripe, w_room, w_tables⟩
theorem atStart : AtStart classFile x code maxLocals ret World_1 tables_1 room_1 Calls_1 rest_1 Pre_1 launch0 p0 e0 about1 theMethod args0 below0 :=
  ⟨lists_1, trivial, launch0.admits_env _ _ _, launch0.least_env, fairChoices_fair.cas, fairChoices_fair.clock, w_frames, w_args, w_heap, w_applies, trivial, trivial, w_case⟩
end start1
theorem witness_1 : WitnessClaimed_1 := ⟨start1.p0, start1.e0, start1.about1, start1.theMethod, start1.args0, start1.below0, start1.atStart⟩
end Jvm.Pilot.@@N@@
