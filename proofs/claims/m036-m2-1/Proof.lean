import JvmDerived
import JvmDerived.Pilot.@@N@@Statement
import JvmDerived.Pilot.@@N@@Code
set_option linter.unusedVariables false
set_option linter.unusedSimpArgs false
namespace Jvm.Own
open Sem ClassFile Op Lib Jvm.Stand Jvm.Free Jvm.LawKit Jvm.RoadKit
section Own
variable {p : Program} {l : Launch} {e : Env} {R : Room} {s : State} {m : MethodId} {args : Array Value} {below : List Frame} {meth : Method} {c : Code} {T S S' : State} {locs : List Loc} {cells slots : Nat} {G : Outcome → State → Prop} {Q : Option Value → Heap → List Loc → Prop} {C K : Nat}
/-- from S the run comes to an end of which G holds -/
def Go (p : Program) (e : Env) (below : List Frame) (G : Outcome → State → Prop) (S : State) : Prop := ∃ t o, Steps p.tables e below S t ∧ t.status = .running ∧ Ended t below o ∧ G o t
def GO (s : State) (Q : Option Value → Heap → List Loc → Prop) (C K : Nat) (o : Outcome) (t : State) : Prop := ∃ v L, o = .returned v ∧ Q v t.heap L ∧ FrameEnd s o t L C K
theorem Go.st (k : ∀ t, Steps p.tables e below S' t → Steps p.tables e below S t) (h : Go p e below G S') : Go p e below G S := by
  obtain ⟨t, o, h1, h2⟩ := h
  exact ⟨t, o, k t h1, h2⟩
theorem Go.tr (k : Steps p.tables e below S S') (h : Go p e below G S') : Go p e below G S := by
  obtain ⟨t, o, h1, h2⟩ := h
  exact ⟨t, o, k.trans h1, h2⟩
theorem Go.outN (X : Stand p l e R s m args below meth c T locs cells slots) (hx : p.tables.exec = Jvm.exec) (hlk : meth.locks = false) {pc : Nat} {Ls : Array Slot} {z : Int32} {t : FieldType} {rest : List Value} (hret : meth.sig.returnType = some t) (ht : t = .boolean ∨ t = .byte ∨ t = .char ∨ t = .short)
    (hd : decode c.code pc = .ok (.ireturn, 1)) (hQ : Q (some (.int (nar t z))) T.heap locs) (hC : cells ≤ C) (hK : slots ≤ K) : Go p e below (GO s Q C K) (T.setTop (mkF m pc Ls (.int z :: rest))) := by
  obtain ⟨fs, hr, hrun, hended, hW, hsame⟩ := X.leave (v := some (.int (nar t z))) (fun h => by rw [hret] at h; cases h) hlk
  exact ⟨_, _, retN X hx hret ht hd hr, hrun, hended, _, _, rfl, hQ, ⟨_, rfl⟩, hW, hsame.mono hC hK⟩
theorem Go.outI (X : Stand p l e R s m args below meth c T locs cells slots) (hx : p.tables.exec = Jvm.exec) (hlk : meth.locks = false) {pc : Nat} {Ls : Array Slot} {z : Int32} {rest : List Value} (hret : meth.sig.returnType = some .int)
    (hd : decode c.code pc = .ok (.ireturn, 1)) (hQ : Q (some (.int z)) T.heap locs) (hC : cells ≤ C) (hK : slots ≤ K) : Go p e below (GO s Q C K) (T.setTop (mkF m pc Ls (.int z :: rest))) := by
  obtain ⟨fs, hr, hrun, hended, hW, hsame⟩ := X.leave (v := some (.int z)) (fun h => by rw [hret] at h; cases h) hlk
  exact ⟨_, _, retOut X hx hret rfl (Or.inl ⟨rfl, Or.inl rfl, z, rfl⟩) hd hr, hrun, hended, _, _, rfl, hQ, ⟨_, rfl⟩, hW, hsame.mono hC hK⟩
theorem Go.outJ (X : Stand p l e R s m args below meth c T locs cells slots) (hx : p.tables.exec = Jvm.exec) (hlk : meth.locks = false) {pc : Nat} {Ls : Array Slot} {z : Int64} {rest : List Value} (hret : meth.sig.returnType = some .long)
    (hd : decode c.code pc = .ok (.lreturn, 1)) (hQ : Q (some (.long z)) T.heap locs) (hC : cells ≤ C) (hK : slots ≤ K) : Go p e below (GO s Q C K) (T.setTop (mkF m pc Ls (.long z :: rest))) := by
  obtain ⟨fs, hr, hrun, hended, hW, hsame⟩ := X.leave (v := some (.long z)) (fun h => by rw [hret] at h; cases h) hlk
  exact ⟨_, _, retOut X hx hret rfl (Or.inr (Or.inl ⟨rfl, rfl, z, rfl⟩)) hd hr, hrun, hended, _, _, rfl, hQ, ⟨_, rfl⟩, hW, hsame.mono hC hK⟩
theorem own_narrow_ref (t : FieldType) {w : Value} (h : w.isRef = true) : narrow t w = w := by
  rcases ref_cases h with rfl | ⟨a, rfl⟩ <;> cases t <;> rfl
theorem own_fits_ref (t : FieldType) {w : Value} (h : w.isRef = true) (ht : t.isReference = true := by rfl) : fits t w = true := by
  rcases ref_cases h with rfl | ⟨a, rfl⟩ <;> cases t <;> first | rfl | (cases ht)
theorem own_cat_ref {w : Value} (h : w.isRef = true) : w.category = 1 := by
  rcases ref_cases h with rfl | ⟨a, rfl⟩ <;> rfl
theorem Go.outR (X : Stand p l e R s m args below meth c T locs cells slots) (hx : p.tables.exec = Jvm.exec) (hlk : meth.locks = false) {pc : Nat} {Ls : Array Slot} {w : Value} {t : FieldType} {rest : List Value} (hret : meth.sig.returnType = some t) (ht : t.isReference = true) (hw : w.isRef = true)
    (hd : decode c.code pc = .ok (.areturn, 1)) (hQ : Q (some w) T.heap locs) (hC : cells ≤ C) (hK : slots ≤ K) : Go p e below (GO s Q C K) (T.setTop (mkF m pc Ls (w :: rest))) := by
  obtain ⟨fs, hr, hrun, hended, hW, hsame⟩ := X.leave (v := some w) (fun h => by rw [hret] at h; cases h) hlk
  exact ⟨_, _, retOut X hx hret (own_narrow_ref t hw) (Or.inr (Or.inr (Or.inr (Or.inr ⟨rfl, ht, hw⟩)))) hd hr, hrun, hended, _, _, rfl, hQ, ⟨_, rfl⟩, hW, hsame.mono hC hK⟩
theorem Go.outU (X : Stand p l e R s m args below meth c T locs cells slots) (hx : p.tables.exec = Jvm.exec) (hlk : meth.locks = false) {pc : Nat} {Ls : Array Slot} (hret : meth.sig.returnType = none)
    (hd : decode c.code pc = .ok (.return_, 1)) (hQ : Q none T.heap locs) (hC : cells ≤ C) (hK : slots ≤ K) : Go p e below (GO s Q C K) (T.setTop (mkF m pc Ls [])) := by
  obtain ⟨fs, hr, hrun, hended, hW, hsame⟩ := X.leave (v := none) (fun _ => rfl) hlk
  exact ⟨_, _, X.returnOut hx hret hd hr, hrun, hended, _, _, rfl, hQ, ⟨_, rfl⟩, hW, hsame.mono hC hK⟩
def GOW (s : State) (Q : Option Value → Heap → List Loc → Prop) (C K : Nat) (o : Outcome) (t : State) : Prop := ∃ v L, o = .returned v ∧ Q v t.heap L ∧ ReturnedEndW s o t L C K
theorem Go.outW {vm₁ : Vm} {n : Nat} (X : Stand p l e R (s.setVm vm₁) m args below meth c T locs cells slots) (hS : s.Since vm₁ n) (hn : n ≤ T.heap.size) {v : Option Value} (hv : meth.sig.returnType = none → v = none) (hlk : meth.locks = false)
    (st : ∀ fs, (∀ (f : JFrame) (acts : List Action), f.method = m → f.locked = none → f.entered = [] → (doReturn e (T.setTop f) acts v).1 = T.setFrames fs) → Steps p.tables e below S (T.setFrames fs)) (hQ : Q v T.heap locs) (hC : cells ≤ C) (hK : slots ≤ K) : Go p e below (GOW s Q C K) S := by
  obtain ⟨fs, hr, hrun, hended, h1, h2, h3, h4⟩ := X.leaveW hS hn (v := v) hv hlk
  exact ⟨_, _, st fs hr, hrun, hended, _, _, rfl, hQ, h1, h2, h3, h4.mono hC hK⟩
theorem own_stand_mono {cells' slots' : Nat} (X : Stand p l e R s m args below meth c T locs cells slots) (h1 : cells ≤ cells') (h2 : slots ≤ slots') : Stand p l e R s m args below meth c T locs cells' slots' :=
  ⟨X.admits, X.cas, X.clock, X.frames, X.room, X.hears, X.method, X.code, X.here, X.tail, X.warmed, X.limits, X.bytes, X.same.mono h1 h2⟩
end Own
section Facts
variable {Z : State} {h h' h0 : Heap} {a b : Addr} {sl : Nat} {v : Value} {ws : List Addr}
theorem own_ext_refl (h : Heap) : Ext h h := ⟨Nat.le_refl _, fun _ _ q => q⟩
theorem own_ext_trans (O : Ext h0 h) (E : Ext h h') : Ext h0 h' := ⟨Nat.le_trans O.1 E.1, fun x c q => E.2 x c (O.2 x c q)⟩
theorem own_ext_keep (O : Ext h0 h) (K : Keep h h' ws) (g : ∀ x ∈ ws, h0.size ≤ x) : Ext h0 h' := ⟨Nat.le_trans O.1 K.1, fun x c q => K.2.1 x c (O.2 x c q) fun z => Nat.not_lt.mpr (g x z) (Array.getElem?_eq_some_iff.mp q).1⟩
theorem own_ext_wr (O : Ext h0 h) (W : Wr h h' a sl v) (g : h0.size ≤ a) : Ext h0 h' := own_ext_keep O (Keep.of_wr W) (allS g all0)
theorem own_irr (x : Int32) : ¬ x < x := fun h => Int32.lt_irrefl h
theorem own_fld {args : Array Value} {t : Term} {C n d : String} {k : Int32} (ev : t.eval args Z none [] Z = some (.ref a)) (hq : (Cond.eq (.field t C n d) (.int k)).value args Z none Z [] = some true) : Fld Z Z.heap a C n d (.int k) := by
  obtain ⟨x, y, h1, h2, h3, h4⟩ := cmp_v (Or.inl hq)
  have e2 : y = .int k := Option.some.inj (h2.symm.trans (Term.int_eval k))
  subst e2
  obtain ⟨z, rfl⟩ := h4
  have e3 : z = k := by simpa [Cond.value, h1, h2] using hq
  subst e3
  exact Fld.start ((fld_at ev).symm.trans h1)
theorem own_fldN {args : Array Value} {t : Term} {C n d : String} (ev : t.eval args Z none [] Z = some (.ref a)) (hq : (Cond.eq (.field t C n d) .null).value args Z none Z [] = some true) : Fld Z Z.heap a C n d .null :=
  Fld.start ((fld_at ev).symm.trans (null_v hq))
theorem own_len {args : Array Value} {t : Term} {z : Int32} {cl : Cell} {ty : FieldType} (ev : t.eval args Z none [] Z = some (.ref a)) (A : Arr Z Z.heap a cl ty) (hq : (Cond.eq (.length t) (.int z)).value args Z none Z [] = some true) : cl.slots.size < 2 ^ 31 ∧ cl.slots.size.toInt32 = z := by
  obtain ⟨x, y, h1, h2, h3, h4⟩ := cmp_v (Or.inl hq)
  have e2 : y = .int z := Option.some.inj (h2.symm.trans (Term.int_eval z))
  subst e2
  have ha : Z.arrayAt? a = some cl := A.fin (Vm.Alike.refl _)
  by_cases hl : cl.slots.size < 2 ^ 31
  · have e3 := Option.some.inj ((len_f ev ha hl).symm.trans h1)
    subst e3
    refine ⟨hl, ?_⟩
    simpa [Cond.value, h1, h2] using hq
  · exfalso
    simp [Term.eval, ev, ha] at h1
    exact hl h1.1
theorem own_elem {args : Array Value} {t u : Term} {i : Int32} {cl : Cell} {ty : FieldType} (ev : t.eval args Z none [] Z = some (.ref a)) (A : Arr Z Z.heap a cl ty) (eu : u.eval args Z none [] Z = some (.ref b)) (hq : (Cond.eq (.elem t (.int i)) u).value args Z none Z [] = some true) : cl.slots[i.toNatClampNeg]? = some (.ref b) := by
  obtain ⟨x, y, h1, h2, h3, h4⟩ := cmp_v (Or.inl hq)
  have e2 : y = .ref b := Option.some.inj (h2.symm.trans eu)
  subst e2
  have h5 := (elem_in h1 ev (Term.int_eval i) A.1).2
  have e3 : x = .ref b := gotT (eq_R h1 h2 h4.2 rfl) hq
  rw [← e3]
  exact h5
theorem own_and3 (k : Int32) : k &&& 3 = 0 ∨ k &&& 3 = 1 ∨ k &&& 3 = 2 ∨ k &&& 3 = 3 := by
  have h := c_mask k 3 2 (by decide) (by decide)
  simp only [← Int32.toInt_inj, Int32.reduceToInt]
  omega
theorem own_mod (x n : Int32) (hn : 0 < n.toInt) : 0 ≤ ((x &&& 2147483647) % n).toInt ∧ ((x &&& 2147483647) % n).toInt < n.toInt := by
  have h1 := (c_and x 2147483647 (by decide)).1
  have h2 := (c_iremV (x &&& 2147483647) n).1 h1 hn
  exact ⟨h2.1, h2.2.1⟩
theorem own_cp0 {p : Program} {l : Launch} {e : Env} {R : Room} {s : State} {m : MethodId} {args : Array Value} {below : List Frame} {meth : Method} {c : Code} {T : State} {locs : List Loc} {cells slots : Nat} {a0 : Array Value} {own : String} {index : Nat} (X : Stand p l e R s m args below meth c T locs cells slots) (hx : p.tables.exec = Jvm.exec) (hZ : Z.Warmed39 s.vm) (hown : s.vm.findClass own = some m.cls)
    (w1 : (Cond.methodLink own index Jvm.Stand.acN).before a0 Z = true) (w2 : (Cond.native Jvm.Stand.acN).before a0 Z = true) (w3 : (Cond.static Jvm.Stand.acN).before a0 Z = true) (w4 : (Cond.initialized "java/lang/System").before a0 Z = true) (eT : T.heap = h)
    {k k' : ClassId} {ty : FieldType} {z z' : Int32} {vs vd : List Value} {dv dd : Value} (A : Arv Z h a k ty z vs dv) (B : Arv Z h b k' ty z' vd dd) (hty : refKind ty = false) {nn : Int32} (hnn : nn = 0)
    {g : JFrame} (hg : g.method = m) (hsize : g.locals.size = c.maxLocals) {rest : List Value} (hs : g.stack = .int nn :: .int 0 :: .ref b :: .int 0 :: .ref a :: rest) (hd : decode c.code g.pc = .ok (.invokestatic index, 3))
    (hf : 1 ≤ R.frames) {W : Nat} (hW : 2 * g.monitorRoom + (rest.map fun v => v.category).sum ≤ W) (hlo : W + (nativeFrameWords "java/lang/System" "arraycopy" 5 + 11) ≤ R.locals) :
    ∃ T', Stand p l e R s m args below meth c T' locs cells slots ∧ T'.heap = h ∧ ∀ target, Steps p.tables e below (T'.setTop { g with pc := g.pc + 3, stack := rest }) target → Steps p.tables e below (T.setTop g) target := by
  subst hnn
  obtain ⟨cs, As, -, Ss, -, Hs, Gs⟩ := A
  obtain ⟨cd, Ad, qd, Sd, Nd, Hd, Gd⟩ := B
  obtain ⟨os, ks, hks, sc, hsk⟩ := State.isArrayOf_alike hZ.alike As.2.1
  obtain ⟨od, kd, hkd, dc, hdk⟩ := State.isArrayOf_alike hZ.alike Ad.2.1
  have z0 : (0 : Int32).toInt = 0 := rfl
  obtain ⟨vm₁, hW₁, X', st⟩ := X.arraycopyK (srcPos := 0) (destPos := 0) (n := 0) hx hown (mvT hZ w1) (mvT hZ w2) (mvT hZ w3) (mvT hZ w4) (by rw [eT]; exact As.1) (by rw [eT]; exact Ad.1) os od As.2.2 Ad.2.2 hks hkd hsk hdk
    (by simp [hty]) (by decide) (by decide) (by decide) (by rw [z0]; omega) (by rw [z0]; omega) (fun vm₁ hw i hi => absurd hi (Nat.not_lt_zero i)) hg hsize hs hd hf (by omega)
  have e1 : copied cs cd 0 0 0 = cd := rfl
  have e2 : copyLocs b (0 : Int32).toNatClampNeg (0 : Int32).toNatClampNeg = [] := rfl
  rw [e1] at X' st
  rw [e2, List.append_nil] at X'
  refine ⟨_, X', ?_, st⟩
  show (T.heap.setIfInBounds b cd) = h
  rw [eT]
  refine Array.ext_getElem? fun i => ?_
  by_cases q : b = i
  · subst q
    rw [Array.getElem?_setIfInBounds_self_of_lt (Array.getElem?_eq_some_iff.mp Ad.1).1]
    exact Ad.1.symm
  · rw [Array.getElem?_setIfInBounds_ne q]
theorem own_set {k : ClassId} {ty : FieldType} {z j : Int32} {vs vs' : List Value} {dv v v' : Value} {c : Cell} (A : Arr Z h a c ty) (q1 : c.cls = k) (S : c.slots.size = z.toNatClampNeg) (q3 : ¬ z < 0) (H : Has c vs dv) (G : ∀ i, i < c.slots.size → fits ty (vs.getD i dv) = true) (hv : fits ty v = true) (W : Wr h h' a j.toNatClampNeg v) (i : Nat) (hj : j.toNatClampNeg = i) (hi : i < vs.length) (hvv : v = v') (hvs : vs.set i v' = vs') : Arv Z h' a k ty z vs' dv := by
  subst hvv; subst hvs
  exact Arv.set A q1 S q3 H G hv W i hj hi
/-- an array of which the length alone is said -/
def own_AL (Z : State) (h : Heap) (a : Addr) (ty : FieldType) (z : Int32) : Prop := ∃ k vs d, Arv Z h a k ty z vs d
theorem own_AL.of {k : ClassId} {ty : FieldType} {z : Int32} {vs : List Value} {d : Value} (F : Arv Z h a k ty z vs d) : own_AL Z h a ty z := ⟨k, vs, d, F⟩
theorem own_AL.lt {ty : FieldType} {z : Int32} (F : own_AL Z h a ty z) : a < h.size := by obtain ⟨k, vs, d, F⟩ := F; exact F.lt
theorem own_AL.ext {ty : FieldType} {z : Int32} (F : own_AL Z h a ty z) (E : Ext h h') : own_AL Z h' a ty z := by obtain ⟨k, vs, d, F⟩ := F; exact ⟨k, vs, d, F.ext E⟩
theorem own_AL.other {ty : FieldType} {z : Int32} (F : own_AL Z h b ty z) (W : Wr h h' a sl v) (q : b ≠ a) : own_AL Z h' b ty z := by obtain ⟨k, vs, d, F⟩ := F; exact ⟨k, vs, d, F.other W q⟩
theorem own_AL.keep {ty : FieldType} {z : Int32} (F : own_AL Z h a ty z) (K : Keep h h' ws) (q : a ∉ ws) : own_AL Z h' a ty z := by obtain ⟨k, vs, d, F⟩ := F; exact ⟨k, vs, d, F.keep K q⟩
theorem own_AL.len {ty : FieldType} {z : Int32} (F : own_AL Z h a ty z) (n : Nat) : ∃ k vs d, Arv Z h a k ty z vs d ∧ n ≤ vs.length := by
  obtain ⟨k, vs, d, F⟩ := F
  exact ⟨k, vs ++ List.replicate n d, d, F.pad (pad_rep vs d n), by simp⟩
theorem own_AL.nn {ty : FieldType} {z : Int32} (F : own_AL Z h a ty z) : 0 ≤ z.toInt := by
  obtain ⟨k, vs, d, c, A, q1, q2, q3, r⟩ := F
  rw [Int32.lt_iff_toInt_lt] at q3
  exact Int.not_lt.mp q3
/-- a copy into one array leaves every array's length -/
theorem own_AL.cp {k : ClassId} {ty ty' : FieldType} {z z' : Int32} {vs : List Value} {d : Value} (F : own_AL Z h a ty z) (B : own_AL Z h b ty' z') (K : Keep h h' [b]) (V : Arv Z h' b k ty' z' vs d) : own_AL Z h' a ty z := by
  by_cases q : a = b
  · subst q
    obtain ⟨k1, vs1, d1, c1, A1, e1, s1, n1, -⟩ := F
    obtain ⟨k2, vs2, d2, c2, A2, e2, s2, n2, -⟩ := B
    have ec : c1 = c2 := Option.some.inj (A1.1.symm.trans A2.1)
    subst ec
    obtain ⟨-, w1, g1, p1, g2⟩ := A1.2.1
    obtain ⟨-, w2, g3, p2, g4⟩ := A2.2.1
    have ew : w1 = w2 := Option.some.inj (g1.symm.trans g3)
    subst ew
    have et : ty = ty' := by rw [g2] at g4; cases g4; rfl
    have ez : z = z' := by rw [← (back32 n1).1, ← (back32 n2).1, ← s1, ← s2]
    subst et ez
    exact ⟨_, _, _, V⟩
  · exact F.keep K (ninS q nin0)
theorem own_IB {vm : Vm} (hint : vm.interned = Z.vm.interned) : IB Z vm [] := ⟨#[], by rw [hint]; simp, fun q hq => by simp at hq⟩
theorem own_backOfSI {p : Program} {l : Launch} {e : Env} {R : Room} {s : State} {args : Array Value} {below : List Frame} {a0 : Array Value} {y : MethodName} {bytes : ByteArray} {maxL : Nat} {ret : Option FieldType} {rm : Room} {len W : Nat} {as' : Array Value} {Q : Option Value → Heap → List Loc → Prop} (hint : s.vm.interned = Z.vm.interned)
    (hM : MetFree l y (head1 [Cond.code y bytes maxL ret] rm) (fun a U => a = as' ∧ Z.Warmed39 U.vm ∧ U.heap = h ∧ U.vm.interned = Z.vm.interned) (fun _ _ _ _ _ => True) (fun _ U o U' => ∃ v L, o = .returned v ∧ Q v U'.heap L ∧ ReturnedEndW U o U' L rm.cells rm.slots))
    (hZ : Z.Warmed39 s.vm) (wc : (Cond.code y bytes maxL ret).before a0 Z = true) (wz : (Cond.initialized y.cls).before a0 Z = true) (hf : rm.frames + 1 ≤ R.frames) (hl : W + (maxL + 11) + rm.locals ≤ R.locals) :
    BackS l R p e below s args y len W (fun A a => a = as' ∧ A.U.heap = h ∧ A.cells + rm.cells ≤ R.cells ∧ A.slots + rm.slots ≤ R.slots)
      (fun A _ v B => ∃ L, Q v B.U.heap L ∧ B.locs = A.locs ++ L ∧ B.cells = A.cells + rm.cells ∧ B.slots = A.slots + rm.slots) :=
  BackS.of_freeW (bytes := bytes) (maxL := maxL) (ret := ret) (E := fun _ _ o t L k n => k = rm.cells ∧ n = rm.slots ∧ ∃ v, o = .returned v ∧ Q v t.heap L) hM hf hl
    (fun m meth c A a Y hp => have hU : Z.Warmed39 A.U.vm := wtrans hZ Y.warmed
      ⟨by show (Cond.and _ .tt).before a A.U = true; rw [Cond.before_and, mv hU wc]; rfl, mv hU wc, mv hU wz, hp.2.2.1, hp.2.2.2⟩)
    (fun m meth c A a g mk Y hp => ⟨hp.1, wtrans hZ Y.warmed, hp.2.1, Y.warmed.interned_eq.trans hint⟩) (fun _ _ _ _ _ _ _ _ _ => trivial)
    (fun _ _ _ _ ⟨v, L, h1, h2, h3⟩ => ⟨L, _, _, h3, rfl, rfl, v, h1, h2⟩)
    (fun m meth c A a g mk v t L k n Y hp _ _ ⟨e1, e2, v', e3, e4⟩ => by cases e3; subst e1 e2; exact ⟨L, e4, rfl, rfl, rfl⟩)
end Facts
end Jvm.Own
@@BLOCK:LamKit.lean.txt@@
namespace Jvm.Own
open Sem ClassFile Op Lib Jvm.Stand Jvm.Free Jvm.LawKit Jvm.RoadKit
/-- the class made for a lambda is still made under tables that may have interned strings besides -/
theorem own_isMade39 {Z : State} {vm' : Vm} (hW : Z.Warmed39 vm') {d ck : ClassId} {sh : Lambda.Shape} (h : Lambda.isMade { classPath := fun _ => none } Z.vm d sh ck = true) : Lambda.isMade { classPath := fun _ => none } vm' d sh ck = true := by
  have hA := hW.alike
  simp only [Lambda.isMade, Option.bind_eq_bind, Option.pure_def, Option.getD_eq_iff, Option.bind_eq_some_iff, Bool.false_eq_true, and_false, or_false] at h ⊢
  obtain ⟨dk, h2, k, h3, file, h4, cf, h5, object, ho, iface, hi, ok, h6, lay, h7, methods, h8, t, ht, tk, htk, h⟩ := h
  obtain ⟨dk', g2, e2⟩ := hA.2.2 _ _ h2
  obtain ⟨k', g3, e3, -, hres, -⟩ := hW.2.2.2 _ _ h3
  obtain ⟨ok', g6, e6⟩ := hA.2.2 _ _ h6
  obtain ⟨tk', g7, e7⟩ := hA.2.2 _ _ htk
  have n2 : dk'.name = dk.name := by rw [e2]
  have n6 : ok'.instanceTypes = ok.instanceTypes := by rw [e6]
  have n7 : tk'.isInterface = tk.isInterface := by rw [e7]; rfl
  refine ⟨dk', g2, k', g3, file, by rw [e3]; exact h4, cf, by rw [n2]; exact h5, object, by rw [hA.findClass]; exact ho, iface, by rw [hA.findClass]; exact hi, ok', g6, lay, by rw [n6]; exact h7, methods, h8, t, by rw [hA.findClass]; exact ht, tk', g7, ?_⟩
  rw [n7, Lambda.methodIn_ask_alike hA, Lambda.methodIn_ask_alike hA]
  revert h
  cases ((methodIn t sh.implName sh.implDesc.toString tk.isInterface none).ask { classPath := fun _ => none } Z.vm).1 with
  | error x => intro h; simp at h
  | ok target =>
    cases ((methodIn iface sh.name sh.sam.toString true none).ask { classPath := fun _ => none } Z.vm).1 with
    | error x => intro h; simp at h
    | ok found =>
      intro h
      have q : ∀ {α : Type} (f : Class → α), (∀ a b c, f { k with resolved := a, nestHost := b, nestHostError := c } = f k) → f k' = f k := fun f hf => by rw [e3]; exact hf _ _ _
      simp only [Option.some.injEq, Bool.and_eq_true] at h ⊢
      rw [q Class.name (fun _ _ _ => rfl), q Class.kind (fun _ _ _ => rfl), q Class.accessFlags (fun _ _ _ => rfl), q Class.super (fun _ _ _ => rfl), q Class.interfaces (fun _ _ _ => rfl), q Class.init (fun _ _ _ => rfl), q Class.loader (fun _ _ _ => rfl), q Class.hidden (fun _ _ _ => rfl), q Class.linked (fun _ _ _ => rfl), q Class.callSites (fun _ _ _ => rfl), q Class.invokers (fun _ _ _ => rfl), q Class.methods (fun _ _ _ => rfl), q Class.fields (fun _ _ _ => rfl), q Class.instanceTypes (fun _ _ _ => rfl), q Class.staticTypes (fun _ _ _ => rfl), n2, n6, Lambda.resolvedOf_alike hA, hA.selectMethod]
      refine ⟨⟨h.1.1, ?_⟩, h.2⟩
      have b := h.1.2
      rw [List.all_eq_true] at b ⊢
      rintro ⟨_ | r, i⟩ hy
      · rfl
      · have := b _ hy
        simp only [Option.isNone_some, Bool.false_or, decide_eq_true_eq] at this ⊢
        rcases hres i with h1 | ⟨h1, -⟩
        · rw [h1]; exact this
        · rw [this] at h1; cases h1
theorem own_made {Z s : State} {host : String} {sh : Lambda.Shape} {ck : ClassId} (hW : Z.Warmed39 s.vm) (h : Jvm.LamKit.Made Z host sh ck) : Jvm.LamKit.Made s host sh ck := by
  obtain ⟨d, dk, h1, h2, h3, h4⟩ := h
  obtain ⟨dk', g1, e1⟩ := hW.alike.2.2 _ _ h1
  refine ⟨d, dk', g1, by rw [e1]; exact h2, own_isMade39 hW h3, ?_⟩
  have hA := hW.alike
  simp only [State.lambdaCallable, hA.findClass, hA.assignable, hA.superclasses, hA.declaredIn] at h4 ⊢
  exact h4
/-- a class entry of the made class stands resolved -/
theorem own_ready {s : State} {host nme : String} {sh : Lambda.Shape} {ck cB : ClassId} {i : Nat} (hmd : Jvm.LamKit.Made s host sh ck)
    (hok : (match sh.file host with | none => false | some D => match D.constantPool[i]? with | some (.class_ n) => decide (D.constantPool.string? n = some nme) && decide (i ≠ D.thisClass) | _ => false) = true) (hf : s.vm.findClass nme = some cB) : s.vm.classReady ck i cB := by
  obtain ⟨d, dk, hd, hname, h, -⟩ := hmd
  obtain ⟨dk', k, ok, tk, file, cf, object, iface, toy, lay, methods, target, found, hd', hk, hfile, hcf, -, -, -, -, hms, ht, htk, hg, -, hrec, -, -, -, -, hpool, hmeth, -, -, hres, -⟩ := Lambda.isMade_spec h
  cases hd.symm.trans hd'
  rw [hname] at hcf
  rw [hcf] at hok
  dsimp only at hok
  split at hok
  · rename_i n hi
    simp only [Bool.and_eq_true, decide_eq_true_eq] at hok
    exact ⟨k, hk, hres i _ (Lambda.resolvedOf_class hi hok.2 hok.1 hf)⟩
  · cases hok
/-- 'invokedynamic' at a site that captures nothing and was linked at the start -/
theorem own_site {p : Program} {l : Launch} {e : Env} {R : Room} {s : State} {m : MethodId} {args : Array Value} {below : List Frame} {meth : Method} {c : Code} {T : State} {locs : List Loc} {cells slots : Nat} {Z : State} {a0 : Array Value} {y : MethodName} {pc index : Nat} {sh : Lambda.Shape}
    (X : Stand p l e R s m args below meth c T locs cells slots) (hx : p.tables.exec = Jvm.exec) (hZ : Z.Warmed39 s.vm) (hnamed : s.methodNamed? y = some m) (w : (Cond.lambdaSite y pc index sh).before a0 Z = true) (hcap : sh.captured = []) {g : JFrame} (hg : g.method = m) (hpc : g.pc = pc) (hsize : g.locals.size = c.maxLocals)
    (hd : decode c.code g.pc = .ok (.invokedynamic index, 5)) (hwords : 2 * g.monitorRoom + (g.stack.map fun v => v.category).sum + 3072 ≤ R.locals) :
    ∃ (a : Addr) (ck : ClassId), Jvm.LamKit.Made Z y.cls sh ck ∧ Jvm.LamKit.FnAt Z.heap a ck ∧ ∀ target, Steps p.tables e below (T.setTop { g with pc := g.pc + 5, stack := .ref a :: g.stack }) target → Steps p.tables e below (T.setTop g) target := by
  obtain ⟨ck, one, hat⟩ := Cond.lambdaSite_spec w
  obtain ⟨mD, kD, cfD, i0, p0, lk, hmD, hkD, -, -, -, hfind, hmade, hcan, hl⟩ := State.lambdaAt?_spec hat
  have hm' : s.methodNamed? y = some mD := by
    have := State.methodNamed?_setVm (s := Z) hZ.alike y
    rw [hmD] at this
    exact this
  have em : mD = m := Option.some.inj (hm'.symm.trans hnamed)
  subst em
  obtain ⟨kD', hkD', hnameD⟩ := className_of_methodNamed hmD
  cases hkD.symm.trans hkD'
  rcases hl with ⟨a, cell, rfl, -, -, hcell, hcls, hvm, -⟩ | ⟨-, -, hne⟩
  · obtain ⟨k', g1, e1⟩ := hZ.alike.2.2 _ _ hkD
    have hw : e.platform.lambdaLinkWords = 3072 := by rw [X.admits.platform]
    refine ⟨a, ck, ⟨_, kD, hkD, hnameD, hmade, hcan⟩, ⟨cell, hcell, hcls, hvm⟩, fun target h => ?_⟩
    exact X.lambdaConstant hx hg hsize hd g1 (by rw [e1, hpc]; exact hfind) (by rw [hw]; exact hwords) h
  · exact absurd hcap hne
/-- one 'invokeinterface' on a function object whose forwarder casts its one argument and calls a static target that a contract pays -/
theorem own_callLam {p : Program} {l : Launch} {e : Env} {R : Room} {s : State} {m : MethodId} {args : Array Value} {below : List Frame} {meth : Method} {c : Code} {T : State} {locs : List Loc} {cells slots : Nat} {Z : State} {a0 : Array Value} {h : Heap}
    (X : Stand p l e R s m args below meth c T locs cells slots) (hx : p.tables.exec = Jvm.exec) (hZ : Z.Warmed39 s.vm) {own host nme : String} {index count : Nat} {xi y : MethodName} {sh : Lambda.Shape} {bytes : ByteArray} {maxL : Nat} {ret : Option FieldType} {rm : Room} {Q : Option Value → Heap → List Loc → Prop} {b : Addr}
    (hM : MetFree l y (head1 [Cond.code y bytes maxL ret] rm) (fun a U => a = #[.ref b] ∧ Z.Warmed39 U.vm ∧ U.heap = h) (fun _ _ _ _ _ => True) (fun _ U o U' => ∃ v L, o = .returned v ∧ Q v U'.heap L ∧ FrameEnd U o U' L rm.cells rm.slots))
    (hQ : ∀ v h' L, Q v h' L → Fr Z.heap.size L ∧ ∃ b', v = some (.ref b'))
    (hown : s.vm.findClass own = some m.cls) (w1 : (Cond.methodLink own index xi).before a0 Z = true) (w2 : (Cond.declares xi).before a0 Z = true) (w3 : (Cond.interfaceMethod xi.cls xi.cls xi.name xi.desc).before args s = true)
    (w4 : (Cond.code y bytes maxL ret).before a0 Z = true) (w5 : (Cond.static y).before a0 Z = true) (w6 : (Cond.initialized y.cls).before a0 Z = true)
    (hxi : xi.cls = sh.iface ∧ xi.name = sh.name ∧ xi.desc = sh.sam.toString) (hy : y.cls = sh.implClass ∧ y.name = sh.implName ∧ y.desc = sh.implDesc.toString)
    (hpoly : (xi.cls ≠ "java/lang/invoke/MethodHandle" ∧ xi.cls ≠ "java/lang/invoke/VarHandle") ∧ y.cls ≠ "java/lang/invoke/MethodHandle" ∧ y.cls ≠ "java/lang/invoke/VarHandle")
    {a : Addr} {ck : ClassId} (hmd : Jvm.LamKit.Made Z host sh ck) (hfn : Jvm.LamKit.FnAt T.heap a ck) {fcode : ByteArray} {idx ci i : Nat} {t : FieldType} (hok : Jvm.LamKit.fwdOK sh host fcode 2 (some t) idx ci = true) (ht : t.isReference = true)
    (hcl : (match sh.file host with | none => false | some D => match D.constantPool[i]? with | some (.class_ n) => decide (D.constantPool.string? n = some nme) && decide (i ≠ D.thisClass) | _ => false) = true)
    (d0 : decode fcode 0 = .ok (.aload_n 1, 1)) (d1 : decode fcode 1 = .ok (.checkcast i, 3)) (dI : decode fcode 4 = .ok (.invokestatic idx, 3)) (dR : decode fcode 7 = .ok (.areturn, 1)) (eT : T.heap = h) (E : Exa Z h b nme)
    {g : JFrame} (hg : g.method = m) (hsize : g.locals.size = c.maxLocals) {rest : List Value} {t1 t2 : FieldType} {r1 r2 : Option FieldType} (hp1 : parseMethodDescriptor xi.desc = some ⟨[t1], r1⟩) (hp2 : parseMethodDescriptor y.desc = some ⟨[t2], r2⟩)
    (hst : g.stack = .ref b :: .ref a :: rest) (hd : decode c.code g.pc = .ok (.invokeinterface index count, 5))
    (hfr : rm.frames + 2 ≤ R.frames) (hlo : 2 * g.monitorRoom + (rest.map fun v => v.category).sum + (2 + 11) + ((maxL + 11) + rm.locals) ≤ R.locals) (hc : cells + rm.cells ≤ R.cells) (hs : slots + rm.slots ≤ R.slots) :
    ∃ (v : Option Value) (T' : State) (L L0 : List Loc), Stand p l e R s m args below meth c T' (locs ++ L) (cells + rm.cells) (slots + rm.slots) ∧ Fr Z.heap.size L ∧ Q v T'.heap L0 ∧
      ∀ target, Steps p.tables e below (T'.setTop { g with pc := g.pc + 5, stack := v.toList ++ rest }) target → Steps p.tables e below (T.setTop g) target := by
  have hMet : Jvm.LawKit.Met l y [Cond.code y bytes maxL ret] rm (fun a U => a = #[.ref b] ∧ Z.Warmed39 U.vm ∧ U.heap = h) (fun _ _ o U' => ∃ v L, o = .returned v ∧ Q v U'.heap L) rm.cells rm.slots (fun q => Z.heap.size ≤ q) :=
    MetFree.imp hM fun _ U o U' ⟨v, L, h1, h2, h3⟩ => ⟨⟨v, L, h1, h2⟩, L, h3, (hQ _ _ _ h2).1⟩
  have hw : ∀ w ∈ [Cond.code y bytes maxL ret], ∀ (a' : Array Value) (U : State), s.WarmedH U.vm → w.before a' U = true := by
    intro w hw a' U hU
    rw [List.mem_singleton] at hw
    subst hw
    exact mv (wtrans hZ hU) w4
  obtain ⟨v, st, t', T', L, X', hL, e1, -, ⟨v', L0, ev, hq⟩, stp⟩ := Jvm.LamKit.callLamS X hx hMet (fun a U g mk hP => hP) rfl rfl hw (List.mem_singleton.mpr rfl) hown (mv hZ w1) (mv hZ w2) w3 (mv hZ w4) (mv hZ w5) (mv hZ w6) hxi hy hpoly (own_made hZ hmd) hfn hok dI dR hg hsize
    (argsL := [.ref b]) (argsT := [.ref b]) (rest := rest) (L0 := #[.val (.ref a), .val (.ref b)]) (lenOf hp1 rfl) (lenOf hp2 rfl) hst hd (fun mk => by first | rfl | simp [entryFrame, argsToLocals, Value.category]) rfl
    (fun U ck' bl target hU hcd hh hW k => by
      have hZU : Z.Warmed39 U.vm := wtrans hZ hW
      obtain ⟨cell, kk, q1, q2, q3, q4, -⟩ := (id E)
      obtain ⟨cell', cT, i1, i2, i3⟩ := Ins.self E
      have ecell : cell' = cell := Option.some.inj (i1.symm.trans q1)
      subst ecell
      have eT' : cT = cell'.cls := Option.some.inj (i2.symm.trans q2)
      subst eT'
      simp only [Bool.and_eq_true, Bool.not_eq_true'] at i3
      obtain ⟨kU, g1, -⟩ := hZU.alike.2.2 _ _ q3
      have hr : U.vm.classReady ck i cell'.cls := own_ready (own_made hZU hmd) hcl (by rw [hZU.alike.findClass]; exact q2)
      have d0' : decode ck'.code 0 = .ok (.aload_n 1, 1) := by rw [hcd]; exact d0
      have d1' : decode ck'.code 1 = .ok (.checkcast i, 3) := by rw [hcd]; exact d1
      refine XS.aloadN (g := { method := ⟨ck, 1⟩, pc := 0, locals := #[.val (.ref a), .val (.ref b)], stack := [], locked := none }) hU hx rfl d0' rfl rfl ?_
      show Steps p.tables e bl (U.setTop { method := ⟨ck, 1⟩, pc := 1, locals := #[.val (.ref a), .val (.ref b)], stack := [.ref b], locked := none }) target
      jvm_step hU [hx, d1', checkcast.wp_ready (e := e) (s := U) (c := cell'.cls) (x := .ref b) (rest := []) (f := { method := ⟨ck, 1⟩, pc := 1, locals := #[.val (.ref a), .val (.ref b)], stack := [.ref b], locked := none }) hU.top hr rfl]
      refine ⟨cell', by rw [hh, eT]; exact q1, fun k' hk' => by rw [hk'] at q4; simp [VmData.isStatics] at q4, kU, g1, kU, g1, ?_⟩
      rw [if_pos (by rw [hZU.alike.assignable]; exact i3.2)]
      exact k)
    (fun st v t' ⟨v1, L1, e1, hq1⟩ => by
      cases e1
      obtain ⟨b', rfl⟩ := (hQ _ _ _ hq1).2
      exact Or.inr (Or.inr (Or.inl ⟨t, .ref b', rfl, ht, rfl, rfl, rfl⟩)))
    hfr hlo hc hs (fun U hU hh => ⟨rfl, wtrans hZ hU, by rw [hh, eT]⟩)
  cases ev
  exact ⟨v, T', L, L0, X', hL, by rw [e1]; exact hq, stp⟩
end Jvm.Own
namespace Jvm.Pilot.@@N@@
open Jvm Jvm.ClassFile Sem Op Lib Jvm.Free Jvm.Stand Jvm.LawKit Jvm.RoadKit Jvm.Own Bundle Jvm.Pilot.@@N@@.Jvm.D
theorem own_wS {Z : State} {a0 : Array Value} (hw : ∀ d ∈ tables_1, d.before a0 Z = true) : ∀ a ∈ Bundle.stringAtoms, a.before a0 Z = true := by
  intro a ha
  simp only [Bundle.stringAtoms, List.mem_cons, List.not_mem_nil, or_false] at ha
  rcases ha with rfl | rfl | rfl | rfl | rfl | rfl | rfl
  · exact (hw _ (List.mem_of_getElem? (i := 9) rfl))
  · exact (hw _ (List.mem_of_getElem? (i := 10) rfl))
  · exact (hw _ (List.mem_of_getElem? (i := 1) rfl))
  · exact (hw _ (List.mem_of_getElem? (i := 11) rfl))
  · exact (hw _ (List.mem_of_getElem? (i := 12) rfl))
  · exact (hw _ (List.mem_of_getElem? (i := 13) rfl))
  · exact (hw _ (List.mem_of_getElem? (i := 14) rfl))
abbrev own_sh : Jvm.Lambda.Shape := (Jvm.Lambda.Shape.mk "java/util/function/Function" "apply" (Jvm.ClassFile.MethodDescriptor.mk ([(Jvm.ClassFile.FieldType.object "java/lang/Object")] : List Jvm.ClassFile.FieldType) (Option.some (Jvm.ClassFile.FieldType.object "java/lang/Object"))) ([] : List Jvm.ClassFile.FieldType) (6 : Nat) "com/example/claim/claim/model/VerificationResult" "lambda$payload$0" (Jvm.ClassFile.MethodDescriptor.mk ([(Jvm.ClassFile.FieldType.object "java/lang/Object")] : List Jvm.ClassFile.FieldType) (Option.some (Jvm.ClassFile.FieldType.array Jvm.ClassFile.FieldType.byte))) false (Jvm.ClassFile.MethodDescriptor.mk ([(Jvm.ClassFile.FieldType.array Jvm.ClassFile.FieldType.byte)] : List Jvm.ClassFile.FieldType) (Option.some (Jvm.ClassFile.FieldType.array Jvm.ClassFile.FieldType.byte))))
def own_fcode : ByteArray := ⟨#[0x2b, 0xc0, 0x00, 0x0e, 0xb8, 0x00, 0x14, 0xb0]⟩
theorem own_fok : Jvm.LamKit.fwdOK own_sh "com/example/claim/claim/model/VerificationResult" own_fcode 2 (some (.object "java/lang/Object")) 20 16 = true := by decide +kernel
theorem own_i8 (x : Int32) : x.toInt8.toInt32.toInt8.toInt32 = x.toInt8.toInt32 := by simp
theorem own_five (x : Int32) : (x &&& 2147483647) % 5 = 0 ∨ (x &&& 2147483647) % 5 = 1 ∨ (x &&& 2147483647) % 5 = 2 ∨ (x &&& 2147483647) % 5 = 3 ∨ (x &&& 2147483647) % 5 = 4 := by
  have h := own_mod x 5 (by decide)
  generalize (x &&& 2147483647) % 5 = n at h
  simp only [← Int32.toInt_inj, Int32.reduceToInt] at h ⊢
  omega
theorem ef_rmNN2 (m : MethodId) (x0 : Addr) (x1 : Addr) : entryFrame m #[(.ref x0), (.ref x1)] 2 = mkF m 0 #[.val (.ref x0), .val (.ref x1)] [] := by first | (simp [entryFrame, mkF, argsToLocals, Value.category]; done) | rfl
def Q_rmNN2 (Z : State) (a : Addr) (t : Addr) (h0 : Heap) (v : Option Value) (h : Heap) (L : List Loc) : Prop := v = some (.ref a) ∧ L = [] ∧ h = h0
theorem pn_java_util_Objects : plainName "java/util/Objects" = true := by first | (simp [plainName, overriddenIn]; done) | decide +kernel
theorem d2_0 : decode jdk_31_method_11_code 0 = .ok (.aload_n 0, 1) := by decide +kernel
theorem d2_1 : decode jdk_31_method_11_code 1 = .ok (.ifnonnull 12, 3) := by decide +kernel
theorem d2_13 : decode jdk_31_method_11_code 13 = .ok (.aload_n 0, 1) := by decide +kernel
theorem d2_14 : decode jdk_31_method_11_code 14 = .ok (.areturn, 1) := by decide +kernel
set_option maxRecDepth 65536 in
set_option maxHeartbeats 40000000 in
theorem rmNN2 (l : Launch) (Z : State) (a0 : Array Value) (hw : ∀ d ∈ tables_1, d.before a0 Z = true) (ws : List Jvm.Cond) (a : Addr) (t : Addr) (h0 : Heap) (O0 : Ext Z.heap h0) :
    MetFree l (⟨"java/util/Objects", "requireNonNull", "(Ljava/lang/Object;Ljava/lang/String;)Ljava/lang/Object;"⟩ : MethodName) (head1 (Jvm.Cond.code (⟨"java/util/Objects", "requireNonNull", "(Ljava/lang/Object;Ljava/lang/String;)Ljava/lang/Object;"⟩ : MethodName) jdk_31_method_11_code 2 (some (.object "java/lang/Object")) :: ws) ({ frames := 0, cells := 0, slots := 0, locals := 0 } : Room)) (fun av' U => av' = #[(.ref a), (.ref t)] ∧ Z.Warmed39 U.vm ∧ U.heap = h0) (fun _ _ _ _ _ => True) (fun _ U o U' => ∃ v L, o = .returned v ∧ Q_rmNN2 Z a t h0 v U'.heap L ∧ FrameEnd U o U' L ({ frames := 0, cells := 0, slots := 0, locals := 0 } : Room).cells ({ frames := 0, cells := 0, slots := 0, locals := 0 } : Room).slots) := by
  refine MetFree.of_bodySF (plainFor_of_name pn_java_util_Objects) hisR ?_
  intro p e s m args below meth c s₁ Bd hml0 hP hK
  obtain ⟨rfl, hZ, hh⟩ := hP
  have hx := Bd.exec
  have hby := Bd.bytes
  have hret := Bd.returns
  have hlk : meth.locks = false := Bd.notSynchronized
  have hml : c.maxLocals = 2 := hml0
  have hown : s.vm.findClass "java/util/Objects" = some m.cls := findClass_of_methodNamed Bd.named
  have hnm := (name_of_methodNamed Bd.named Bd.method).1
  have X0 : Stand p l e ({ frames := 0, cells := 0, slots := 0, locals := 0 } : Room) s m #[(.ref a), (.ref t)] below meth c s₁ [] 0 0 := Stand.of_body Bd
  -- the walk
  have e0 : s₁.heap = h0 := by rw [← hh, Bd.state]; rfl
  have N0 := Fr.nil Z.heap.size
  show Go p e below (GO s (Q_rmNN2 Z a t h0) ({ frames := 0, cells := 0, slots := 0, locals := 0 } : Room).cells ({ frames := 0, cells := 0, slots := 0, locals := 0 } : Room).slots) (s₁.setTop (entryFrame m #[(.ref a), (.ref t)] 2))
  refine Go.st (fun t' k' => castTop (ef_rmNN2 m a t) k') ?_
  show Go p e below _ (s₁.setTop (mkF m 0 #[.val (.ref a), .val (.ref t)] []))
  refine Go.st (fun t' k' => XS.aloadN X0.here hx rfl (hb hby d2_0) rfl rfl k') ?_
  show Go p e below _ (s₁.setTop (mkF m 1 #[.val (.ref a), .val (.ref t)] [(.ref a)]))
  refine Go.st (fun t' k' => XS.ifnonnullYes X0.here hx rfl (pc0 := 1) (pc' := 13) rfl (hb hby d2_1) rfl (by decide) (by decide) k') ?_
  show Go p e below _ (s₁.setTop (mkF m 13 #[.val (.ref a), .val (.ref t)] []))
  refine Go.st (fun t' k' => XS.aloadN X0.here hx rfl (hb hby d2_13) rfl rfl k') ?_
  show Go p e below _ (s₁.setTop (mkF m 14 #[.val (.ref a), .val (.ref t)] [(.ref a)]))
  exact Go.outR X0 hx hlk hret rfl rfl (hb hby d2_14) (Q := Q_rmNN2 Z a t h0) (by rw [e0]; exact ⟨rfl, rfl, rfl⟩) (by decide) (by decide)
theorem ef_rmNN1 (m : MethodId) (x0 : Addr) : entryFrame m #[(.ref x0)] 1 = mkF m 0 #[.val (.ref x0)] [] := by first | (simp [entryFrame, mkF, argsToLocals, Value.category]; done) | rfl
def Q_rmNN1 (Z : State) (a : Addr) (h0 : Heap) (v : Option Value) (h : Heap) (L : List Loc) : Prop := v = some (.ref a) ∧ L = [] ∧ h = h0
theorem d12_0 : decode jdk_31_method_10_code 0 = .ok (.aload_n 0, 1) := by decide +kernel
theorem d12_1 : decode jdk_31_method_10_code 1 = .ok (.ifnonnull 11, 3) := by decide +kernel
theorem d12_12 : decode jdk_31_method_10_code 12 = .ok (.aload_n 0, 1) := by decide +kernel
theorem d12_13 : decode jdk_31_method_10_code 13 = .ok (.areturn, 1) := by decide +kernel
set_option maxRecDepth 65536 in
set_option maxHeartbeats 40000000 in
theorem rmNN1 (l : Launch) (Z : State) (a0 : Array Value) (hw : ∀ d ∈ tables_1, d.before a0 Z = true) (ws : List Jvm.Cond) (a : Addr) (h0 : Heap) (O0 : Ext Z.heap h0) :
    MetFree l (⟨"java/util/Objects", "requireNonNull", "(Ljava/lang/Object;)Ljava/lang/Object;"⟩ : MethodName) (head1 (Jvm.Cond.code (⟨"java/util/Objects", "requireNonNull", "(Ljava/lang/Object;)Ljava/lang/Object;"⟩ : MethodName) jdk_31_method_10_code 1 (some (.object "java/lang/Object")) :: ws) ({ frames := 0, cells := 0, slots := 0, locals := 0 } : Room)) (fun av' U => av' = #[(.ref a)] ∧ Z.Warmed39 U.vm ∧ U.heap = h0) (fun _ _ _ _ _ => True) (fun _ U o U' => ∃ v L, o = .returned v ∧ Q_rmNN1 Z a h0 v U'.heap L ∧ FrameEnd U o U' L ({ frames := 0, cells := 0, slots := 0, locals := 0 } : Room).cells ({ frames := 0, cells := 0, slots := 0, locals := 0 } : Room).slots) := by
  refine MetFree.of_bodySF (plainFor_of_name pn_java_util_Objects) hisR ?_
  intro p e s m args below meth c s₁ Bd hml0 hP hK
  obtain ⟨rfl, hZ, hh⟩ := hP
  have hx := Bd.exec
  have hby := Bd.bytes
  have hret := Bd.returns
  have hlk : meth.locks = false := Bd.notSynchronized
  have hml : c.maxLocals = 1 := hml0
  have hown : s.vm.findClass "java/util/Objects" = some m.cls := findClass_of_methodNamed Bd.named
  have hnm := (name_of_methodNamed Bd.named Bd.method).1
  have X0 : Stand p l e ({ frames := 0, cells := 0, slots := 0, locals := 0 } : Room) s m #[(.ref a)] below meth c s₁ [] 0 0 := Stand.of_body Bd
  -- the walk
  have e0 : s₁.heap = h0 := by rw [← hh, Bd.state]; rfl
  have N0 := Fr.nil Z.heap.size
  show Go p e below (GO s (Q_rmNN1 Z a h0) ({ frames := 0, cells := 0, slots := 0, locals := 0 } : Room).cells ({ frames := 0, cells := 0, slots := 0, locals := 0 } : Room).slots) (s₁.setTop (entryFrame m #[(.ref a)] 1))
  refine Go.st (fun t' k' => castTop (ef_rmNN1 m a) k') ?_
  show Go p e below _ (s₁.setTop (mkF m 0 #[.val (.ref a)] []))
  refine Go.st (fun t' k' => XS.aloadN X0.here hx rfl (hb hby d12_0) rfl rfl k') ?_
  show Go p e below _ (s₁.setTop (mkF m 1 #[.val (.ref a)] [(.ref a)]))
  refine Go.st (fun t' k' => XS.ifnonnullYes X0.here hx rfl (pc0 := 1) (pc' := 12) rfl (hb hby d12_1) rfl (by decide) (by decide) k') ?_
  show Go p e below _ (s₁.setTop (mkF m 12 #[.val (.ref a)] []))
  refine Go.st (fun t' k' => XS.aloadN X0.here hx rfl (hb hby d12_12) rfl rfl k') ?_
  show Go p e below _ (s₁.setTop (mkF m 13 #[.val (.ref a)] [(.ref a)]))
  exact Go.outR X0 hx hlk hret rfl rfl (hb hby d12_13) (Q := Q_rmNN1 Z a h0) (by rw [e0]; exact ⟨rfl, rfl, rfl⟩) (by decide) (by decide)
theorem ef_rmOf0 (m : MethodId)  : entryFrame m #[.null] 1 = mkF m 0 #[.val .null] [] := by first | (simp [entryFrame, mkF, argsToLocals, Value.category]; done) | rfl
def Q_rmOf0 (Z : State) (w_EMPTY : Addr) (h0 : Heap) (v : Option Value) (h : Heap) (L : List Loc) : Prop := v = some (.ref w_EMPTY) ∧ L = [] ∧ h = h0
theorem pn_java_util_Optional : plainName "java/util/Optional" = true := by first | (simp [plainName, overriddenIn]; done) | decide +kernel
theorem d7_0 : decode jdk_32_method_4_code 0 = .ok (.aload_n 0, 1) := by decide +kernel
theorem d7_1 : decode jdk_32_method_4_code 1 = .ok (.ifnonnull 9, 3) := by decide +kernel
theorem d7_4 : decode jdk_32_method_4_code 4 = .ok (.getstatic 1, 3) := by decide +kernel
theorem d7_7 : decode jdk_32_method_4_code 7 = .ok (.goto 11, 3) := by decide +kernel
theorem d7_18 : decode jdk_32_method_4_code 18 = .ok (.areturn, 1) := by decide +kernel
set_option maxRecDepth 65536 in
set_option maxHeartbeats 40000000 in
theorem rmOf0 (l : Launch) (Z : State) (a0 : Array Value) (hw : ∀ d ∈ tables_1, d.before a0 Z = true) (ws : List Jvm.Cond) (w_EMPTY : Addr) (h0 : Heap) (O0 : Ext Z.heap h0) (S_EMPTY : Sta Z Z.heap "java/util/Optional" "EMPTY" "Ljava/util/Optional;" (.ref w_EMPTY)) :
    MetFree l (⟨"java/util/Optional", "ofNullable", "(Ljava/lang/Object;)Ljava/util/Optional;"⟩ : MethodName) (head1 (Jvm.Cond.code (⟨"java/util/Optional", "ofNullable", "(Ljava/lang/Object;)Ljava/util/Optional;"⟩ : MethodName) jdk_32_method_4_code 1 (some (.object "java/util/Optional")) :: ws) ({ frames := 0, cells := 0, slots := 0, locals := 0 } : Room)) (fun av' U => av' = #[.null] ∧ Z.Warmed39 U.vm ∧ U.heap = h0) (fun _ _ _ _ _ => True) (fun _ U o U' => ∃ v L, o = .returned v ∧ Q_rmOf0 Z w_EMPTY h0 v U'.heap L ∧ FrameEnd U o U' L ({ frames := 0, cells := 0, slots := 0, locals := 0 } : Room).cells ({ frames := 0, cells := 0, slots := 0, locals := 0 } : Room).slots) := by
  refine MetFree.of_bodySF (plainFor_of_name pn_java_util_Optional) hisR ?_
  intro p e s m args below meth c s₁ Bd hml0 hP hK
  obtain ⟨rfl, hZ, hh⟩ := hP
  have hx := Bd.exec
  have hby := Bd.bytes
  have hret := Bd.returns
  have hlk : meth.locks = false := Bd.notSynchronized
  have hml : c.maxLocals = 1 := hml0
  have hown : s.vm.findClass "java/util/Optional" = some m.cls := findClass_of_methodNamed Bd.named
  have hnm := (name_of_methodNamed Bd.named Bd.method).1
  have X0 : Stand p l e ({ frames := 0, cells := 0, slots := 0, locals := 0 } : Room) s m #[.null] below meth c s₁ [] 0 0 := Stand.of_body Bd
  -- the walk
  have e0 : s₁.heap = h0 := by rw [← hh, Bd.state]; rfl
  have N0 := Fr.nil Z.heap.size
  show Go p e below (GO s (Q_rmOf0 Z w_EMPTY h0) ({ frames := 0, cells := 0, slots := 0, locals := 0 } : Room).cells ({ frames := 0, cells := 0, slots := 0, locals := 0 } : Room).slots) (s₁.setTop (entryFrame m #[.null] 1))
  refine Go.st (fun t' k' => castTop (ef_rmOf0 m ) k') ?_
  show Go p e below _ (s₁.setTop (mkF m 0 #[.val .null] []))
  refine Go.st (fun t' k' => XS.aloadN X0.here hx rfl (hb hby d7_0) rfl rfl k') ?_
  show Go p e below _ (s₁.setTop (mkF m 1 #[.val .null] [.null]))
  refine Go.st (fun t' k' => XS.ifnonnullNo X0.here hx rfl (hb hby d7_1) rfl k') ?_
  show Go p e below _ (s₁.setTop (mkF m 4 #[.val .null] []))
  obtain ⟨T101, X101, e101, st101⟩ := getS2 X0 hx hZ hown (host := "") (Or.inl (hw _ (List.mem_of_getElem? (i := 52) rfl))) Via.refl e0 (S_EMPTY.ext O0) (g := (mkF m 4 #[.val .null] [])) rfl (hb hby d7_4)
  refine Go.st st101 ?_
  show Go p e below _ (T101.setTop (mkF m 7 #[.val .null] [(.ref w_EMPTY)]))
  refine Go.st (fun t' k' => XS.goto X101.here hx rfl (pc0 := 7) (pc' := 18) rfl (hb hby d7_7) (by decide) (by decide) k') ?_
  show Go p e below _ (T101.setTop (mkF m 18 #[.val .null] [(.ref w_EMPTY)]))
  exact Go.outR X101 hx hlk hret rfl rfl (hb hby d7_18) (Q := Q_rmOf0 Z w_EMPTY h0) (by rw [e101]; exact ⟨rfl, rfl, rfl⟩) (by decide) (by decide)
theorem ef_rmOpI (m : MethodId) (x0 : Addr) (x1 : Addr) : entryFrame m #[(.ref x0), (.ref x1)] 2 = mkF m 0 #[.val (.ref x0), .val (.ref x1)] [] := by first | (simp [entryFrame, mkF, argsToLocals, Value.category]; done) | rfl
def Q_rmOpI (Z : State) (a : Addr) (t : Addr) (h0 : Heap) (v : Option Value) (h : Heap) (L : List Loc) : Prop := v = none ∧ Fr Z.heap.size L ∧ Ext Z.heap h ∧ Keep h0 h [a] ∧ Fld Z h a "java/util/Optional" "value" "Ljava/lang/Object;" (.ref t)
theorem d10_0 : decode jdk_32_method_2_code 0 = .ok (.aload_n 0, 1) := by decide +kernel
theorem d10_1 : decode jdk_32_method_2_code 1 = .ok (.invokespecial 7, 3) := by decide +kernel
theorem d10_4 : decode jdk_32_method_2_code 4 = .ok (.aload_n 0, 1) := by decide +kernel
theorem d10_5 : decode jdk_32_method_2_code 5 = .ok (.aload_n 1, 1) := by decide +kernel
theorem d10_6 : decode jdk_32_method_2_code 6 = .ok (.putfield 13, 3) := by decide +kernel
theorem d10_9 : decode jdk_32_method_2_code 9 = .ok (.return_, 1) := by decide +kernel
set_option maxRecDepth 65536 in
set_option maxHeartbeats 40000000 in
theorem rmOpI (l : Launch) (Z : State) (a0 : Array Value) (hw : ∀ d ∈ tables_1, d.before a0 Z = true) (ws : List Jvm.Cond) (a : Addr) (t : Addr) (h0 : Heap) (O0 : Ext Z.heap h0) (Ea : Exa Z h0 a "java/util/Optional") (Ga : Z.heap.size ≤ a) (Fv : Fld Z h0 a "java/util/Optional" "value" "Ljava/lang/Object;" .null) :
    MetFree l (⟨"java/util/Optional", "<init>", "(Ljava/lang/Object;)V"⟩ : MethodName) (head1 (Jvm.Cond.code (⟨"java/util/Optional", "<init>", "(Ljava/lang/Object;)V"⟩ : MethodName) jdk_32_method_2_code 2 none :: ws) ({ frames := 1, cells := 0, slots := 0, locals := 12 } : Room)) (fun av' U => av' = #[(.ref a), (.ref t)] ∧ Z.Warmed39 U.vm ∧ U.heap = h0) (fun _ _ _ _ _ => True) (fun _ U o U' => ∃ v L, o = .returned v ∧ Q_rmOpI Z a t h0 v U'.heap L ∧ FrameEnd U o U' L ({ frames := 1, cells := 0, slots := 0, locals := 12 } : Room).cells ({ frames := 1, cells := 0, slots := 0, locals := 12 } : Room).slots) := by
  refine MetFree.of_bodySF (plainFor_of_name pn_java_util_Optional) hisR ?_
  intro p e s m args below meth c s₁ Bd hml0 hP hK
  obtain ⟨rfl, hZ, hh⟩ := hP
  have hx := Bd.exec
  have hby := Bd.bytes
  have hret := Bd.returns
  have hlk : meth.locks = false := Bd.notSynchronized
  have hml : c.maxLocals = 2 := hml0
  have hown : s.vm.findClass "java/util/Optional" = some m.cls := findClass_of_methodNamed Bd.named
  have hnm := (name_of_methodNamed Bd.named Bd.method).1
  have X0 : Stand p l e ({ frames := 1, cells := 0, slots := 0, locals := 12 } : Room) s m #[(.ref a), (.ref t)] below meth c s₁ [] 0 0 := Stand.of_body Bd
  -- the walk
  have e0 : s₁.heap = h0 := by rw [← hh, Bd.state]; rfl
  have N0 := Fr.nil Z.heap.size
  have K0 := Keep.refl h0 [a]
  show Go p e below (GO s (Q_rmOpI Z a t h0) ({ frames := 1, cells := 0, slots := 0, locals := 12 } : Room).cells ({ frames := 1, cells := 0, slots := 0, locals := 12 } : Room).slots) (s₁.setTop (entryFrame m #[(.ref a), (.ref t)] 2))
  refine Go.st (fun t' k' => castTop (ef_rmOpI m a t) k') ?_
  show Go p e below _ (s₁.setTop (mkF m 0 #[.val (.ref a), .val (.ref t)] []))
  refine Go.st (fun t' k' => XS.aloadN X0.here hx rfl (hb hby d10_0) rfl rfl k') ?_
  show Go p e below _ (s₁.setTop (mkF m 1 #[.val (.ref a), .val (.ref t)] [(.ref a)]))
  obtain ⟨T101, X101, e101, st101⟩ := initO X0 hx hZ hown (hw _ (List.mem_of_getElem? (i := 71) rfl)) (hw _ (List.mem_of_getElem? (i := 32) rfl)) (hw _ (List.mem_of_getElem? (i := 33) rfl)) e0 (g := (mkF m 1 #[.val (.ref a), .val (.ref t)] [(.ref a)])) rfl (by rw [hml]; rfl) rfl (hb hby d10_1) (by decide) (W := 0) (by show 2 * 0 + _ ≤ _; exact Nat.le_of_eq rfl) (by decide)
  refine Go.st st101 ?_
  show Go p e below _ (T101.setTop (mkF m 4 #[.val (.ref a), .val (.ref t)] []))
  refine Go.st (fun t' k' => XS.aloadN X101.here hx rfl (hb hby d10_4) rfl rfl k') ?_
  show Go p e below _ (T101.setTop (mkF m 5 #[.val (.ref a), .val (.ref t)] [(.ref a)]))
  refine Go.st (fun t' k' => XS.aloadN X101.here hx rfl (hb hby d10_5) rfl rfl k') ?_
  show Go p e below _ (T101.setTop (mkF m 6 #[.val (.ref a), .val (.ref t)] [(.ref t), (.ref a)]))
  obtain ⟨T102, h102, X102, e102, W102, st102⟩ := putF X101 hx hZ hown (host := "") (Or.inl (hw _ (List.mem_of_getElem? (i := 58) rfl))) Via.refl e101 Fv Ea (Or.inr ⟨(hw _ (List.mem_of_getElem? (i := 59) rfl)), rfl, hnm⟩) (hw _ (List.mem_of_getElem? (i := 66) rfl)) (ty := (.object "java/lang/Object")) (by decide) rfl rfl (g := (mkF m 6 #[.val (.ref a), .val (.ref t)] [(.ref t), (.ref a)])) rfl rfl (hb hby d10_6)
  refine Go.st st102 ?_
  have Fw102 : Fld Z h102 a "java/util/Optional" "value" "Ljava/lang/Object;" (.ref t) := Fv.same W102
  have Ea_h103 := Ea.wr W102
  have O102 := own_ext_wr O0 W102 Ga
  have K102 := K0.wr W102 (Or.inl (List.mem_of_getElem? (i := 0) rfl))
  have N102 := Fr.snoc X102 N0 Ga
  show Go p e below _ (T102.setTop (mkF m 9 #[.val (.ref a), .val (.ref t)] []))
  exact Go.outU X102 hx hlk hret (hb hby d10_9) (Q := Q_rmOpI Z a t h0) (by rw [e102]; exact ⟨rfl, N102, O102, K102, Fw102⟩) (by decide) (by decide)
theorem ef_rmOf1 (m : MethodId) (x0 : Addr) : entryFrame m #[(.ref x0)] 1 = mkF m 0 #[.val (.ref x0)] [] := by first | (simp [entryFrame, mkF, argsToLocals, Value.category]; done) | rfl
def Q_rmOf1 (Z : State) (t : Addr) (h0 : Heap) (v : Option Value) (h : Heap) (L : List Loc) : Prop := ∃ b : Addr, v = some (.ref b) ∧ Fr Z.heap.size L ∧ Ext Z.heap h ∧ Keep h0 h [] ∧ Exa Z h b "java/util/Optional" ∧ Fld Z h b "java/util/Optional" "value" "Ljava/lang/Object;" (.ref t) ∧ Z.heap.size ≤ b ∧ (h0.size ≤ b)
theorem d7_10 : decode jdk_32_method_4_code 10 = .ok (.new 2, 3) := by decide +kernel
theorem d7_13 : decode jdk_32_method_4_code 13 = .ok (.dup, 1) := by decide +kernel
theorem d7_14 : decode jdk_32_method_4_code 14 = .ok (.aload_n 0, 1) := by decide +kernel
theorem d7_15 : decode jdk_32_method_4_code 15 = .ok (.invokespecial 23, 3) := by decide +kernel
theorem pd__Ljava_lang_Object__V : parseMethodDescriptor "(Ljava/lang/Object;)V" = some ⟨[(.object "java/lang/Object")], none⟩ := by decide +kernel
set_option maxRecDepth 65536 in
set_option maxHeartbeats 40000000 in
theorem rmOf1 (l : Launch) (Z : State) (a0 : Array Value) (hw : ∀ d ∈ tables_1, d.before a0 Z = true) (ws : List Jvm.Cond) (t : Addr) (h0 : Heap) (O0 : Ext Z.heap h0) :
    MetFree l (⟨"java/util/Optional", "ofNullable", "(Ljava/lang/Object;)Ljava/util/Optional;"⟩ : MethodName) (head1 (Jvm.Cond.code (⟨"java/util/Optional", "ofNullable", "(Ljava/lang/Object;)Ljava/util/Optional;"⟩ : MethodName) jdk_32_method_4_code 1 (some (.object "java/util/Optional")) :: ws) ({ frames := 2, cells := 1, slots := 1, locals := 28 } : Room)) (fun av' U => av' = #[(.ref t)] ∧ Z.Warmed39 U.vm ∧ U.heap = h0) (fun _ _ _ _ _ => True) (fun _ U o U' => ∃ v L, o = .returned v ∧ Q_rmOf1 Z t h0 v U'.heap L ∧ FrameEnd U o U' L ({ frames := 2, cells := 1, slots := 1, locals := 28 } : Room).cells ({ frames := 2, cells := 1, slots := 1, locals := 28 } : Room).slots) := by
  refine MetFree.of_bodySF (plainFor_of_name pn_java_util_Optional) hisR ?_
  intro p e s m args below meth c s₁ Bd hml0 hP hK
  obtain ⟨rfl, hZ, hh⟩ := hP
  have hx := Bd.exec
  have hby := Bd.bytes
  have hret := Bd.returns
  have hlk : meth.locks = false := Bd.notSynchronized
  have hml : c.maxLocals = 1 := hml0
  have hown : s.vm.findClass "java/util/Optional" = some m.cls := findClass_of_methodNamed Bd.named
  have hnm := (name_of_methodNamed Bd.named Bd.method).1
  have X0 : Stand p l e ({ frames := 2, cells := 1, slots := 1, locals := 28 } : Room) s m #[(.ref t)] below meth c s₁ [] 0 0 := Stand.of_body Bd
  -- the walk
  have e0 : s₁.heap = h0 := by rw [← hh, Bd.state]; rfl
  have N0 := Fr.nil Z.heap.size
  have K0 := Keep.refl h0 []
  show Go p e below (GO s (Q_rmOf1 Z t h0) ({ frames := 2, cells := 1, slots := 1, locals := 28 } : Room).cells ({ frames := 2, cells := 1, slots := 1, locals := 28 } : Room).slots) (s₁.setTop (entryFrame m #[(.ref t)] 1))
  refine Go.st (fun t' k' => castTop (ef_rmOf1 m t) k') ?_
  show Go p e below _ (s₁.setTop (mkF m 0 #[.val (.ref t)] []))
  refine Go.st (fun t' k' => XS.aloadN X0.here hx rfl (hb hby d7_0) rfl rfl k') ?_
  show Go p e below _ (s₁.setTop (mkF m 1 #[.val (.ref t)] [(.ref t)]))
  refine Go.st (fun t' k' => XS.ifnonnullYes X0.here hx rfl (pc0 := 1) (pc' := 10) rfl (hb hby d7_1) rfl (by decide) (by decide) k') ?_
  show Go p e below _ (s₁.setTop (mkF m 10 #[.val (.ref t)] []))
  obtain ⟨T101, h101, X101, e101, E101, A101, D101, -, st101⟩ := newO X0 hx hZ hown (hw _ (List.mem_of_getElem? (i := 65) rfl)) (hw _ (List.mem_of_getElem? (i := 66) rfl)) (hw _ (List.mem_of_getElem? (i := 50) rfl)) e0 (g := (mkF m 10 #[.val (.ref t)] [])) rfl (hb hby d7_10) (by decide) (by decide)
  obtain ⟨b101, g101⟩ : ∃ z, z = h0.size := ⟨_, rfl⟩
  rw [← g101] at A101 D101 st101
  refine Go.st st101 ?_
  have g_b101 : Z.heap.size ≤ b101 := Nat.le_trans O0.1 (Nat.le_of_eq g101.symm)
  have sz_b101 : h0.size ≤ b101 := Nat.le_trans K0.1 (Nat.le_of_eq g101.symm)
  have O101 := own_ext_trans O0 E101
  have K101 := K0.ext E101
  have F_value_b101 : Fld Z h101 b101 "java/util/Optional" "value" "Ljava/lang/Object;" .null := D101 (Or.inr (hw _ (List.mem_of_getElem? (i := 59) rfl))) (ty := (.object "java/lang/Object")) (by decide)
  show Go p e below _ (T101.setTop (mkF m 13 #[.val (.ref t)] [(.ref b101)]))
  refine Go.st (fun t' k' => XS.dup X101.here hx rfl (hb hby d7_13) rfl rfl k') ?_
  show Go p e below _ (T101.setTop (mkF m 14 #[.val (.ref t)] [(.ref b101), (.ref b101)]))
  refine Go.st (fun t' k' => XS.aloadN X101.here hx rfl (hb hby d7_14) rfl rfl k') ?_
  show Go p e below _ (T101.setTop (mkF m 15 #[.val (.ref t)] [(.ref t), (.ref b101), (.ref b101)]))
  obtain ⟨_, _, ⟨T103, L103, k103, n103⟩, -, X103, ⟨Lc103, hQ103, l103, y103, z103⟩, st103⟩ := X101.specialBack hx (y := (⟨"java/util/Optional", "<init>", "(Ljava/lang/Object;)V"⟩ : MethodName)) rfl hown (mvT hZ (hw _ (List.mem_of_getElem? (i := 67) rfl))) (mvT hZ (hw _ (List.mem_of_getElem? (i := 68) rfl))) (mvT hZ (hw _ (List.mem_of_getElem? (i := 70) rfl))) (by decide) (backOf (W := 1) (rmOpI l Z a0 hw [] b101 t h101 O101 A101 g_b101 F_value_b101) hZ (hw _ (List.mem_of_getElem? (i := 70) rfl)) (hw _ (List.mem_of_getElem? (i := 50) rfl)) (by decide) (by decide)) (g := (mkF m 15 #[.val (.ref t)] [(.ref t), (.ref b101), (.ref b101)])) rfl (by rw [hml]; rfl) (Steps.refl _) (a := b101) (argsL := [(.ref t)]) (rest := [(.ref b101)]) (lenOf pd__Ljava_lang_Object__V rfl) rfl (by show 2 * 0 + _ ≤ _; exact Nat.le_of_eq rfl) (hb hby d7_15) (fun _ _ => ⟨rfl, e101, (by decide : 1 + 0 ≤ _), (by decide : 1 + 0 ≤ _)⟩)
  dsimp only [Pt.U, Pt.locs, Pt.cells, Pt.slots] at X103 l103 y103 z103 st103 hQ103
  subst y103 z103
  obtain ⟨rfl, N103q, O103, Kc103, Pv_103⟩ := hQ103
  have N103 : Fr Z.heap.size L103 := by rw [l103]; exact Fr.app N0 N103q
  refine Go.tr st103 ?_
  have A101_h104 := A101.keep Kc103
  have K103 := K101.trans Kc103 (allS (Or.inr sz_b101) all0)
  show Go p e below _ (T103.setTop (mkF m 18 #[.val (.ref t)] [(.ref b101)]))
  exact Go.outR X103 hx hlk hret rfl rfl (hb hby d7_18) (Q := Q_rmOf1 Z t h0) (⟨b101, rfl, N103, O103, K103, A101_h104, Pv_103, g_b101, sz_b101⟩) (by decide) (by decide)
theorem ef_rmIs0 (m : MethodId) (x0 : Addr) : entryFrame m #[(.ref x0)] 1 = mkF m 0 #[.val (.ref x0)] [] := by first | (simp [entryFrame, mkF, argsToLocals, Value.category]; done) | rfl
def Q_rmIs0 (Z : State) (a : Addr) (h0 : Heap) (v : Option Value) (h : Heap) (L : List Loc) : Prop := v = some (.int (0 : Int32)) ∧ L = [] ∧ h = h0
theorem d8_0 : decode jdk_32_method_6_code 0 = .ok (.aload_n 0, 1) := by decide +kernel
theorem d8_1 : decode jdk_32_method_6_code 1 = .ok (.getfield 13, 3) := by decide +kernel
theorem d8_4 : decode jdk_32_method_6_code 4 = .ok (.ifnull 7, 3) := by decide +kernel
theorem d8_11 : decode jdk_32_method_6_code 11 = .ok (.iconst 0, 1) := by decide +kernel
theorem d8_12 : decode jdk_32_method_6_code 12 = .ok (.ireturn, 1) := by decide +kernel
set_option maxRecDepth 65536 in
set_option maxHeartbeats 40000000 in
theorem rmIs0 (l : Launch) (Z : State) (a0 : Array Value) (hw : ∀ d ∈ tables_1, d.before a0 Z = true) (ws : List Jvm.Cond) (a : Addr) (h0 : Heap) (O0 : Ext Z.heap h0) (Fv : Fld Z h0 a "java/util/Optional" "value" "Ljava/lang/Object;" .null) :
    MetFree l (⟨"java/util/Optional", "isPresent", "()Z"⟩ : MethodName) (head1 (Jvm.Cond.code (⟨"java/util/Optional", "isPresent", "()Z"⟩ : MethodName) jdk_32_method_6_code 1 (some .boolean) :: ws) ({ frames := 0, cells := 0, slots := 0, locals := 0 } : Room)) (fun av' U => av' = #[(.ref a)] ∧ Z.Warmed39 U.vm ∧ U.heap = h0) (fun _ _ _ _ _ => True) (fun _ U o U' => ∃ v L, o = .returned v ∧ Q_rmIs0 Z a h0 v U'.heap L ∧ FrameEnd U o U' L ({ frames := 0, cells := 0, slots := 0, locals := 0 } : Room).cells ({ frames := 0, cells := 0, slots := 0, locals := 0 } : Room).slots) := by
  refine MetFree.of_bodySF (plainFor_of_name pn_java_util_Optional) hisR ?_
  intro p e s m args below meth c s₁ Bd hml0 hP hK
  obtain ⟨rfl, hZ, hh⟩ := hP
  have hx := Bd.exec
  have hby := Bd.bytes
  have hret := Bd.returns
  have hlk : meth.locks = false := Bd.notSynchronized
  have hml : c.maxLocals = 1 := hml0
  have hown : s.vm.findClass "java/util/Optional" = some m.cls := findClass_of_methodNamed Bd.named
  have hnm := (name_of_methodNamed Bd.named Bd.method).1
  have X0 : Stand p l e ({ frames := 0, cells := 0, slots := 0, locals := 0 } : Room) s m #[(.ref a)] below meth c s₁ [] 0 0 := Stand.of_body Bd
  -- the walk
  have e0 : s₁.heap = h0 := by rw [← hh, Bd.state]; rfl
  have N0 := Fr.nil Z.heap.size
  show Go p e below (GO s (Q_rmIs0 Z a h0) ({ frames := 0, cells := 0, slots := 0, locals := 0 } : Room).cells ({ frames := 0, cells := 0, slots := 0, locals := 0 } : Room).slots) (s₁.setTop (entryFrame m #[(.ref a)] 1))
  refine Go.st (fun t' k' => castTop (ef_rmIs0 m a) k') ?_
  show Go p e below _ (s₁.setTop (mkF m 0 #[.val (.ref a)] []))
  refine Go.st (fun t' k' => XS.aloadN X0.here hx rfl (hb hby d8_0) rfl rfl k') ?_
  show Go p e below _ (s₁.setTop (mkF m 1 #[.val (.ref a)] [(.ref a)]))
  obtain ⟨T101, X101, e101, st101⟩ := getF X0 hx hZ hown (host := "") (Or.inl (hw _ (List.mem_of_getElem? (i := 58) rfl))) Via.refl e0 Fv (g := (mkF m 1 #[.val (.ref a)] [(.ref a)])) rfl rfl (hb hby d8_1)
  refine Go.st st101 ?_
  show Go p e below _ (T101.setTop (mkF m 4 #[.val (.ref a)] [.null]))
  refine Go.st (fun t' k' => XS.ifnullYes X101.here hx rfl (pc0 := 4) (pc' := 11) rfl (hb hby d8_4) rfl (by decide) (by decide) k') ?_
  show Go p e below _ (T101.setTop (mkF m 11 #[.val (.ref a)] []))
  refine Go.st (fun t' k' => XS.iconst X101.here hx rfl (hb hby d8_11) k') ?_
  show Go p e below _ (T101.setTop (mkF m 12 #[.val (.ref a)] [(.int (0 : Int32))]))
  exact Go.outN X101 hx hlk (t := .boolean) hret (by simp) (hb hby d8_12) (Q := Q_rmIs0 Z a h0) (by rw [e101]; exact ⟨rfl, rfl, rfl⟩) (by decide) (by decide)
theorem ef_rmIs1 (m : MethodId) (x0 : Addr) : entryFrame m #[(.ref x0)] 1 = mkF m 0 #[.val (.ref x0)] [] := by first | (simp [entryFrame, mkF, argsToLocals, Value.category]; done) | rfl
def Q_rmIs1 (Z : State) (a : Addr) (t : Addr) (h0 : Heap) (v : Option Value) (h : Heap) (L : List Loc) : Prop := v = some (.int (1 : Int32)) ∧ L = [] ∧ h = h0
theorem d8_7 : decode jdk_32_method_6_code 7 = .ok (.iconst 1, 1) := by decide +kernel
theorem d8_8 : decode jdk_32_method_6_code 8 = .ok (.goto 4, 3) := by decide +kernel
set_option maxRecDepth 65536 in
set_option maxHeartbeats 40000000 in
theorem rmIs1 (l : Launch) (Z : State) (a0 : Array Value) (hw : ∀ d ∈ tables_1, d.before a0 Z = true) (ws : List Jvm.Cond) (a : Addr) (t : Addr) (h0 : Heap) (O0 : Ext Z.heap h0) (Fv : Fld Z h0 a "java/util/Optional" "value" "Ljava/lang/Object;" (.ref t)) :
    MetFree l (⟨"java/util/Optional", "isPresent", "()Z"⟩ : MethodName) (head1 (Jvm.Cond.code (⟨"java/util/Optional", "isPresent", "()Z"⟩ : MethodName) jdk_32_method_6_code 1 (some .boolean) :: ws) ({ frames := 0, cells := 0, slots := 0, locals := 0 } : Room)) (fun av' U => av' = #[(.ref a)] ∧ Z.Warmed39 U.vm ∧ U.heap = h0) (fun _ _ _ _ _ => True) (fun _ U o U' => ∃ v L, o = .returned v ∧ Q_rmIs1 Z a t h0 v U'.heap L ∧ FrameEnd U o U' L ({ frames := 0, cells := 0, slots := 0, locals := 0 } : Room).cells ({ frames := 0, cells := 0, slots := 0, locals := 0 } : Room).slots) := by
  refine MetFree.of_bodySF (plainFor_of_name pn_java_util_Optional) hisR ?_
  intro p e s m args below meth c s₁ Bd hml0 hP hK
  obtain ⟨rfl, hZ, hh⟩ := hP
  have hx := Bd.exec
  have hby := Bd.bytes
  have hret := Bd.returns
  have hlk : meth.locks = false := Bd.notSynchronized
  have hml : c.maxLocals = 1 := hml0
  have hown : s.vm.findClass "java/util/Optional" = some m.cls := findClass_of_methodNamed Bd.named
  have hnm := (name_of_methodNamed Bd.named Bd.method).1
  have X0 : Stand p l e ({ frames := 0, cells := 0, slots := 0, locals := 0 } : Room) s m #[(.ref a)] below meth c s₁ [] 0 0 := Stand.of_body Bd
  -- the walk
  have e0 : s₁.heap = h0 := by rw [← hh, Bd.state]; rfl
  have N0 := Fr.nil Z.heap.size
  show Go p e below (GO s (Q_rmIs1 Z a t h0) ({ frames := 0, cells := 0, slots := 0, locals := 0 } : Room).cells ({ frames := 0, cells := 0, slots := 0, locals := 0 } : Room).slots) (s₁.setTop (entryFrame m #[(.ref a)] 1))
  refine Go.st (fun t' k' => castTop (ef_rmIs1 m a) k') ?_
  show Go p e below _ (s₁.setTop (mkF m 0 #[.val (.ref a)] []))
  refine Go.st (fun t' k' => XS.aloadN X0.here hx rfl (hb hby d8_0) rfl rfl k') ?_
  show Go p e below _ (s₁.setTop (mkF m 1 #[.val (.ref a)] [(.ref a)]))
  obtain ⟨T101, X101, e101, st101⟩ := getF X0 hx hZ hown (host := "") (Or.inl (hw _ (List.mem_of_getElem? (i := 58) rfl))) Via.refl e0 Fv (g := (mkF m 1 #[.val (.ref a)] [(.ref a)])) rfl rfl (hb hby d8_1)
  refine Go.st st101 ?_
  show Go p e below _ (T101.setTop (mkF m 4 #[.val (.ref a)] [(.ref t)]))
  refine Go.st (fun t' k' => XS.ifnullNo X101.here hx rfl (hb hby d8_4) rfl k') ?_
  show Go p e below _ (T101.setTop (mkF m 7 #[.val (.ref a)] []))
  refine Go.st (fun t' k' => XS.iconst X101.here hx rfl (hb hby d8_7) k') ?_
  show Go p e below _ (T101.setTop (mkF m 8 #[.val (.ref a)] [(.int (1 : Int32))]))
  refine Go.st (fun t' k' => XS.goto X101.here hx rfl (pc0 := 8) (pc' := 12) rfl (hb hby d8_8) (by decide) (by decide) k') ?_
  show Go p e below _ (T101.setTop (mkF m 12 #[.val (.ref a)] [(.int (1 : Int32))]))
  exact Go.outN X101 hx hlk (t := .boolean) hret (by simp) (hb hby d8_12) (Q := Q_rmIs1 Z a t h0) (by rw [e101]; exact ⟨rfl, rfl, rfl⟩) (by decide) (by decide)
theorem ef_rmEm1 (m : MethodId) (x0 : Addr) : entryFrame m #[(.ref x0)] 1 = mkF m 0 #[.val (.ref x0)] [] := by first | (simp [entryFrame, mkF, argsToLocals, Value.category]; done) | rfl
def Q_rmEm1 (Z : State) (a : Addr) (t : Addr) (h0 : Heap) (v : Option Value) (h : Heap) (L : List Loc) : Prop := v = some (.int (0 : Int32)) ∧ L = [] ∧ h = h0
theorem d13_0 : decode jdk_32_method_7_code 0 = .ok (.aload_n 0, 1) := by decide +kernel
theorem d13_1 : decode jdk_32_method_7_code 1 = .ok (.getfield 13, 3) := by decide +kernel
theorem d13_4 : decode jdk_32_method_7_code 4 = .ok (.ifnonnull 7, 3) := by decide +kernel
theorem d13_11 : decode jdk_32_method_7_code 11 = .ok (.iconst 0, 1) := by decide +kernel
theorem d13_12 : decode jdk_32_method_7_code 12 = .ok (.ireturn, 1) := by decide +kernel
set_option maxRecDepth 65536 in
set_option maxHeartbeats 40000000 in
theorem rmEm1 (l : Launch) (Z : State) (a0 : Array Value) (hw : ∀ d ∈ tables_1, d.before a0 Z = true) (ws : List Jvm.Cond) (a : Addr) (t : Addr) (h0 : Heap) (O0 : Ext Z.heap h0) (Fv : Fld Z h0 a "java/util/Optional" "value" "Ljava/lang/Object;" (.ref t)) :
    MetFree l (⟨"java/util/Optional", "isEmpty", "()Z"⟩ : MethodName) (head1 (Jvm.Cond.code (⟨"java/util/Optional", "isEmpty", "()Z"⟩ : MethodName) jdk_32_method_7_code 1 (some .boolean) :: ws) ({ frames := 0, cells := 0, slots := 0, locals := 0 } : Room)) (fun av' U => av' = #[(.ref a)] ∧ Z.Warmed39 U.vm ∧ U.heap = h0) (fun _ _ _ _ _ => True) (fun _ U o U' => ∃ v L, o = .returned v ∧ Q_rmEm1 Z a t h0 v U'.heap L ∧ FrameEnd U o U' L ({ frames := 0, cells := 0, slots := 0, locals := 0 } : Room).cells ({ frames := 0, cells := 0, slots := 0, locals := 0 } : Room).slots) := by
  refine MetFree.of_bodySF (plainFor_of_name pn_java_util_Optional) hisR ?_
  intro p e s m args below meth c s₁ Bd hml0 hP hK
  obtain ⟨rfl, hZ, hh⟩ := hP
  have hx := Bd.exec
  have hby := Bd.bytes
  have hret := Bd.returns
  have hlk : meth.locks = false := Bd.notSynchronized
  have hml : c.maxLocals = 1 := hml0
  have hown : s.vm.findClass "java/util/Optional" = some m.cls := findClass_of_methodNamed Bd.named
  have hnm := (name_of_methodNamed Bd.named Bd.method).1
  have X0 : Stand p l e ({ frames := 0, cells := 0, slots := 0, locals := 0 } : Room) s m #[(.ref a)] below meth c s₁ [] 0 0 := Stand.of_body Bd
  -- the walk
  have e0 : s₁.heap = h0 := by rw [← hh, Bd.state]; rfl
  have N0 := Fr.nil Z.heap.size
  show Go p e below (GO s (Q_rmEm1 Z a t h0) ({ frames := 0, cells := 0, slots := 0, locals := 0 } : Room).cells ({ frames := 0, cells := 0, slots := 0, locals := 0 } : Room).slots) (s₁.setTop (entryFrame m #[(.ref a)] 1))
  refine Go.st (fun t' k' => castTop (ef_rmEm1 m a) k') ?_
  show Go p e below _ (s₁.setTop (mkF m 0 #[.val (.ref a)] []))
  refine Go.st (fun t' k' => XS.aloadN X0.here hx rfl (hb hby d13_0) rfl rfl k') ?_
  show Go p e below _ (s₁.setTop (mkF m 1 #[.val (.ref a)] [(.ref a)]))
  obtain ⟨T101, X101, e101, st101⟩ := getF X0 hx hZ hown (host := "") (Or.inl (hw _ (List.mem_of_getElem? (i := 58) rfl))) Via.refl e0 Fv (g := (mkF m 1 #[.val (.ref a)] [(.ref a)])) rfl rfl (hb hby d13_1)
  refine Go.st st101 ?_
  show Go p e below _ (T101.setTop (mkF m 4 #[.val (.ref a)] [(.ref t)]))
  refine Go.st (fun t' k' => XS.ifnonnullYes X101.here hx rfl (pc0 := 4) (pc' := 11) rfl (hb hby d13_4) rfl (by decide) (by decide) k') ?_
  show Go p e below _ (T101.setTop (mkF m 11 #[.val (.ref a)] []))
  refine Go.st (fun t' k' => XS.iconst X101.here hx rfl (hb hby d13_11) k') ?_
  show Go p e below _ (T101.setTop (mkF m 12 #[.val (.ref a)] [(.int (0 : Int32))]))
  exact Go.outN X101 hx hlk (t := .boolean) hret (by simp) (hb hby d13_12) (Q := Q_rmEm1 Z a t h0) (by rw [e101]; exact ⟨rfl, rfl, rfl⟩) (by decide) (by decide)
theorem ef_rmGet (m : MethodId) (x0 : Addr) : entryFrame m #[(.ref x0)] 1 = mkF m 0 #[.val (.ref x0)] [] := by first | (simp [entryFrame, mkF, argsToLocals, Value.category]; done) | rfl
def Q_rmGet (Z : State) (a : Addr) (t : Addr) (h0 : Heap) (v : Option Value) (h : Heap) (L : List Loc) : Prop := v = some (.ref t) ∧ L = [] ∧ h = h0
theorem d15_0 : decode jdk_32_method_5_code 0 = .ok (.aload_n 0, 1) := by decide +kernel
theorem d15_1 : decode jdk_32_method_5_code 1 = .ok (.getfield 13, 3) := by decide +kernel
theorem d15_4 : decode jdk_32_method_5_code 4 = .ok (.ifnonnull 13, 3) := by decide +kernel
theorem d15_17 : decode jdk_32_method_5_code 17 = .ok (.aload_n 0, 1) := by decide +kernel
theorem d15_18 : decode jdk_32_method_5_code 18 = .ok (.getfield 13, 3) := by decide +kernel
theorem d15_21 : decode jdk_32_method_5_code 21 = .ok (.areturn, 1) := by decide +kernel
set_option maxRecDepth 65536 in
set_option maxHeartbeats 40000000 in
theorem rmGet (l : Launch) (Z : State) (a0 : Array Value) (hw : ∀ d ∈ tables_1, d.before a0 Z = true) (ws : List Jvm.Cond) (a : Addr) (t : Addr) (h0 : Heap) (O0 : Ext Z.heap h0) (Fv : Fld Z h0 a "java/util/Optional" "value" "Ljava/lang/Object;" (.ref t)) :
    MetFree l (⟨"java/util/Optional", "get", "()Ljava/lang/Object;"⟩ : MethodName) (head1 (Jvm.Cond.code (⟨"java/util/Optional", "get", "()Ljava/lang/Object;"⟩ : MethodName) jdk_32_method_5_code 1 (some (.object "java/lang/Object")) :: ws) ({ frames := 0, cells := 0, slots := 0, locals := 0 } : Room)) (fun av' U => av' = #[(.ref a)] ∧ Z.Warmed39 U.vm ∧ U.heap = h0) (fun _ _ _ _ _ => True) (fun _ U o U' => ∃ v L, o = .returned v ∧ Q_rmGet Z a t h0 v U'.heap L ∧ FrameEnd U o U' L ({ frames := 0, cells := 0, slots := 0, locals := 0 } : Room).cells ({ frames := 0, cells := 0, slots := 0, locals := 0 } : Room).slots) := by
  refine MetFree.of_bodySF (plainFor_of_name pn_java_util_Optional) hisR ?_
  intro p e s m args below meth c s₁ Bd hml0 hP hK
  obtain ⟨rfl, hZ, hh⟩ := hP
  have hx := Bd.exec
  have hby := Bd.bytes
  have hret := Bd.returns
  have hlk : meth.locks = false := Bd.notSynchronized
  have hml : c.maxLocals = 1 := hml0
  have hown : s.vm.findClass "java/util/Optional" = some m.cls := findClass_of_methodNamed Bd.named
  have hnm := (name_of_methodNamed Bd.named Bd.method).1
  have X0 : Stand p l e ({ frames := 0, cells := 0, slots := 0, locals := 0 } : Room) s m #[(.ref a)] below meth c s₁ [] 0 0 := Stand.of_body Bd
  -- the walk
  have e0 : s₁.heap = h0 := by rw [← hh, Bd.state]; rfl
  have N0 := Fr.nil Z.heap.size
  show Go p e below (GO s (Q_rmGet Z a t h0) ({ frames := 0, cells := 0, slots := 0, locals := 0 } : Room).cells ({ frames := 0, cells := 0, slots := 0, locals := 0 } : Room).slots) (s₁.setTop (entryFrame m #[(.ref a)] 1))
  refine Go.st (fun t' k' => castTop (ef_rmGet m a) k') ?_
  show Go p e below _ (s₁.setTop (mkF m 0 #[.val (.ref a)] []))
  refine Go.st (fun t' k' => XS.aloadN X0.here hx rfl (hb hby d15_0) rfl rfl k') ?_
  show Go p e below _ (s₁.setTop (mkF m 1 #[.val (.ref a)] [(.ref a)]))
  obtain ⟨T101, X101, e101, st101⟩ := getF X0 hx hZ hown (host := "") (Or.inl (hw _ (List.mem_of_getElem? (i := 58) rfl))) Via.refl e0 Fv (g := (mkF m 1 #[.val (.ref a)] [(.ref a)])) rfl rfl (hb hby d15_1)
  refine Go.st st101 ?_
  show Go p e below _ (T101.setTop (mkF m 4 #[.val (.ref a)] [(.ref t)]))
  refine Go.st (fun t' k' => XS.ifnonnullYes X101.here hx rfl (pc0 := 4) (pc' := 17) rfl (hb hby d15_4) rfl (by decide) (by decide) k') ?_
  show Go p e below _ (T101.setTop (mkF m 17 #[.val (.ref a)] []))
  refine Go.st (fun t' k' => XS.aloadN X101.here hx rfl (hb hby d15_17) rfl rfl k') ?_
  show Go p e below _ (T101.setTop (mkF m 18 #[.val (.ref a)] [(.ref a)]))
  obtain ⟨T102, X102, e102, st102⟩ := getF X101 hx hZ hown (host := "") (Or.inl (hw _ (List.mem_of_getElem? (i := 58) rfl))) Via.refl e101 Fv (g := (mkF m 18 #[.val (.ref a)] [(.ref a)])) rfl rfl (hb hby d15_18)
  refine Go.st st102 ?_
  show Go p e below _ (T102.setTop (mkF m 21 #[.val (.ref a)] [(.ref t)]))
  exact Go.outR X102 hx hlk hret rfl rfl (hb hby d15_21) (Q := Q_rmGet Z a t h0) (by rw [e102]; exact ⟨rfl, rfl, rfl⟩) (by decide) (by decide)
theorem ef_rmVI (m : MethodId) (x0 : Addr) (x1 : Addr) : entryFrame m #[(.ref x0), (.ref x1), .null] 3 = mkF m 0 #[.val (.ref x0), .val (.ref x1), .val .null] [] := by first | (simp [entryFrame, mkF, argsToLocals, Value.category]; done) | rfl
def Q_rmVI (Z : State) (a : Addr) (t : Addr) (h0 : Heap) (v : Option Value) (h : Heap) (L : List Loc) : Prop := v = none ∧ Fr Z.heap.size L ∧ Ext Z.heap h ∧ Keep h0 h [a] ∧ Fld Z h a "com/example/claim/claim/model/VerificationResult" "payload" "[B" (.ref t) ∧ Fld Z h a "com/example/claim/claim/model/VerificationResult" "refusal" "Lcom/example/claim/claim/model/Refusal;" .null
theorem pn_com_example_claim_claim_model_VerificationResult : plainName "com/example/claim/claim/model/VerificationResult" = true := by first | (simp [plainName, overriddenIn]; done) | decide +kernel
theorem d3_0 : decode prog_73_method_1_code 0 = .ok (.aload_n 0, 1) := by decide +kernel
theorem d3_1 : decode prog_73_method_1_code 1 = .ok (.invokespecial 1, 3) := by decide +kernel
theorem d3_4 : decode prog_73_method_1_code 4 = .ok (.aload_n 0, 1) := by decide +kernel
theorem d3_5 : decode prog_73_method_1_code 5 = .ok (.aload_n 1, 1) := by decide +kernel
theorem d3_6 : decode prog_73_method_1_code 6 = .ok (.putfield 7, 3) := by decide +kernel
theorem d3_9 : decode prog_73_method_1_code 9 = .ok (.aload_n 0, 1) := by decide +kernel
theorem d3_10 : decode prog_73_method_1_code 10 = .ok (.aload_n 2, 1) := by decide +kernel
theorem d3_11 : decode prog_73_method_1_code 11 = .ok (.putfield 13, 3) := by decide +kernel
theorem d3_14 : decode prog_73_method_1_code 14 = .ok (.return_, 1) := by decide +kernel
set_option maxRecDepth 65536 in
set_option maxHeartbeats 40000000 in
theorem rmVI (l : Launch) (Z : State) (a0 : Array Value) (hw : ∀ d ∈ tables_1, d.before a0 Z = true) (ws : List Jvm.Cond) (a : Addr) (t : Addr) (h0 : Heap) (O0 : Ext Z.heap h0) (Ea : Exa Z h0 a "com/example/claim/claim/model/VerificationResult") (Ga : Z.heap.size ≤ a) (Fp : Fld Z h0 a "com/example/claim/claim/model/VerificationResult" "payload" "[B" .null) (Fq : Fld Z h0 a "com/example/claim/claim/model/VerificationResult" "refusal" "Lcom/example/claim/claim/model/Refusal;" .null) :
    MetFree l (⟨"com/example/claim/claim/model/VerificationResult", "<init>", "([BLcom/example/claim/claim/model/Refusal;)V"⟩ : MethodName) (head1 (Jvm.Cond.code (⟨"com/example/claim/claim/model/VerificationResult", "<init>", "([BLcom/example/claim/claim/model/Refusal;)V"⟩ : MethodName) prog_73_method_1_code 3 none :: ws) ({ frames := 1, cells := 0, slots := 0, locals := 12 } : Room)) (fun av' U => av' = #[(.ref a), (.ref t), .null] ∧ Z.Warmed39 U.vm ∧ U.heap = h0) (fun _ _ _ _ _ => True) (fun _ U o U' => ∃ v L, o = .returned v ∧ Q_rmVI Z a t h0 v U'.heap L ∧ FrameEnd U o U' L ({ frames := 1, cells := 0, slots := 0, locals := 12 } : Room).cells ({ frames := 1, cells := 0, slots := 0, locals := 12 } : Room).slots) := by
  refine MetFree.of_bodySF (plainFor_of_name pn_com_example_claim_claim_model_VerificationResult) hisR ?_
  intro p e s m args below meth c s₁ Bd hml0 hP hK
  obtain ⟨rfl, hZ, hh⟩ := hP
  have hx := Bd.exec
  have hby := Bd.bytes
  have hret := Bd.returns
  have hlk : meth.locks = false := Bd.notSynchronized
  have hml : c.maxLocals = 3 := hml0
  have hown : s.vm.findClass "com/example/claim/claim/model/VerificationResult" = some m.cls := findClass_of_methodNamed Bd.named
  have hnm := (name_of_methodNamed Bd.named Bd.method).1
  have X0 : Stand p l e ({ frames := 1, cells := 0, slots := 0, locals := 12 } : Room) s m #[(.ref a), (.ref t), .null] below meth c s₁ [] 0 0 := Stand.of_body Bd
  -- the walk
  have e0 : s₁.heap = h0 := by rw [← hh, Bd.state]; rfl
  have N0 := Fr.nil Z.heap.size
  have K0 := Keep.refl h0 [a]
  show Go p e below (GO s (Q_rmVI Z a t h0) ({ frames := 1, cells := 0, slots := 0, locals := 12 } : Room).cells ({ frames := 1, cells := 0, slots := 0, locals := 12 } : Room).slots) (s₁.setTop (entryFrame m #[(.ref a), (.ref t), .null] 3))
  refine Go.st (fun t' k' => castTop (ef_rmVI m a t) k') ?_
  show Go p e below _ (s₁.setTop (mkF m 0 #[.val (.ref a), .val (.ref t), .val .null] []))
  refine Go.st (fun t' k' => XS.aloadN X0.here hx rfl (hb hby d3_0) rfl rfl k') ?_
  show Go p e below _ (s₁.setTop (mkF m 1 #[.val (.ref a), .val (.ref t), .val .null] [(.ref a)]))
  obtain ⟨T101, X101, e101, st101⟩ := initO X0 hx hZ hown (hw _ (List.mem_of_getElem? (i := 31) rfl)) (hw _ (List.mem_of_getElem? (i := 32) rfl)) (hw _ (List.mem_of_getElem? (i := 33) rfl)) e0 (g := (mkF m 1 #[.val (.ref a), .val (.ref t), .val .null] [(.ref a)])) rfl (by rw [hml]; rfl) rfl (hb hby d3_1) (by decide) (W := 0) (by show 2 * 0 + _ ≤ _; exact Nat.le_of_eq rfl) (by decide)
  refine Go.st st101 ?_
  show Go p e below _ (T101.setTop (mkF m 4 #[.val (.ref a), .val (.ref t), .val .null] []))
  refine Go.st (fun t' k' => XS.aloadN X101.here hx rfl (hb hby d3_4) rfl rfl k') ?_
  show Go p e below _ (T101.setTop (mkF m 5 #[.val (.ref a), .val (.ref t), .val .null] [(.ref a)]))
  refine Go.st (fun t' k' => XS.aloadN X101.here hx rfl (hb hby d3_5) rfl rfl k') ?_
  show Go p e below _ (T101.setTop (mkF m 6 #[.val (.ref a), .val (.ref t), .val .null] [(.ref t), (.ref a)]))
  obtain ⟨T102, h102, X102, e102, W102, st102⟩ := putF X101 hx hZ hown (host := "") (Or.inl (hw _ (List.mem_of_getElem? (i := 34) rfl))) Via.refl e101 Fp Ea (Or.inr ⟨(hw _ (List.mem_of_getElem? (i := 35) rfl)), rfl, hnm⟩) (hw _ (List.mem_of_getElem? (i := 7) rfl)) (ty := (.array .byte)) (by decide) rfl rfl (g := (mkF m 6 #[.val (.ref a), .val (.ref t), .val .null] [(.ref t), (.ref a)])) rfl rfl (hb hby d3_6)
  refine Go.st st102 ?_
  have Fw102 : Fld Z h102 a "com/example/claim/claim/model/VerificationResult" "payload" "[B" (.ref t) := Fp.same W102
  have Ea_h103 := Ea.wr W102
  have Fq_h103 := Fq.other W102 (Or.inr (slot_ne (Or.inr (hw _ (List.mem_of_getElem? (i := 37) rfl))) (Or.inr (hw _ (List.mem_of_getElem? (i := 35) rfl))) (by decide) (t := (.object "com/example/claim/claim/model/Refusal")) (t' := (.array .byte)) (by decide) (by decide)))
  have O102 := own_ext_wr O0 W102 Ga
  have K102 := K0.wr W102 (Or.inl (List.mem_of_getElem? (i := 0) rfl))
  have N102 := Fr.snoc X102 N0 Ga
  show Go p e below _ (T102.setTop (mkF m 9 #[.val (.ref a), .val (.ref t), .val .null] []))
  refine Go.st (fun t' k' => XS.aloadN X102.here hx rfl (hb hby d3_9) rfl rfl k') ?_
  show Go p e below _ (T102.setTop (mkF m 10 #[.val (.ref a), .val (.ref t), .val .null] [(.ref a)]))
  refine Go.st (fun t' k' => XS.aloadN X102.here hx rfl (hb hby d3_10) rfl rfl k') ?_
  show Go p e below _ (T102.setTop (mkF m 11 #[.val (.ref a), .val (.ref t), .val .null] [.null, (.ref a)]))
  obtain ⟨T104, h104, X104, e104, W104, st104⟩ := putF X102 hx hZ hown (host := "") (Or.inl (hw _ (List.mem_of_getElem? (i := 36) rfl))) Via.refl e102 Fq_h103 Ea_h103 (Or.inr ⟨(hw _ (List.mem_of_getElem? (i := 37) rfl)), rfl, hnm⟩) (hw _ (List.mem_of_getElem? (i := 7) rfl)) (ty := (.object "com/example/claim/claim/model/Refusal")) (by decide) rfl rfl (g := (mkF m 11 #[.val (.ref a), .val (.ref t), .val .null] [.null, (.ref a)])) rfl rfl (hb hby d3_11)
  refine Go.st st104 ?_
  have Fw104 : Fld Z h104 a "com/example/claim/claim/model/VerificationResult" "refusal" "Lcom/example/claim/claim/model/Refusal;" .null := Fq_h103.same W104
  have Ea_h105 := Ea_h103.wr W104
  have Fw102_h105 := Fw102.other W104 (Or.inr (slot_ne (Or.inr (hw _ (List.mem_of_getElem? (i := 35) rfl))) (Or.inr (hw _ (List.mem_of_getElem? (i := 37) rfl))) (by decide) (t := (.array .byte)) (t' := (.object "com/example/claim/claim/model/Refusal")) (by decide) (by decide)))
  have O104 := own_ext_wr O102 W104 Ga
  have K104 := K102.wr W104 (Or.inl (List.mem_of_getElem? (i := 0) rfl))
  have N104 := Fr.snoc X104 N102 Ga
  show Go p e below _ (T104.setTop (mkF m 14 #[.val (.ref a), .val (.ref t), .val .null] []))
  exact Go.outU X104 hx hlk hret (hb hby d3_14) (Q := Q_rmVI Z a t h0) (by rw [e104]; exact ⟨rfl, N104, O104, K104, Fw102_h105, Fw104⟩) (by decide) (by decide)
theorem ef_rmAc (m : MethodId) (x0 : Addr) : entryFrame m #[(.ref x0)] 1 = mkF m 0 #[.val (.ref x0)] [] := by first | (simp [entryFrame, mkF, argsToLocals, Value.category]; done) | rfl
def Q_rmAc (Z : State) (t : Addr) (kq : ClassId) (z : Int32) (vs : List Value) (h0 : Heap) (v : Option Value) (h : Heap) (L : List Loc) : Prop := ∃ b : Addr, ∃ q : Addr, v = some (.ref b) ∧ Fr Z.heap.size L ∧ Ext Z.heap h ∧ Keep h0 h [] ∧ Exa Z h b "com/example/claim/claim/model/VerificationResult" ∧ Fld Z h b "com/example/claim/claim/model/VerificationResult" "payload" "[B" (.ref q) ∧ Fld Z h b "com/example/claim/claim/model/VerificationResult" "refusal" "Lcom/example/claim/claim/model/Refusal;" .null ∧ Exa Z h q "[B" ∧ Arv Z h q kq .byte z vs (.int (0 : Int32)) ∧ Z.heap.size ≤ b ∧ Z.heap.size ≤ q ∧ (h0.size ≤ b) ∧ (h0.size ≤ q) ∧ b ≠ q
theorem d1_0 : decode prog_73_method_2_code 0 = .ok (.new 8, 3) := by decide +kernel
theorem d1_3 : decode prog_73_method_2_code 3 = .ok (.dup, 1) := by decide +kernel
theorem d1_4 : decode prog_73_method_2_code 4 = .ok (.aload_n 0, 1) := by decide +kernel
theorem d1_5 : decode prog_73_method_2_code 5 = .ok (.ldc 17, 2) := by decide +kernel
theorem d1_7 : decode prog_73_method_2_code 7 = .ok (.invokestatic 18, 3) := by decide +kernel
theorem pd__Ljava_lang_Object_Ljava_lang_String__Ljava_lang_Object_ : parseMethodDescriptor "(Ljava/lang/Object;Ljava/lang/String;)Ljava/lang/Object;" = some ⟨[(.object "java/lang/Object"), (.object "java/lang/String")], some (.object "java/lang/Object")⟩ := by decide +kernel
theorem d1_10 : decode prog_73_method_2_code 10 = .ok (.checkcast 24, 3) := by decide +kernel
theorem d1_13 : decode prog_73_method_2_code 13 = .ok (.invokevirtual 25, 3) := by decide +kernel
theorem d1_16 : decode prog_73_method_2_code 16 = .ok (.checkcast 24, 3) := by decide +kernel
theorem d1_19 : decode prog_73_method_2_code 19 = .ok (.aconst_null, 1) := by decide +kernel
theorem d1_20 : decode prog_73_method_2_code 20 = .ok (.invokespecial 29, 3) := by decide +kernel
theorem pd___BLcom_example_claim_claim_model_Refusal__V : parseMethodDescriptor "([BLcom/example/claim/claim/model/Refusal;)V" = some ⟨[(.array .byte), (.object "com/example/claim/claim/model/Refusal")], none⟩ := by decide +kernel
theorem d1_23 : decode prog_73_method_2_code 23 = .ok (.areturn, 1) := by decide +kernel
set_option maxRecDepth 65536 in
set_option maxHeartbeats 40000000 in
theorem rmAc (l : Launch) (Z : State) (a0 : Array Value) (hw : ∀ d ∈ tables_1, d.before a0 Z = true) (ws : List Jvm.Cond) (t : Addr) (kq : ClassId) (z : Int32) (vs : List Value) (h0 : Heap) (O0 : Ext Z.heap h0) (Et : Exa Z h0 t "[B") (At_ : Arv Z h0 t kq .byte z vs (.int (0 : Int32))) (hz : z.toNatClampNeg ≤ 4) :
    MetFree l (⟨"com/example/claim/claim/model/VerificationResult", "accepted", "([B)Lcom/example/claim/claim/model/VerificationResult;"⟩ : MethodName) (head1 (Jvm.Cond.code (⟨"com/example/claim/claim/model/VerificationResult", "accepted", "([B)Lcom/example/claim/claim/model/VerificationResult;"⟩ : MethodName) prog_73_method_2_code 1 (some (.object "com/example/claim/claim/model/VerificationResult")) :: ws) ({ frames := 2, cells := 4, slots := 48, locals := 60 } : Room)) (fun av' U => av' = #[(.ref t)] ∧ Z.Warmed39 U.vm ∧ U.heap = h0) (fun _ _ _ _ _ => True) (fun _ U o U' => ∃ v L, o = .returned v ∧ Q_rmAc Z t kq z vs h0 v U'.heap L ∧ ReturnedEndW U o U' L ({ frames := 2, cells := 4, slots := 48, locals := 60 } : Room).cells ({ frames := 2, cells := 4, slots := 48, locals := 60 } : Room).slots) := by
  refine MetFree.of_bodySF (plainFor_of_name pn_com_example_claim_claim_model_VerificationResult) hisR ?_
  intro p e s m args below meth c s₁ Bd hml0 hP hK
  obtain ⟨rfl, hZ, hh⟩ := hP
  have hx := Bd.exec
  have hby := Bd.bytes
  have hret := Bd.returns
  have hlk : meth.locks = false := Bd.notSynchronized
  have hml : c.maxLocals = 1 := hml0
  have hown : s.vm.findClass "com/example/claim/claim/model/VerificationResult" = some m.cls := findClass_of_methodNamed Bd.named
  have hnm := (name_of_methodNamed Bd.named Bd.method).1
  have X0 : Stand p l e ({ frames := 2, cells := 4, slots := 48, locals := 60 } : Room) (s.setVm s.vm) m #[(.ref t)] below meth c s₁ [] 0 0 := Stand.of_body Bd
  have hS0 : s.Since s.vm s.heap.size := (State.WarmedH.refl s).since _
  have hk0 : s.heap.size ≤ h0.size := Nat.le_of_eq (by rw [hh])
  -- the walk
  have e0 : s₁.heap = h0 := by rw [← hh, Bd.state]; rfl
  have N0 := Fr.nil Z.heap.size
  have K0 := Keep.refl h0 []
  show Go p e below (GOW s (Q_rmAc Z t kq z vs h0) ({ frames := 2, cells := 4, slots := 48, locals := 60 } : Room).cells ({ frames := 2, cells := 4, slots := 48, locals := 60 } : Room).slots) (s₁.setTop (entryFrame m #[(.ref t)] 1))
  refine Go.st (fun t' k' => castTop (ef_rmAc m t) k') ?_
  show Go p e below _ (s₁.setTop (mkF m 0 #[.val (.ref t)] []))
  obtain ⟨T101, h101, X101, e101, E101, A101, D101, -, st101⟩ := newO X0 hx hZ hown (hw _ (List.mem_of_getElem? (i := 6) rfl)) (hw _ (List.mem_of_getElem? (i := 7) rfl)) (hw _ (List.mem_of_getElem? (i := 4) rfl)) e0 (g := (mkF m 0 #[.val (.ref t)] [])) rfl (hb hby d1_0) (by decide) (by decide)
  obtain ⟨b101, g101⟩ : ∃ z, z = h0.size := ⟨_, rfl⟩
  rw [← g101] at A101 D101 st101
  refine Go.st st101 ?_
  have ne_t_b101 : t ≠ b101 := Nat.ne_of_lt (Nat.lt_of_lt_of_le Et.lt (Nat.le_of_eq g101.symm))
  have g_b101 : Z.heap.size ≤ b101 := Nat.le_trans O0.1 (Nat.le_of_eq g101.symm)
  have sz_b101 : h0.size ≤ b101 := Nat.le_trans K0.1 (Nat.le_of_eq g101.symm)
  have hk101 := Nat.le_trans hk0 E101.1
  have Et_h102 := Et.ext E101
  have At__h102 := At_.ext E101
  have O101 := own_ext_trans O0 E101
  have K101 := K0.ext E101
  have F_payload_b101 : Fld Z h101 b101 "com/example/claim/claim/model/VerificationResult" "payload" "[B" .null := D101 (Or.inr (hw _ (List.mem_of_getElem? (i := 35) rfl))) (ty := (.array .byte)) (by decide)
  have F_refusal_b101 : Fld Z h101 b101 "com/example/claim/claim/model/VerificationResult" "refusal" "Lcom/example/claim/claim/model/Refusal;" .null := D101 (Or.inr (hw _ (List.mem_of_getElem? (i := 37) rfl))) (ty := (.object "com/example/claim/claim/model/Refusal")) (by decide)
  show Go p e below _ (T101.setTop (mkF m 3 #[.val (.ref t)] [(.ref b101)]))
  refine Go.st (fun t' k' => XS.dup X101.here hx rfl (hb hby d1_3) rfl rfl k') ?_
  show Go p e below _ (T101.setTop (mkF m 4 #[.val (.ref t)] [(.ref b101), (.ref b101)]))
  refine Go.st (fun t' k' => XS.aloadN X101.here hx rfl (hb hby d1_4) rfl rfl k') ?_
  show Go p e below _ (T101.setTop (mkF m 5 #[.val (.ref t)] [(.ref t), (.ref b101), (.ref b101)]))
  obtain ⟨a103, T103, h103, k103z, X103, e103, E103, hS103, hk103, hZ103, hown103, st103⟩ := ldcS X101 hx hZ hown (hw _ (List.mem_of_getElem? (i := 8) rfl)) (own_wS hw) e101 hS0 hk101 (g := (mkF m 5 #[.val (.ref t)] [(.ref t), (.ref b101), (.ref b101)])) rfl (hb hby d1_5) (n := 28) (by decide) (by decide) (by decide) (by decide)
  refine Go.st st103 ?_
  have Et_h104 := Et_h102.ext E103
  have At__h104 := At__h102.ext E103
  have A101_h104 := A101.ext E103
  have F_payload_b101_h104 := F_payload_b101.ext E103
  have F_refusal_b101_h104 := F_refusal_b101.ext E103
  have O103 := own_ext_trans O101 E103
  have K103 := K101.ext E103
  show Go p e below _ (T103.setTop (mkF m 7 #[.val (.ref t)] [(.ref a103), (.ref t), (.ref b101), (.ref b101)]))
  obtain ⟨_, _, ⟨T105, L105, k105, n105⟩, -, X105, ⟨Lc105, hQ105, l105, y105, z105⟩, st105⟩ := Jvm.LawKit.callS X103 hx (y := (⟨"java/util/Objects", "requireNonNull", "(Ljava/lang/Object;Ljava/lang/String;)Ljava/lang/Object;"⟩ : MethodName)) hown103 (mvT hZ103 (hw _ (List.mem_of_getElem? (i := 15) rfl))) (mvT hZ103 (hw _ (List.mem_of_getElem? (i := 16) rfl))) (mvT hZ103 (hw _ (List.mem_of_getElem? (i := 17) rfl))) (mvT hZ103 (hw _ (List.mem_of_getElem? (i := 18) rfl))) (by decide) (backOf (W := 2) (rmNN2 l Z a0 hw [] t a103 h103 O103 ) hZ103 (hw _ (List.mem_of_getElem? (i := 18) rfl)) (hw _ (List.mem_of_getElem? (i := 17) rfl)) (by decide) (by decide)) (g := (mkF m 7 #[.val (.ref t)] [(.ref a103), (.ref t), (.ref b101), (.ref b101)])) rfl (by rw [hml]; rfl) (argsL := [(.ref t), (.ref a103)]) (rest := [(.ref b101), (.ref b101)]) (lenOf pd__Ljava_lang_Object_Ljava_lang_String__Ljava_lang_Object_ rfl) rfl (by show 2 * 0 + _ ≤ _; exact Nat.le_of_eq rfl) (hb hby d1_7) (fun _ _ => ⟨rfl, e103, (by decide : 3 + 0 ≤ _), (by decide : 34 + 0 ≤ _)⟩)
  dsimp only [Pt.U, Pt.locs, Pt.cells, Pt.slots] at X105 l105 y105 z105 st105 hQ105
  subst y105 z105
  obtain ⟨rfl, rfl, e105⟩ := hQ105
  have N105 : Fr Z.heap.size L105 := by rw [l105]; exact Fr.app N0 (Fr.nil _)
  refine Go.st st105 ?_
  show Go p e below _ (T105.setTop (mkF m 10 #[.val (.ref t)] [(.ref t), (.ref b101), (.ref b101)]))
  obtain ⟨T106, X106, e106, st106⟩ := castY X105 hx hZ103 hown103 (hw _ (List.mem_of_getElem? (i := 19) rfl)) e105 (Ins.self Et_h104) (g := (mkF m 10 #[.val (.ref t)] [(.ref t), (.ref b101), (.ref b101)])) rfl rfl (hb hby d1_10)
  refine Go.st st106 ?_
  show Go p e below _ (T106.setTop (mkF m 13 #[.val (.ref t)] [(.ref t), (.ref b101), (.ref b101)]))
  obtain ⟨T107, h107, X107, e107, E107, V107c, A107, st107⟩ := cloneH X106 hx hZ103 hown103 (hw _ (List.mem_of_getElem? (i := 21) rfl)) (hw _ (List.mem_of_getElem? (i := 22) rfl)) (hw _ (List.mem_of_getElem? (i := 26) rfl)) (hw _ (List.mem_of_getElem? (i := 24) rfl)) (hw _ (List.mem_of_getElem? (i := 25) rfl)) (hw _ (List.mem_of_getElem? (i := 27) rfl)) e106 (Arv.arh At__h104) Et_h104 (g := (mkF m 13 #[.val (.ref t)] [(.ref t), (.ref b101), (.ref b101)])) rfl (by rw [hml]; rfl) rfl (hb hby d1_13) (by decide) (W := 2) (cap := 4) (by show 2 * 0 + _ ≤ _; exact Nat.le_of_eq rfl) (by decide) hz (by decide) (by decide)
  obtain ⟨b107, g107⟩ : ∃ z, z = h103.size := ⟨_, rfl⟩
  rw [← g107] at A107 V107c st107
  refine Go.st st107 ?_
  have ne_t_b107 : t ≠ b107 := Nat.ne_of_lt (Nat.lt_of_lt_of_le Et_h104.lt (Nat.le_of_eq g107.symm))
  have ne_b101_b107 : b101 ≠ b107 := Nat.ne_of_lt (Nat.lt_of_lt_of_le A101_h104.lt (Nat.le_of_eq g107.symm))
  have g_b107 : Z.heap.size ≤ b107 := Nat.le_trans O103.1 (Nat.le_of_eq g107.symm)
  have sz_b107 : h0.size ≤ b107 := Nat.le_trans K103.1 (Nat.le_of_eq g107.symm)
  have hk107 := Nat.le_trans hk103 E107.1
  have Et_h108 := Et_h104.ext E107
  have At__h108 := At__h104.ext E107
  have A101_h108 := A101_h104.ext E107
  have F_payload_b101_h108 := F_payload_b101_h104.ext E107
  have F_refusal_b101_h108 := F_refusal_b101_h104.ext E107
  have O107 := own_ext_trans O103 E107
  have K107 := K103.ext E107
  have V_b107 : Arv Z h107 b107 kq .byte z vs (.int (0 : Int32)) := V107c
  show Go p e below _ (T107.setTop (mkF m 16 #[.val (.ref t)] [(.ref b107), (.ref b101), (.ref b101)]))
  obtain ⟨T109, X109, e109, st109⟩ := castY X107 hx hZ103 hown103 (hw _ (List.mem_of_getElem? (i := 19) rfl)) e107 (Ins.self A107) (g := (mkF m 16 #[.val (.ref t)] [(.ref b107), (.ref b101), (.ref b101)])) rfl rfl (hb hby d1_16)
  refine Go.st st109 ?_
  show Go p e below _ (T109.setTop (mkF m 19 #[.val (.ref t)] [(.ref b107), (.ref b101), (.ref b101)]))
  refine Go.st (fun t' k' => XS.aconstNull X109.here hx rfl (hb hby d1_19) k') ?_
  show Go p e below _ (T109.setTop (mkF m 20 #[.val (.ref t)] [.null, (.ref b107), (.ref b101), (.ref b101)]))
  obtain ⟨_, _, ⟨T110, L110, k110, n110⟩, -, X110, ⟨Lc110, hQ110, l110, y110, z110⟩, st110⟩ := X109.specialBack hx (y := (⟨"com/example/claim/claim/model/VerificationResult", "<init>", "([BLcom/example/claim/claim/model/Refusal;)V"⟩ : MethodName)) rfl hown103 (mvT hZ103 (hw _ (List.mem_of_getElem? (i := 28) rfl))) (mvT hZ103 (hw _ (List.mem_of_getElem? (i := 29) rfl))) (mvT hZ103 (hw _ (List.mem_of_getElem? (i := 30) rfl))) (by decide) (backOf (W := 1) (rmVI l Z a0 hw [] b101 b107 h107 O107 A101_h108 g_b101 F_payload_b101_h108 F_refusal_b101_h108) hZ103 (hw _ (List.mem_of_getElem? (i := 30) rfl)) (hw _ (List.mem_of_getElem? (i := 4) rfl)) (by decide) (by decide)) (g := (mkF m 20 #[.val (.ref t)] [.null, (.ref b107), (.ref b101), (.ref b101)])) rfl (by rw [hml]; rfl) (Steps.refl _) (a := b101) (argsL := [(.ref b107), .null]) (rest := [(.ref b101)]) (lenOf pd___BLcom_example_claim_claim_model_Refusal__V rfl) rfl (by show 2 * 0 + _ ≤ _; exact Nat.le_of_eq rfl) (hb hby d1_20) (fun _ _ => ⟨rfl, e109, (by decide : 4 + 0 ≤ _), (by decide : 38 + 0 ≤ _)⟩)
  dsimp only [Pt.U, Pt.locs, Pt.cells, Pt.slots] at X110 l110 y110 z110 st110 hQ110
  subst y110 z110
  obtain ⟨rfl, N110q, O110, Kc110, Pp_110, Pq_110⟩ := hQ110
  have N110 : Fr Z.heap.size L110 := by rw [l110]; exact Fr.app N105 N110q
  refine Go.tr st110 ?_
  have hk110 := Nat.le_trans hk107 Kc110.1
  have Et_h111 := Et_h108.keep Kc110
  have At__h111 := At__h108.keep Kc110 (ninS ne_t_b101 nin0)
  have A101_h111 := A101_h108.keep Kc110
  have A107_h111 := A107.keep Kc110
  have V_b107_h111 := V_b107.keep Kc110 (ninS (Ne.symm ne_b101_b107) nin0)
  have K110 := K107.trans Kc110 (allS (Or.inr sz_b101) all0)
  show Go p e below _ (T110.setTop (mkF m 23 #[.val (.ref t)] [(.ref b101)]))
  exact Go.outW X110 hS103 hk110 (v := (some (.ref b101))) (fun h => by rw [hret] at h; cases h) hlk (fun fs hr => retOut X110 hx hret (own_narrow_ref _ rfl) (Or.inr (Or.inr (Or.inr (Or.inr ⟨rfl, rfl, rfl⟩)))) (hb hby d1_23) hr) (Q := Q_rmAc Z t kq z vs h0) (⟨b101, b107, rfl, N110, O110, K110, A101_h111, Pp_110, Pq_110, A107_h111, V_b107_h111, g_b101, g_b107, sz_b101, sz_b107, ne_b101_b107⟩) (by decide) (by decide)
theorem ef_rmIA (m : MethodId) (x0 : Addr) : entryFrame m #[(.ref x0)] 1 = mkF m 0 #[.val (.ref x0)] [] := by first | (simp [entryFrame, mkF, argsToLocals, Value.category]; done) | rfl
def Q_rmIA (Z : State) (a : Addr) (q : Addr) (h0 : Heap) (v : Option Value) (h : Heap) (L : List Loc) : Prop := v = some (.int (1 : Int32)) ∧ L = [] ∧ h = h0
theorem d5_0 : decode prog_73_method_4_code 0 = .ok (.aload_n 0, 1) := by decide +kernel
theorem d5_1 : decode prog_73_method_4_code 1 = .ok (.getfield 7, 3) := by decide +kernel
theorem d5_4 : decode prog_73_method_4_code 4 = .ok (.ifnull 7, 3) := by decide +kernel
theorem d5_7 : decode prog_73_method_4_code 7 = .ok (.iconst 1, 1) := by decide +kernel
theorem d5_8 : decode prog_73_method_4_code 8 = .ok (.goto 4, 3) := by decide +kernel
theorem d5_12 : decode prog_73_method_4_code 12 = .ok (.ireturn, 1) := by decide +kernel
set_option maxRecDepth 65536 in
set_option maxHeartbeats 40000000 in
theorem rmIA (l : Launch) (Z : State) (a0 : Array Value) (hw : ∀ d ∈ tables_1, d.before a0 Z = true) (ws : List Jvm.Cond) (a : Addr) (q : Addr) (h0 : Heap) (O0 : Ext Z.heap h0) (Fp : Fld Z h0 a "com/example/claim/claim/model/VerificationResult" "payload" "[B" (.ref q)) :
    MetFree l (⟨"com/example/claim/claim/model/VerificationResult", "isAccepted", "()Z"⟩ : MethodName) (head1 (Jvm.Cond.code (⟨"com/example/claim/claim/model/VerificationResult", "isAccepted", "()Z"⟩ : MethodName) prog_73_method_4_code 1 (some .boolean) :: ws) ({ frames := 0, cells := 0, slots := 0, locals := 0 } : Room)) (fun av' U => av' = #[(.ref a)] ∧ Z.Warmed39 U.vm ∧ U.heap = h0) (fun _ _ _ _ _ => True) (fun _ U o U' => ∃ v L, o = .returned v ∧ Q_rmIA Z a q h0 v U'.heap L ∧ FrameEnd U o U' L ({ frames := 0, cells := 0, slots := 0, locals := 0 } : Room).cells ({ frames := 0, cells := 0, slots := 0, locals := 0 } : Room).slots) := by
  refine MetFree.of_bodySF (plainFor_of_name pn_com_example_claim_claim_model_VerificationResult) hisR ?_
  intro p e s m args below meth c s₁ Bd hml0 hP hK
  obtain ⟨rfl, hZ, hh⟩ := hP
  have hx := Bd.exec
  have hby := Bd.bytes
  have hret := Bd.returns
  have hlk : meth.locks = false := Bd.notSynchronized
  have hml : c.maxLocals = 1 := hml0
  have hown : s.vm.findClass "com/example/claim/claim/model/VerificationResult" = some m.cls := findClass_of_methodNamed Bd.named
  have hnm := (name_of_methodNamed Bd.named Bd.method).1
  have X0 : Stand p l e ({ frames := 0, cells := 0, slots := 0, locals := 0 } : Room) s m #[(.ref a)] below meth c s₁ [] 0 0 := Stand.of_body Bd
  -- the walk
  have e0 : s₁.heap = h0 := by rw [← hh, Bd.state]; rfl
  have N0 := Fr.nil Z.heap.size
  show Go p e below (GO s (Q_rmIA Z a q h0) ({ frames := 0, cells := 0, slots := 0, locals := 0 } : Room).cells ({ frames := 0, cells := 0, slots := 0, locals := 0 } : Room).slots) (s₁.setTop (entryFrame m #[(.ref a)] 1))
  refine Go.st (fun t' k' => castTop (ef_rmIA m a) k') ?_
  show Go p e below _ (s₁.setTop (mkF m 0 #[.val (.ref a)] []))
  refine Go.st (fun t' k' => XS.aloadN X0.here hx rfl (hb hby d5_0) rfl rfl k') ?_
  show Go p e below _ (s₁.setTop (mkF m 1 #[.val (.ref a)] [(.ref a)]))
  obtain ⟨T101, X101, e101, st101⟩ := getF X0 hx hZ hown (host := "") (Or.inl (hw _ (List.mem_of_getElem? (i := 34) rfl))) Via.refl e0 Fp (g := (mkF m 1 #[.val (.ref a)] [(.ref a)])) rfl rfl (hb hby d5_1)
  refine Go.st st101 ?_
  show Go p e below _ (T101.setTop (mkF m 4 #[.val (.ref a)] [(.ref q)]))
  refine Go.st (fun t' k' => XS.ifnullNo X101.here hx rfl (hb hby d5_4) rfl k') ?_
  show Go p e below _ (T101.setTop (mkF m 7 #[.val (.ref a)] []))
  refine Go.st (fun t' k' => XS.iconst X101.here hx rfl (hb hby d5_7) k') ?_
  show Go p e below _ (T101.setTop (mkF m 8 #[.val (.ref a)] [(.int (1 : Int32))]))
  refine Go.st (fun t' k' => XS.goto X101.here hx rfl (pc0 := 8) (pc' := 12) rfl (hb hby d5_8) (by decide) (by decide) k') ?_
  show Go p e below _ (T101.setTop (mkF m 12 #[.val (.ref a)] [(.int (1 : Int32))]))
  exact Go.outN X101 hx hlk (t := .boolean) hret (by simp) (hb hby d5_12) (Q := Q_rmIA Z a q h0) (by rw [e101]; exact ⟨rfl, rfl, rfl⟩) (by decide) (by decide)
theorem ef_rmRq (m : MethodId) (x0 : Addr) : entryFrame m #[(.ref x0)] 1 = mkF m 0 #[.val (.ref x0)] [] := by first | (simp [entryFrame, mkF, argsToLocals, Value.category]; done) | rfl
def Q_rmRq (Z : State) (a : Addr) (w_EMPTY : Addr) (h0 : Heap) (v : Option Value) (h : Heap) (L : List Loc) : Prop := v = some (.ref w_EMPTY) ∧ L = [] ∧ h = h0
theorem d6_0 : decode prog_73_method_6_code 0 = .ok (.aload_n 0, 1) := by decide +kernel
theorem d6_1 : decode prog_73_method_6_code 1 = .ok (.getfield 13, 3) := by decide +kernel
theorem d6_4 : decode prog_73_method_6_code 4 = .ok (.invokestatic 35, 3) := by decide +kernel
theorem pd__Ljava_lang_Object__Ljava_util_Optional_ : parseMethodDescriptor "(Ljava/lang/Object;)Ljava/util/Optional;" = some ⟨[(.object "java/lang/Object")], some (.object "java/util/Optional")⟩ := by decide +kernel
theorem d6_7 : decode prog_73_method_6_code 7 = .ok (.areturn, 1) := by decide +kernel
set_option maxRecDepth 65536 in
set_option maxHeartbeats 40000000 in
theorem rmRq (l : Launch) (Z : State) (a0 : Array Value) (hw : ∀ d ∈ tables_1, d.before a0 Z = true) (ws : List Jvm.Cond) (a : Addr) (w_EMPTY : Addr) (h0 : Heap) (O0 : Ext Z.heap h0) (S_EMPTY : Sta Z Z.heap "java/util/Optional" "EMPTY" "Ljava/util/Optional;" (.ref w_EMPTY)) (Fq : Fld Z h0 a "com/example/claim/claim/model/VerificationResult" "refusal" "Lcom/example/claim/claim/model/Refusal;" .null) :
    MetFree l (⟨"com/example/claim/claim/model/VerificationResult", "refusal", "()Ljava/util/Optional;"⟩ : MethodName) (head1 (Jvm.Cond.code (⟨"com/example/claim/claim/model/VerificationResult", "refusal", "()Ljava/util/Optional;"⟩ : MethodName) prog_73_method_6_code 1 (some (.object "java/util/Optional")) :: ws) ({ frames := 1, cells := 0, slots := 0, locals := 12 } : Room)) (fun av' U => av' = #[(.ref a)] ∧ Z.Warmed39 U.vm ∧ U.heap = h0) (fun _ _ _ _ _ => True) (fun _ U o U' => ∃ v L, o = .returned v ∧ Q_rmRq Z a w_EMPTY h0 v U'.heap L ∧ FrameEnd U o U' L ({ frames := 1, cells := 0, slots := 0, locals := 12 } : Room).cells ({ frames := 1, cells := 0, slots := 0, locals := 12 } : Room).slots) := by
  refine MetFree.of_bodySF (plainFor_of_name pn_com_example_claim_claim_model_VerificationResult) hisR ?_
  intro p e s m args below meth c s₁ Bd hml0 hP hK
  obtain ⟨rfl, hZ, hh⟩ := hP
  have hx := Bd.exec
  have hby := Bd.bytes
  have hret := Bd.returns
  have hlk : meth.locks = false := Bd.notSynchronized
  have hml : c.maxLocals = 1 := hml0
  have hown : s.vm.findClass "com/example/claim/claim/model/VerificationResult" = some m.cls := findClass_of_methodNamed Bd.named
  have hnm := (name_of_methodNamed Bd.named Bd.method).1
  have X0 : Stand p l e ({ frames := 1, cells := 0, slots := 0, locals := 12 } : Room) s m #[(.ref a)] below meth c s₁ [] 0 0 := Stand.of_body Bd
  -- the walk
  have e0 : s₁.heap = h0 := by rw [← hh, Bd.state]; rfl
  have N0 := Fr.nil Z.heap.size
  show Go p e below (GO s (Q_rmRq Z a w_EMPTY h0) ({ frames := 1, cells := 0, slots := 0, locals := 12 } : Room).cells ({ frames := 1, cells := 0, slots := 0, locals := 12 } : Room).slots) (s₁.setTop (entryFrame m #[(.ref a)] 1))
  refine Go.st (fun t' k' => castTop (ef_rmRq m a) k') ?_
  show Go p e below _ (s₁.setTop (mkF m 0 #[.val (.ref a)] []))
  refine Go.st (fun t' k' => XS.aloadN X0.here hx rfl (hb hby d6_0) rfl rfl k') ?_
  show Go p e below _ (s₁.setTop (mkF m 1 #[.val (.ref a)] [(.ref a)]))
  obtain ⟨T101, X101, e101, st101⟩ := getF X0 hx hZ hown (host := "") (Or.inl (hw _ (List.mem_of_getElem? (i := 36) rfl))) Via.refl e0 Fq (g := (mkF m 1 #[.val (.ref a)] [(.ref a)])) rfl rfl (hb hby d6_1)
  refine Go.st st101 ?_
  show Go p e below _ (T101.setTop (mkF m 4 #[.val (.ref a)] [.null]))
  obtain ⟨_, _, ⟨T102, L102, k102, n102⟩, -, X102, ⟨Lc102, hQ102, l102, y102, z102⟩, st102⟩ := Jvm.LawKit.callS X101 hx (y := (⟨"java/util/Optional", "ofNullable", "(Ljava/lang/Object;)Ljava/util/Optional;"⟩ : MethodName)) hown (mvT hZ (hw _ (List.mem_of_getElem? (i := 48) rfl))) (mvT hZ (hw _ (List.mem_of_getElem? (i := 49) rfl))) (mvT hZ (hw _ (List.mem_of_getElem? (i := 50) rfl))) (mvT hZ (hw _ (List.mem_of_getElem? (i := 51) rfl))) (by decide) (backOf (W := 0) (rmOf0 l Z a0 hw [] w_EMPTY h0 O0 S_EMPTY) hZ (hw _ (List.mem_of_getElem? (i := 51) rfl)) (hw _ (List.mem_of_getElem? (i := 50) rfl)) (by decide) (by decide)) (g := (mkF m 4 #[.val (.ref a)] [.null])) rfl (by rw [hml]; rfl) (argsL := [.null]) (rest := []) (lenOf pd__Ljava_lang_Object__Ljava_util_Optional_ rfl) rfl (by show 2 * 0 + _ ≤ _; exact Nat.le_of_eq rfl) (hb hby d6_4) (fun _ _ => ⟨rfl, e101, (by decide : 0 + 0 ≤ _), (by decide : 0 + 0 ≤ _)⟩)
  dsimp only [Pt.U, Pt.locs, Pt.cells, Pt.slots] at X102 l102 y102 z102 st102 hQ102
  subst l102 y102 z102
  obtain ⟨rfl, rfl, e102⟩ := hQ102
  have N102 := Fr.app N0 (Fr.nil _)
  refine Go.st st102 ?_
  show Go p e below _ (T102.setTop (mkF m 7 #[.val (.ref a)] [(.ref w_EMPTY)]))
  exact Go.outR X102 hx hlk hret rfl rfl (hb hby d6_7) (Q := Q_rmRq Z a w_EMPTY h0) (by rw [e102]; exact ⟨rfl, rfl, rfl⟩) (by decide) (by decide)
theorem ef_rmLam (m : MethodId) (x0 : Addr) : entryFrame m #[(.ref x0)] 1 = mkF m 0 #[.val (.ref x0)] [] := by first | (simp [entryFrame, mkF, argsToLocals, Value.category]; done) | rfl
def Q_rmLam (Z : State) (q : Addr) (kq : ClassId) (z : Int32) (vs : List Value) (h0 : Heap) (v : Option Value) (h : Heap) (L : List Loc) : Prop := ∃ u : Addr, v = some (.ref u) ∧ Fr Z.heap.size L ∧ Ext Z.heap h ∧ Keep h0 h [] ∧ Exa Z h u "[B" ∧ Arv Z h u kq .byte z vs (.int (0 : Int32)) ∧ Z.heap.size ≤ u ∧ (h0.size ≤ u)
theorem d14_0 : decode prog_73_method_8_code 0 = .ok (.aload_n 0, 1) := by decide +kernel
theorem d14_1 : decode prog_73_method_8_code 1 = .ok (.checkcast 24, 3) := by decide +kernel
theorem d14_4 : decode prog_73_method_8_code 4 = .ok (.invokevirtual 25, 3) := by decide +kernel
theorem d14_7 : decode prog_73_method_8_code 7 = .ok (.checkcast 24, 3) := by decide +kernel
theorem d14_10 : decode prog_73_method_8_code 10 = .ok (.areturn, 1) := by decide +kernel
set_option maxRecDepth 65536 in
set_option maxHeartbeats 40000000 in
theorem rmLam (l : Launch) (Z : State) (a0 : Array Value) (hw : ∀ d ∈ tables_1, d.before a0 Z = true) (ws : List Jvm.Cond) (q : Addr) (kq : ClassId) (z : Int32) (vs : List Value) (h0 : Heap) (O0 : Ext Z.heap h0) (Eq_ : Exa Z h0 q "[B") (Aq : Arv Z h0 q kq .byte z vs (.int (0 : Int32))) (hz : z.toNatClampNeg ≤ 4) :
    MetFree l (⟨"com/example/claim/claim/model/VerificationResult", "lambda$payload$0", "(Ljava/lang/Object;)[B"⟩ : MethodName) (head1 (Jvm.Cond.code (⟨"com/example/claim/claim/model/VerificationResult", "lambda$payload$0", "(Ljava/lang/Object;)[B"⟩ : MethodName) prog_73_method_8_code 1 (some (.array .byte)) :: ws) ({ frames := 1, cells := 1, slots := 4, locals := 20 } : Room)) (fun av' U => av' = #[(.ref q)] ∧ Z.Warmed39 U.vm ∧ U.heap = h0) (fun _ _ _ _ _ => True) (fun _ U o U' => ∃ v L, o = .returned v ∧ Q_rmLam Z q kq z vs h0 v U'.heap L ∧ FrameEnd U o U' L ({ frames := 1, cells := 1, slots := 4, locals := 20 } : Room).cells ({ frames := 1, cells := 1, slots := 4, locals := 20 } : Room).slots) := by
  refine MetFree.of_bodySF (plainFor_of_name pn_com_example_claim_claim_model_VerificationResult) hisR ?_
  intro p e s m args below meth c s₁ Bd hml0 hP hK
  obtain ⟨rfl, hZ, hh⟩ := hP
  have hx := Bd.exec
  have hby := Bd.bytes
  have hret := Bd.returns
  have hlk : meth.locks = false := Bd.notSynchronized
  have hml : c.maxLocals = 1 := hml0
  have hown : s.vm.findClass "com/example/claim/claim/model/VerificationResult" = some m.cls := findClass_of_methodNamed Bd.named
  have hnm := (name_of_methodNamed Bd.named Bd.method).1
  have X0 : Stand p l e ({ frames := 1, cells := 1, slots := 4, locals := 20 } : Room) s m #[(.ref q)] below meth c s₁ [] 0 0 := Stand.of_body Bd
  -- the walk
  have e0 : s₁.heap = h0 := by rw [← hh, Bd.state]; rfl
  have N0 := Fr.nil Z.heap.size
  have K0 := Keep.refl h0 []
  show Go p e below (GO s (Q_rmLam Z q kq z vs h0) ({ frames := 1, cells := 1, slots := 4, locals := 20 } : Room).cells ({ frames := 1, cells := 1, slots := 4, locals := 20 } : Room).slots) (s₁.setTop (entryFrame m #[(.ref q)] 1))
  refine Go.st (fun t' k' => castTop (ef_rmLam m q) k') ?_
  show Go p e below _ (s₁.setTop (mkF m 0 #[.val (.ref q)] []))
  refine Go.st (fun t' k' => XS.aloadN X0.here hx rfl (hb hby d14_0) rfl rfl k') ?_
  show Go p e below _ (s₁.setTop (mkF m 1 #[.val (.ref q)] [(.ref q)]))
  obtain ⟨T101, X101, e101, st101⟩ := castY X0 hx hZ hown (hw _ (List.mem_of_getElem? (i := 19) rfl)) e0 (Ins.self Eq_) (g := (mkF m 1 #[.val (.ref q)] [(.ref q)])) rfl rfl (hb hby d14_1)
  refine Go.st st101 ?_
  show Go p e below _ (T101.setTop (mkF m 4 #[.val (.ref q)] [(.ref q)]))
  obtain ⟨T102, h102, X102, e102, E102, V102c, A102, st102⟩ := cloneH X101 hx hZ hown (hw _ (List.mem_of_getElem? (i := 21) rfl)) (hw _ (List.mem_of_getElem? (i := 22) rfl)) (hw _ (List.mem_of_getElem? (i := 26) rfl)) (hw _ (List.mem_of_getElem? (i := 24) rfl)) (hw _ (List.mem_of_getElem? (i := 25) rfl)) (hw _ (List.mem_of_getElem? (i := 27) rfl)) e101 (Arv.arh Aq) Eq_ (g := (mkF m 4 #[.val (.ref q)] [(.ref q)])) rfl (by rw [hml]; rfl) rfl (hb hby d14_4) (by decide) (W := 0) (cap := 4) (by show 2 * 0 + _ ≤ _; exact Nat.le_of_eq rfl) (by decide) hz (by decide) (by decide)
  obtain ⟨b102, g102⟩ : ∃ z, z = h0.size := ⟨_, rfl⟩
  rw [← g102] at A102 V102c st102
  refine Go.st st102 ?_
  have ne_q_b102 : q ≠ b102 := Nat.ne_of_lt (Nat.lt_of_lt_of_le Eq_.lt (Nat.le_of_eq g102.symm))
  have g_b102 : Z.heap.size ≤ b102 := Nat.le_trans O0.1 (Nat.le_of_eq g102.symm)
  have sz_b102 : h0.size ≤ b102 := Nat.le_trans K0.1 (Nat.le_of_eq g102.symm)
  have Eq__h103 := Eq_.ext E102
  have Aq_h103 := Aq.ext E102
  have O102 := own_ext_trans O0 E102
  have K102 := K0.ext E102
  have V_b102 : Arv Z h102 b102 kq .byte z vs (.int (0 : Int32)) := V102c
  show Go p e below _ (T102.setTop (mkF m 7 #[.val (.ref q)] [(.ref b102)]))
  obtain ⟨T104, X104, e104, st104⟩ := castY X102 hx hZ hown (hw _ (List.mem_of_getElem? (i := 19) rfl)) e102 (Ins.self A102) (g := (mkF m 7 #[.val (.ref q)] [(.ref b102)])) rfl rfl (hb hby d14_7)
  refine Go.st st104 ?_
  show Go p e below _ (T104.setTop (mkF m 10 #[.val (.ref q)] [(.ref b102)]))
  exact Go.outR X104 hx hlk hret rfl rfl (hb hby d14_10) (Q := Q_rmLam Z q kq z vs h0) (by rw [e104]; exact ⟨b102, rfl, N0, O102, K102, A102, V_b102, g_b102, sz_b102⟩) (by decide) (by decide)
theorem ef_rmMap (m : MethodId) (x0 : Addr) (x1 : Addr) : entryFrame m #[(.ref x0), (.ref x1)] 2 = mkF m 0 #[.val (.ref x0), .val (.ref x1)] [] := by first | (simp [entryFrame, mkF, argsToLocals, Value.category]; done) | rfl
def Q_rmMap (Z : State) (a : Addr) (f : Addr) (ck : ClassId) (q : Addr) (kq : ClassId) (z : Int32) (vs : List Value) (h0 : Heap) (v : Option Value) (h : Heap) (L : List Loc) : Prop := ∃ b : Addr, ∃ u : Addr, v = some (.ref b) ∧ Fr Z.heap.size L ∧ Ext Z.heap h ∧ Keep h0 h [] ∧ Exa Z h b "java/util/Optional" ∧ Fld Z h b "java/util/Optional" "value" "Ljava/lang/Object;" (.ref u) ∧ Exa Z h u "[B" ∧ Arv Z h u kq .byte z vs (.int (0 : Int32)) ∧ Z.heap.size ≤ b ∧ Z.heap.size ≤ u ∧ (h0.size ≤ b) ∧ (h0.size ≤ u) ∧ b ≠ u
theorem d11_0 : decode jdk_32_method_11_code 0 = .ok (.aload_n 1, 1) := by decide +kernel
theorem d11_1 : decode jdk_32_method_11_code 1 = .ok (.invokestatic 17, 3) := by decide +kernel
theorem pd__Ljava_lang_Object__Ljava_lang_Object_ : parseMethodDescriptor "(Ljava/lang/Object;)Ljava/lang/Object;" = some ⟨[(.object "java/lang/Object")], some (.object "java/lang/Object")⟩ := by decide +kernel
theorem d11_4 : decode jdk_32_method_11_code 4 = .ok (.pop, 1) := by decide +kernel
theorem d11_5 : decode jdk_32_method_11_code 5 = .ok (.aload_n 0, 1) := by decide +kernel
theorem d11_6 : decode jdk_32_method_11_code 6 = .ok (.invokevirtual 43, 3) := by decide +kernel
theorem pd___Z : parseMethodDescriptor "()Z" = some ⟨[], some .boolean⟩ := by decide +kernel
theorem d11_9 : decode jdk_32_method_11_code 9 = .ok (.ifCond .eq 7, 3) := by decide +kernel
theorem d11_16 : decode jdk_32_method_11_code 16 = .ok (.aload_n 1, 1) := by decide +kernel
theorem d11_17 : decode jdk_32_method_11_code 17 = .ok (.aload_n 0, 1) := by decide +kernel
theorem d11_18 : decode jdk_32_method_11_code 18 = .ok (.getfield 13, 3) := by decide +kernel
theorem d11_21 : decode jdk_32_method_11_code 21 = .ok (.invokeinterface 57 2, 5) := by decide +kernel
theorem pd__Ljava_lang_Object___B : parseMethodDescriptor "(Ljava/lang/Object;)[B" = some ⟨[(.object "java/lang/Object")], some (.array .byte)⟩ := by decide +kernel
theorem d11_26 : decode jdk_32_method_11_code 26 = .ok (.invokestatic 62, 3) := by decide +kernel
theorem d11_29 : decode jdk_32_method_11_code 29 = .ok (.areturn, 1) := by decide +kernel
set_option maxRecDepth 65536 in
set_option maxHeartbeats 40000000 in
theorem rmMap (l : Launch) (Z : State) (a0 : Array Value) (hw : ∀ d ∈ tables_1, d.before a0 Z = true) (ws : List Jvm.Cond) (a : Addr) (f : Addr) (ck : ClassId) (q : Addr) (kq : ClassId) (z : Int32) (vs : List Value) (h0 : Heap) (O0 : Ext Z.heap h0) (Ea : Exa Z h0 a "java/util/Optional") (Fv : Fld Z h0 a "java/util/Optional" "value" "Ljava/lang/Object;" (.ref q)) (Eq_ : Exa Z h0 q "[B") (Aq : Arv Z h0 q kq .byte z vs (.int (0 : Int32))) (hz : z.toNatClampNeg ≤ 4) (Md : Jvm.LamKit.Made Z "com/example/claim/claim/model/VerificationResult" own_sh ck) (Fn : Jvm.LamKit.FnAt Z.heap f ck) :
    MetFree l (⟨"java/util/Optional", "map", "(Ljava/util/function/Function;)Ljava/util/Optional;"⟩ : MethodName) (head1 (Jvm.Cond.code (⟨"java/util/Optional", "map", "(Ljava/util/function/Function;)Ljava/util/Optional;"⟩ : MethodName) jdk_32_method_11_code 2 (some (.object "java/util/Optional")) :: ws) ({ frames := 3, cells := 2, slots := 5, locals := 60 } : Room)) (fun av' U => av' = #[(.ref a), (.ref f)] ∧ Z.Warmed39 U.vm ∧ U.heap = h0) (fun _ _ _ _ _ => True) (fun _ U o U' => ∃ v L, o = .returned v ∧ Q_rmMap Z a f ck q kq z vs h0 v U'.heap L ∧ FrameEnd U o U' L ({ frames := 3, cells := 2, slots := 5, locals := 60 } : Room).cells ({ frames := 3, cells := 2, slots := 5, locals := 60 } : Room).slots) := by
  refine MetFree.of_bodySF (plainFor_of_name pn_java_util_Optional) hisR ?_
  intro p e s m args below meth c s₁ Bd hml0 hP hK
  obtain ⟨rfl, hZ, hh⟩ := hP
  have hx := Bd.exec
  have hby := Bd.bytes
  have hret := Bd.returns
  have hlk : meth.locks = false := Bd.notSynchronized
  have hml : c.maxLocals = 2 := hml0
  have hown : s.vm.findClass "java/util/Optional" = some m.cls := findClass_of_methodNamed Bd.named
  have hnm := (name_of_methodNamed Bd.named Bd.method).1
  have X0 : Stand p l e ({ frames := 3, cells := 2, slots := 5, locals := 60 } : Room) s m #[(.ref a), (.ref f)] below meth c s₁ [] 0 0 := Stand.of_body Bd
  -- the walk
  have e0 : s₁.heap = h0 := by rw [← hh, Bd.state]; rfl
  have N0 := Fr.nil Z.heap.size
  have K0 := Keep.refl h0 []
  show Go p e below (GO s (Q_rmMap Z a f ck q kq z vs h0) ({ frames := 3, cells := 2, slots := 5, locals := 60 } : Room).cells ({ frames := 3, cells := 2, slots := 5, locals := 60 } : Room).slots) (s₁.setTop (entryFrame m #[(.ref a), (.ref f)] 2))
  refine Go.st (fun t' k' => castTop (ef_rmMap m a f) k') ?_
  show Go p e below _ (s₁.setTop (mkF m 0 #[.val (.ref a), .val (.ref f)] []))
  refine Go.st (fun t' k' => XS.aloadN X0.here hx rfl (hb hby d11_0) rfl rfl k') ?_
  show Go p e below _ (s₁.setTop (mkF m 1 #[.val (.ref a), .val (.ref f)] [(.ref f)]))
  obtain ⟨_, _, ⟨T101, L101, k101, n101⟩, -, X101, ⟨Lc101, hQ101, l101, y101, z101⟩, st101⟩ := Jvm.LawKit.callS X0 hx (y := (⟨"java/util/Objects", "requireNonNull", "(Ljava/lang/Object;)Ljava/lang/Object;"⟩ : MethodName)) hown (mvT hZ (hw _ (List.mem_of_getElem? (i := 80) rfl))) (mvT hZ (hw _ (List.mem_of_getElem? (i := 81) rfl))) (mvT hZ (hw _ (List.mem_of_getElem? (i := 17) rfl))) (mvT hZ (hw _ (List.mem_of_getElem? (i := 82) rfl))) (by decide) (backOf (W := 0) (rmNN1 l Z a0 hw [] f h0 O0 ) hZ (hw _ (List.mem_of_getElem? (i := 82) rfl)) (hw _ (List.mem_of_getElem? (i := 17) rfl)) (by decide) (by decide)) (g := (mkF m 1 #[.val (.ref a), .val (.ref f)] [(.ref f)])) rfl (by rw [hml]; rfl) (argsL := [(.ref f)]) (rest := []) (lenOf pd__Ljava_lang_Object__Ljava_lang_Object_ rfl) rfl (by show 2 * 0 + _ ≤ _; exact Nat.le_of_eq rfl) (hb hby d11_1) (fun _ _ => ⟨rfl, e0, (by decide : 0 + 0 ≤ _), (by decide : 0 + 0 ≤ _)⟩)
  dsimp only [Pt.U, Pt.locs, Pt.cells, Pt.slots] at X101 l101 y101 z101 st101 hQ101
  subst y101 z101
  obtain ⟨rfl, rfl, e101⟩ := hQ101
  have N101 : Fr Z.heap.size L101 := by rw [l101]; exact Fr.app N0 (Fr.nil _)
  refine Go.st st101 ?_
  show Go p e below _ (T101.setTop (mkF m 4 #[.val (.ref a), .val (.ref f)] [(.ref f)]))
  refine Go.st (fun t' k' => XS.pop X101.here hx rfl (hb hby d11_4) rfl rfl k') ?_
  show Go p e below _ (T101.setTop (mkF m 5 #[.val (.ref a), .val (.ref f)] []))
  refine Go.st (fun t' k' => XS.aloadN X101.here hx rfl (hb hby d11_5) rfl rfl k') ?_
  show Go p e below _ (T101.setTop (mkF m 6 #[.val (.ref a), .val (.ref f)] [(.ref a)]))
  obtain ⟨cq102, kq102, q102a, q102b, q102c⟩ := isOf hZ e101 Ea
  obtain ⟨_, _, ⟨T102, L102, k102, n102⟩, -, X102, ⟨Lc102, hQ102, l102, y102, z102⟩, st102⟩ := X101.virtualBack hx (y := (⟨"java/util/Optional", "isEmpty", "()Z"⟩ : MethodName)) (z := (⟨"java/util/Optional", "isEmpty", "()Z"⟩ : MethodName)) hown (mvT hZ (hw _ (List.mem_of_getElem? (i := 83) rfl))) (mvT hZ (hw _ (List.mem_of_getElem? (i := 84) rfl))) (notFace_of_selects (args := #[]) (mvT hZ (hw _ (List.mem_of_getElem? (i := 86) rfl)))) (mvT hZ (hw _ (List.mem_of_getElem? (i := 86) rfl))) (mvT hZ (hw _ (List.mem_of_getElem? (i := 85) rfl))) (by decide) (backOf (W := 0) (rmEm1 l Z a0 hw [] a q h0 O0 Fv) hZ (hw _ (List.mem_of_getElem? (i := 87) rfl)) (hw _ (List.mem_of_getElem? (i := 50) rfl)) (by decide) (by decide)) q102a q102c (g := (mkF m 6 #[.val (.ref a), .val (.ref f)] [(.ref a)])) rfl (by rw [hml]; rfl) (Steps.refl _) (argsL := []) (rest := []) (lenOf pd___Z rfl) rfl (by show 2 * 0 + _ ≤ _; exact Nat.le_of_eq rfl) (hb hby d11_6) (fun _ _ => ⟨rfl, e101, (by decide : 0 + 0 ≤ _), (by decide : 0 + 0 ≤ _)⟩)
  dsimp only [Pt.U, Pt.locs, Pt.cells, Pt.slots] at X102 l102 y102 z102 st102 hQ102
  subst y102 z102
  obtain ⟨rfl, rfl, e102⟩ := hQ102
  have N102 : Fr Z.heap.size L102 := by rw [l102]; exact Fr.app N101 (Fr.nil _)
  refine Go.tr st102 ?_
  show Go p e below _ (T102.setTop (mkF m 9 #[.val (.ref a), .val (.ref f)] [(.int (0 : Int32))]))
  refine Go.st (fun t' k' => XS.ifYes X102.here hx rfl (pc0 := 9) (pc' := 16) rfl (hb hby d11_9) rfl ((if0 _ _).trans (teq (by decide : (0 : Int32) = (0 : Int32))).1) (by decide) (by decide) k') ?_
  show Go p e below _ (T102.setTop (mkF m 16 #[.val (.ref a), .val (.ref f)] []))
  refine Go.st (fun t' k' => XS.aloadN X102.here hx rfl (hb hby d11_16) rfl rfl k') ?_
  show Go p e below _ (T102.setTop (mkF m 17 #[.val (.ref a), .val (.ref f)] [(.ref f)]))
  refine Go.st (fun t' k' => XS.aloadN X102.here hx rfl (hb hby d11_17) rfl rfl k') ?_
  show Go p e below _ (T102.setTop (mkF m 18 #[.val (.ref a), .val (.ref f)] [(.ref a), (.ref f)]))
  obtain ⟨T103, X103, e103, st103⟩ := getF X102 hx hZ hown (host := "") (Or.inl (hw _ (List.mem_of_getElem? (i := 58) rfl))) Via.refl e102 Fv (g := (mkF m 18 #[.val (.ref a), .val (.ref f)] [(.ref a), (.ref f)])) rfl rfl (hb hby d11_18)
  refine Go.st st103 ?_
  show Go p e below _ (T103.setTop (mkF m 21 #[.val (.ref a), .val (.ref f)] [(.ref q), (.ref f)]))
  obtain ⟨_, T104, L104, Lc104, X104, Nl104, hQ104, st104⟩ := own_callLam X103 hx hZ (y := (⟨"com/example/claim/claim/model/VerificationResult", "lambda$payload$0", "(Ljava/lang/Object;)[B"⟩ : MethodName)) (xi := (⟨"java/util/function/Function", "apply", "(Ljava/lang/Object;)Ljava/lang/Object;"⟩ : MethodName)) (sh := own_sh) (nme := "[B") (fcode := own_fcode) (i := 14) (rmLam l Z a0 hw [] q kq z vs h0 O0 Eq_ Aq hz) (fun _ _ _ q => by obtain ⟨b', rfl, N', _⟩ := q; exact ⟨N', b', rfl⟩) hown (hw _ (List.mem_of_getElem? (i := 88) rfl)) (hw _ (List.mem_of_getElem? (i := 89) rfl)) (mvT hZ (hw _ (List.mem_of_getElem? (i := 90) rfl))) (hw _ (List.mem_of_getElem? (i := 92) rfl)) (hw _ (List.mem_of_getElem? (i := 91) rfl)) (hw _ (List.mem_of_getElem? (i := 4) rfl)) ⟨rfl, rfl, by decide +kernel⟩ ⟨rfl, rfl, by decide +kernel⟩ ⟨⟨by decide, by decide⟩, by decide, by decide⟩ Md (by obtain ⟨cf, q1, q2⟩ := (id Fn); exact ⟨cf, by rw [e103]; exact O0.2 _ _ q1, q2⟩) own_fok rfl (by decide +kernel) (by decide +kernel) (by decide +kernel) (by decide +kernel) (by decide +kernel) e103 Eq_ (g := (mkF m 21 #[.val (.ref a), .val (.ref f)] [(.ref q), (.ref f)])) rfl (by rw [hml]; rfl) (rest := []) pd__Ljava_lang_Object__Ljava_lang_Object_ pd__Ljava_lang_Object___B rfl (hb hby d11_21) (by decide) (by show 2 * 0 + 0 + (2 + 11) + (1 + 11 + 20) ≤ 60; decide) (by decide) (by decide)
  obtain ⟨u_104, rfl, N104q, O104, Kc104, Eu_104, Au_104, Gu_104, Su_104⟩ := hQ104
  have N104 := Fr.app N102 Nl104
  refine Go.st st104 ?_
  have Ea_h105 := Ea.keep Kc104
  have Fv_h105 := Fv.keep Kc104 nin0
  have Eq__h105 := Eq_.keep Kc104
  have Aq_h105 := Aq.keep Kc104 nin0
  have K104 := K0.trans Kc104 all0
  have ne_a_u_104 : a ≠ u_104 := Nat.ne_of_lt (Nat.lt_of_lt_of_le Ea.lt Su_104)
  have ne_q_u_104 : q ≠ u_104 := Nat.ne_of_lt (Nat.lt_of_lt_of_le Eq_.lt Su_104)
  have sz_u_104 : h0.size ≤ u_104 := Nat.le_trans K0.1 Su_104
  show Go p e below _ (T104.setTop (mkF m 26 #[.val (.ref a), .val (.ref f)] [(.ref u_104)]))
  obtain ⟨_, _, ⟨T106, L106, k106, n106⟩, -, X106, ⟨Lc106, hQ106, l106, y106, z106⟩, st106⟩ := Jvm.LawKit.callS X104 hx (y := (⟨"java/util/Optional", "ofNullable", "(Ljava/lang/Object;)Ljava/util/Optional;"⟩ : MethodName)) hown (mvT hZ (hw _ (List.mem_of_getElem? (i := 93) rfl))) (mvT hZ (hw _ (List.mem_of_getElem? (i := 49) rfl))) (mvT hZ (hw _ (List.mem_of_getElem? (i := 50) rfl))) (mvT hZ (hw _ (List.mem_of_getElem? (i := 51) rfl))) (by decide) (backOf (W := 0) (rmOf1 l Z a0 hw [] u_104 T104.heap O104 ) hZ (hw _ (List.mem_of_getElem? (i := 51) rfl)) (hw _ (List.mem_of_getElem? (i := 50) rfl)) (by decide) (by decide)) (g := (mkF m 26 #[.val (.ref a), .val (.ref f)] [(.ref u_104)])) rfl (by rw [hml]; rfl) (argsL := [(.ref u_104)]) (rest := []) (lenOf pd__Ljava_lang_Object__Ljava_util_Optional_ rfl) rfl (by show 2 * 0 + _ ≤ _; exact Nat.le_of_eq rfl) (hb hby d11_26) (fun _ _ => ⟨rfl, rfl, (by decide : 1 + 1 ≤ _), (by decide : 4 + 1 ≤ _)⟩)
  dsimp only [Pt.U, Pt.locs, Pt.cells, Pt.slots] at X106 l106 y106 z106 st106 hQ106
  subst y106 z106
  obtain ⟨b_106, rfl, N106q, O106, Kc106, Eb_106, Pv_106, Gb_106, Sb_106⟩ := hQ106
  have N106 : Fr Z.heap.size L106 := by rw [l106]; exact Fr.app N104 N106q
  refine Go.st st106 ?_
  have Ea_h107 := Ea_h105.keep Kc106
  have Fv_h107 := Fv_h105.keep Kc106 nin0
  have Eq__h107 := Eq__h105.keep Kc106
  have Aq_h107 := Aq_h105.keep Kc106 nin0
  have Eu_104_h107 := Eu_104.keep Kc106
  have Au_104_h107 := Au_104.keep Kc106 nin0
  have K106 := K104.trans Kc106 all0
  have ne_a_b_106 : a ≠ b_106 := Nat.ne_of_lt (Nat.lt_of_lt_of_le Ea_h105.lt Sb_106)
  have ne_q_b_106 : q ≠ b_106 := Nat.ne_of_lt (Nat.lt_of_lt_of_le Eq__h105.lt Sb_106)
  have ne_u_104_b_106 : u_104 ≠ b_106 := Nat.ne_of_lt (Nat.lt_of_lt_of_le Eu_104.lt Sb_106)
  have sz_b_106 : h0.size ≤ b_106 := Nat.le_trans K104.1 Sb_106
  show Go p e below _ (T106.setTop (mkF m 29 #[.val (.ref a), .val (.ref f)] [(.ref b_106)]))
  exact Go.outR X106 hx hlk hret rfl rfl (hb hby d11_29) (Q := Q_rmMap Z a f ck q kq z vs h0) (⟨b_106, u_104, rfl, N106, O106, K106, Eb_106, Pv_106, Eu_104_h107, Au_104_h107, Gb_106, Gu_104, sz_b_106, sz_u_104, (Ne.symm ne_u_104_b_106)⟩) (by decide) (by decide)
theorem ef_rmPl (m : MethodId) (x0 : Addr) : entryFrame m #[(.ref x0)] 1 = mkF m 0 #[.val (.ref x0)] [] := by first | (simp [entryFrame, mkF, argsToLocals, Value.category]; done) | rfl
def Q_rmPl (Z : State) (a : Addr) (q : Addr) (kq : ClassId) (z : Int32) (vs : List Value) (h0 : Heap) (v : Option Value) (h : Heap) (L : List Loc) : Prop := ∃ b : Addr, ∃ u : Addr, v = some (.ref b) ∧ Fr Z.heap.size L ∧ Ext Z.heap h ∧ Keep h0 h [] ∧ Exa Z h b "java/util/Optional" ∧ Fld Z h b "java/util/Optional" "value" "Ljava/lang/Object;" (.ref u) ∧ Exa Z h u "[B" ∧ Arv Z h u kq .byte z vs (.int (0 : Int32)) ∧ Z.heap.size ≤ b ∧ Z.heap.size ≤ u ∧ (h0.size ≤ b) ∧ (h0.size ≤ u) ∧ b ≠ u
theorem d9_0 : decode prog_73_method_5_code 0 = .ok (.aload_n 0, 1) := by decide +kernel
theorem d9_1 : decode prog_73_method_5_code 1 = .ok (.getfield 7, 3) := by decide +kernel
theorem d9_4 : decode prog_73_method_5_code 4 = .ok (.invokestatic 35, 3) := by decide +kernel
theorem d9_7 : decode prog_73_method_5_code 7 = .ok (.invokedynamic 41, 5) := by decide +kernel
theorem d9_12 : decode prog_73_method_5_code 12 = .ok (.invokevirtual 45, 3) := by decide +kernel
theorem pd__Ljava_util_function_Function__Ljava_util_Optional_ : parseMethodDescriptor "(Ljava/util/function/Function;)Ljava/util/Optional;" = some ⟨[(.object "java/util/function/Function")], some (.object "java/util/Optional")⟩ := by decide +kernel
theorem d9_15 : decode prog_73_method_5_code 15 = .ok (.areturn, 1) := by decide +kernel
set_option maxRecDepth 65536 in
set_option maxHeartbeats 40000000 in
theorem rmPl (l : Launch) (Z : State) (a0 : Array Value) (hw : ∀ d ∈ tables_1, d.before a0 Z = true) (ws : List Jvm.Cond) (a : Addr) (q : Addr) (kq : ClassId) (z : Int32) (vs : List Value) (h0 : Heap) (O0 : Ext Z.heap h0) (Fp : Fld Z h0 a "com/example/claim/claim/model/VerificationResult" "payload" "[B" (.ref q)) (Eq_ : Exa Z h0 q "[B") (Aq : Arv Z h0 q kq .byte z vs (.int (0 : Int32))) (hz : z.toNatClampNeg ≤ 4) :
    MetFree l (⟨"com/example/claim/claim/model/VerificationResult", "payload", "()Ljava/util/Optional;"⟩ : MethodName) (head1 (Jvm.Cond.code (⟨"com/example/claim/claim/model/VerificationResult", "payload", "()Ljava/util/Optional;"⟩ : MethodName) prog_73_method_5_code 1 (some (.object "java/util/Optional")) :: ws) ({ frames := 4, cells := 3, slots := 6, locals := 3090 } : Room)) (fun av' U => av' = #[(.ref a)] ∧ Z.Warmed39 U.vm ∧ U.heap = h0) (fun _ _ _ _ _ => True) (fun _ U o U' => ∃ v L, o = .returned v ∧ Q_rmPl Z a q kq z vs h0 v U'.heap L ∧ FrameEnd U o U' L ({ frames := 4, cells := 3, slots := 6, locals := 3090 } : Room).cells ({ frames := 4, cells := 3, slots := 6, locals := 3090 } : Room).slots) := by
  refine MetFree.of_bodySF (plainFor_of_name pn_com_example_claim_claim_model_VerificationResult) hisR ?_
  intro p e s m args below meth c s₁ Bd hml0 hP hK
  obtain ⟨rfl, hZ, hh⟩ := hP
  have hx := Bd.exec
  have hby := Bd.bytes
  have hret := Bd.returns
  have hlk : meth.locks = false := Bd.notSynchronized
  have hml : c.maxLocals = 1 := hml0
  have hown : s.vm.findClass "com/example/claim/claim/model/VerificationResult" = some m.cls := findClass_of_methodNamed Bd.named
  have hnm := (name_of_methodNamed Bd.named Bd.method).1
  have X0 : Stand p l e ({ frames := 4, cells := 3, slots := 6, locals := 3090 } : Room) s m #[(.ref a)] below meth c s₁ [] 0 0 := Stand.of_body Bd
  -- the walk
  have e0 : s₁.heap = h0 := by rw [← hh, Bd.state]; rfl
  have N0 := Fr.nil Z.heap.size
  have K0 := Keep.refl h0 []
  show Go p e below (GO s (Q_rmPl Z a q kq z vs h0) ({ frames := 4, cells := 3, slots := 6, locals := 3090 } : Room).cells ({ frames := 4, cells := 3, slots := 6, locals := 3090 } : Room).slots) (s₁.setTop (entryFrame m #[(.ref a)] 1))
  refine Go.st (fun t' k' => castTop (ef_rmPl m a) k') ?_
  show Go p e below _ (s₁.setTop (mkF m 0 #[.val (.ref a)] []))
  refine Go.st (fun t' k' => XS.aloadN X0.here hx rfl (hb hby d9_0) rfl rfl k') ?_
  show Go p e below _ (s₁.setTop (mkF m 1 #[.val (.ref a)] [(.ref a)]))
  obtain ⟨T101, X101, e101, st101⟩ := getF X0 hx hZ hown (host := "") (Or.inl (hw _ (List.mem_of_getElem? (i := 34) rfl))) Via.refl e0 Fp (g := (mkF m 1 #[.val (.ref a)] [(.ref a)])) rfl rfl (hb hby d9_1)
  refine Go.st st101 ?_
  show Go p e below _ (T101.setTop (mkF m 4 #[.val (.ref a)] [(.ref q)]))
  obtain ⟨_, _, ⟨T102, L102, k102, n102⟩, -, X102, ⟨Lc102, hQ102, l102, y102, z102⟩, st102⟩ := Jvm.LawKit.callS X101 hx (y := (⟨"java/util/Optional", "ofNullable", "(Ljava/lang/Object;)Ljava/util/Optional;"⟩ : MethodName)) hown (mvT hZ (hw _ (List.mem_of_getElem? (i := 48) rfl))) (mvT hZ (hw _ (List.mem_of_getElem? (i := 49) rfl))) (mvT hZ (hw _ (List.mem_of_getElem? (i := 50) rfl))) (mvT hZ (hw _ (List.mem_of_getElem? (i := 51) rfl))) (by decide) (backOf (W := 0) (rmOf1 l Z a0 hw [] q h0 O0 ) hZ (hw _ (List.mem_of_getElem? (i := 51) rfl)) (hw _ (List.mem_of_getElem? (i := 50) rfl)) (by decide) (by decide)) (g := (mkF m 4 #[.val (.ref a)] [(.ref q)])) rfl (by rw [hml]; rfl) (argsL := [(.ref q)]) (rest := []) (lenOf pd__Ljava_lang_Object__Ljava_util_Optional_ rfl) rfl (by show 2 * 0 + _ ≤ _; exact Nat.le_of_eq rfl) (hb hby d9_4) (fun _ _ => ⟨rfl, e101, (by decide : 0 + 1 ≤ _), (by decide : 0 + 1 ≤ _)⟩)
  dsimp only [Pt.U, Pt.locs, Pt.cells, Pt.slots] at X102 l102 y102 z102 st102 hQ102
  subst y102 z102
  obtain ⟨b_102, rfl, N102q, O102, Kc102, Eb_102, Pv_102, Gb_102, Sb_102⟩ := hQ102
  have N102 : Fr Z.heap.size L102 := by rw [l102]; exact Fr.app N0 N102q
  refine Go.st st102 ?_
  have Fp_h103 := Fp.keep Kc102 nin0
  have Eq__h103 := Eq_.keep Kc102
  have Aq_h103 := Aq.keep Kc102 nin0
  have K102 := K0.trans Kc102 all0
  have ne_a_b_102 : a ≠ b_102 := Nat.ne_of_lt (Nat.lt_of_lt_of_le Fp.lt Sb_102)
  have ne_q_b_102 : q ≠ b_102 := Nat.ne_of_lt (Nat.lt_of_lt_of_le Eq_.lt Sb_102)
  have sz_b_102 : h0.size ≤ b_102 := Nat.le_trans K0.1 Sb_102
  show Go p e below _ (T102.setTop (mkF m 7 #[.val (.ref a)] [(.ref b_102)]))
  obtain ⟨f104, ck104, Md104, Fn104, st104⟩ := own_site X102 hx hZ Bd.named (hw _ (List.mem_of_getElem? (i := 72) rfl)) rfl (g := (mkF m 7 #[.val (.ref a)] [(.ref b_102)])) rfl rfl (by rw [hml]; rfl) (hb hby d9_7) (by show 2 * 0 + 1 + 3072 ≤ 3090; decide)
  refine Go.st st104 ?_
  show Go p e below _ (T102.setTop (mkF m 12 #[.val (.ref a)] [(.ref f104), (.ref b_102)]))
  obtain ⟨cq105, kq105, q105a, q105b, q105c⟩ := isOf hZ rfl Eb_102
  obtain ⟨_, _, ⟨T105, L105, k105, n105⟩, -, X105, ⟨Lc105, hQ105, l105, y105, z105⟩, st105⟩ := X102.virtualBack hx (y := (⟨"java/util/Optional", "map", "(Ljava/util/function/Function;)Ljava/util/Optional;"⟩ : MethodName)) (z := (⟨"java/util/Optional", "map", "(Ljava/util/function/Function;)Ljava/util/Optional;"⟩ : MethodName)) hown (mvT hZ (hw _ (List.mem_of_getElem? (i := 75) rfl))) (mvT hZ (hw _ (List.mem_of_getElem? (i := 76) rfl))) (notFace_of_selects (args := #[]) (mvT hZ (hw _ (List.mem_of_getElem? (i := 78) rfl)))) (mvT hZ (hw _ (List.mem_of_getElem? (i := 78) rfl))) (mvT hZ (hw _ (List.mem_of_getElem? (i := 77) rfl))) (by decide) (backOf (W := 0) (rmMap l Z a0 hw [] b_102 f104 ck104 q kq z vs T102.heap O102 Eb_102 Pv_102 Eq__h103 Aq_h103 hz Md104 Fn104) hZ (hw _ (List.mem_of_getElem? (i := 79) rfl)) (hw _ (List.mem_of_getElem? (i := 50) rfl)) (by decide) (by decide)) q105a q105c (g := (mkF m 12 #[.val (.ref a)] [(.ref f104), (.ref b_102)])) rfl (by rw [hml]; rfl) (Steps.refl _) (argsL := [(.ref f104)]) (rest := []) (lenOf pd__Ljava_util_function_Function__Ljava_util_Optional_ rfl) rfl (by show 2 * 0 + _ ≤ _; exact Nat.le_of_eq rfl) (hb hby d9_12) (fun _ _ => ⟨rfl, rfl, (by decide : 1 + 2 ≤ _), (by decide : 1 + 5 ≤ _)⟩)
  dsimp only [Pt.U, Pt.locs, Pt.cells, Pt.slots] at X105 l105 y105 z105 st105 hQ105
  subst y105 z105
  obtain ⟨b_105, u_105, rfl, N105q, O105, Kc105, Eb_105, Pv_105, Eu_105, Au_105, Gb_105, Gu_105, Sb_105, Su_105, Nbu_105⟩ := hQ105
  have N105 : Fr Z.heap.size L105 := by rw [l105]; exact Fr.app N102 N105q
  refine Go.tr st105 ?_
  have Fp_h106 := Fp_h103.keep Kc105 nin0
  have Eq__h106 := Eq__h103.keep Kc105
  have Aq_h106 := Aq_h103.keep Kc105 nin0
  have Eb_102_h106 := Eb_102.keep Kc105
  have Pv_102_h106 := Pv_102.keep Kc105 nin0
  have K105 := K102.trans Kc105 all0
  have ne_a_b_105 : a ≠ b_105 := Nat.ne_of_lt (Nat.lt_of_lt_of_le Fp_h103.lt Sb_105)
  have ne_q_b_105 : q ≠ b_105 := Nat.ne_of_lt (Nat.lt_of_lt_of_le Eq__h103.lt Sb_105)
  have ne_b_102_b_105 : b_102 ≠ b_105 := Nat.ne_of_lt (Nat.lt_of_lt_of_le Eb_102.lt Sb_105)
  have sz_b_105 : h0.size ≤ b_105 := Nat.le_trans K102.1 Sb_105
  have ne_a_u_105 : a ≠ u_105 := Nat.ne_of_lt (Nat.lt_of_lt_of_le Fp_h103.lt Su_105)
  have ne_q_u_105 : q ≠ u_105 := Nat.ne_of_lt (Nat.lt_of_lt_of_le Eq__h103.lt Su_105)
  have ne_b_102_u_105 : b_102 ≠ u_105 := Nat.ne_of_lt (Nat.lt_of_lt_of_le Eb_102.lt Su_105)
  have sz_u_105 : h0.size ≤ u_105 := Nat.le_trans K102.1 Su_105
  show Go p e below _ (T105.setTop (mkF m 15 #[.val (.ref a)] [(.ref b_105)]))
  exact Go.outR X105 hx hlk hret rfl rfl (hb hby d9_15) (Q := Q_rmPl Z a q kq z vs h0) (⟨b_105, u_105, rfl, N105, O105, K105, Eb_105, Pv_105, Eu_105, Au_105, Gb_105, Gu_105, sz_b_105, sz_u_105, Nbu_105⟩) (by decide) (by decide)
theorem ef_rmSm0 (m : MethodId) (x0 : Addr) (x1 : Int32) (x2 : Int32) (x3 : Int32) (x4 : Int32) (x5 : Int32) : entryFrame m #[(.ref x0), (.int x1), (.int x2), (.int x3), (.int x4), (.int x5)] 6 = mkF m 0 #[.val (.ref x0), .val (.int x1), .val (.int x2), .val (.int x3), .val (.int x4), .val (.int x5)] [] := by first | (simp [entryFrame, mkF, argsToLocals, Value.category]; done) | rfl
def Q_rmSm0 (Z : State) (a : Addr) (b0 : Int32) (b1 : Int32) (b2 : Int32) (b3 : Int32) (kq : ClassId) (h0 : Heap) (v : Option Value) (h : Heap) (L : List Loc) : Prop := v = some (.int (1 : Int32)) ∧ L = [] ∧ h = h0
theorem pn_com_example_claim_claim_model_VerificationResultAcceptedPinLaw : plainName "com/example/claim/claim/model/VerificationResultAcceptedPinLaw" = true := by first | (simp [plainName, overriddenIn]; done) | decide +kernel
theorem d16_0 : decode method_2_code 0 = .ok (.aload_n 0, 1) := by decide +kernel
theorem d16_1 : decode method_2_code 1 = .ok (.ifnonnull 5, 3) := by decide +kernel
theorem d16_6 : decode method_2_code 6 = .ok (.aload_n 0, 1) := by decide +kernel
theorem d16_7 : decode method_2_code 7 = .ok (.arraylength, 1) := by decide +kernel
theorem d16_8 : decode method_2_code 8 = .ok (.iload_n 1, 1) := by decide +kernel
theorem d16_9 : decode method_2_code 9 = .ok (.if_icmp .eq 5, 3) := by decide +kernel
theorem d16_14 : decode method_2_code 14 = .ok (.iload_n 1, 1) := by decide +kernel
theorem d16_15 : decode method_2_code 15 = .ok (.ifCond .le 12, 3) := by decide +kernel
theorem d16_27 : decode method_2_code 27 = .ok (.iload_n 1, 1) := by decide +kernel
theorem d16_28 : decode method_2_code 28 = .ok (.iconst 1, 1) := by decide +kernel
theorem d16_29 : decode method_2_code 29 = .ok (.if_icmp .le 12, 3) := by decide +kernel
theorem d16_41 : decode method_2_code 41 = .ok (.iload_n 1, 1) := by decide +kernel
theorem d16_42 : decode method_2_code 42 = .ok (.iconst 2, 1) := by decide +kernel
theorem d16_43 : decode method_2_code 43 = .ok (.if_icmp .le 13, 3) := by decide +kernel
theorem d16_56 : decode method_2_code 56 = .ok (.iload_n 1, 1) := by decide +kernel
theorem d16_57 : decode method_2_code 57 = .ok (.iconst 3, 1) := by decide +kernel
theorem d16_58 : decode method_2_code 58 = .ok (.if_icmp .le 13, 3) := by decide +kernel
theorem d16_71 : decode method_2_code 71 = .ok (.iconst 1, 1) := by decide +kernel
theorem d16_72 : decode method_2_code 72 = .ok (.ireturn, 1) := by decide +kernel
set_option maxRecDepth 65536 in
set_option maxHeartbeats 40000000 in
theorem rmSm0 (l : Launch) (Z : State) (a0 : Array Value) (hw : ∀ d ∈ tables_1, d.before a0 Z = true) (ws : List Jvm.Cond) (a : Addr) (b0 : Int32) (b1 : Int32) (b2 : Int32) (b3 : Int32) (kq : ClassId) (h0 : Heap) (O0 : Ext Z.heap h0) (Aa : Arv Z h0 a kq .byte (0 : Int32) [] (.int (0 : Int32))) :
    MetFree l (⟨"com/example/claim/claim/model/VerificationResultAcceptedPinLaw", "same", "([BIBBBB)Z"⟩ : MethodName) (head1 (Jvm.Cond.code (⟨"com/example/claim/claim/model/VerificationResultAcceptedPinLaw", "same", "([BIBBBB)Z"⟩ : MethodName) method_2_code 6 (some .boolean) :: ws) ({ frames := 0, cells := 0, slots := 0, locals := 0 } : Room)) (fun av' U => av' = #[(.ref a), (.int (0 : Int32)), (.int b0), (.int b1), (.int b2), (.int b3)] ∧ Z.Warmed39 U.vm ∧ U.heap = h0) (fun _ _ _ _ _ => True) (fun _ U o U' => ∃ v L, o = .returned v ∧ Q_rmSm0 Z a b0 b1 b2 b3 kq h0 v U'.heap L ∧ FrameEnd U o U' L ({ frames := 0, cells := 0, slots := 0, locals := 0 } : Room).cells ({ frames := 0, cells := 0, slots := 0, locals := 0 } : Room).slots) := by
  refine MetFree.of_bodySF (plainFor_of_name pn_com_example_claim_claim_model_VerificationResultAcceptedPinLaw) hisR ?_
  intro p e s m args below meth c s₁ Bd hml0 hP hK
  obtain ⟨rfl, hZ, hh⟩ := hP
  have hx := Bd.exec
  have hby := Bd.bytes
  have hret := Bd.returns
  have hlk : meth.locks = false := Bd.notSynchronized
  have hml : c.maxLocals = 6 := hml0
  have hown : s.vm.findClass "com/example/claim/claim/model/VerificationResultAcceptedPinLaw" = some m.cls := findClass_of_methodNamed Bd.named
  have hnm := (name_of_methodNamed Bd.named Bd.method).1
  have X0 : Stand p l e ({ frames := 0, cells := 0, slots := 0, locals := 0 } : Room) s m #[(.ref a), (.int (0 : Int32)), (.int b0), (.int b1), (.int b2), (.int b3)] below meth c s₁ [] 0 0 := Stand.of_body Bd
  -- the walk
  have e0 : s₁.heap = h0 := by rw [← hh, Bd.state]; rfl
  have N0 := Fr.nil Z.heap.size
  show Go p e below (GO s (Q_rmSm0 Z a b0 b1 b2 b3 kq h0) ({ frames := 0, cells := 0, slots := 0, locals := 0 } : Room).cells ({ frames := 0, cells := 0, slots := 0, locals := 0 } : Room).slots) (s₁.setTop (entryFrame m #[(.ref a), (.int (0 : Int32)), (.int b0), (.int b1), (.int b2), (.int b3)] 6))
  refine Go.st (fun t' k' => castTop (ef_rmSm0 m a (0 : Int32) b0 b1 b2 b3) k') ?_
  show Go p e below _ (s₁.setTop (mkF m 0 #[.val (.ref a), .val (.int (0 : Int32)), .val (.int b0), .val (.int b1), .val (.int b2), .val (.int b3)] []))
  refine Go.st (fun t' k' => XS.aloadN X0.here hx rfl (hb hby d16_0) rfl rfl k') ?_
  show Go p e below _ (s₁.setTop (mkF m 1 #[.val (.ref a), .val (.int (0 : Int32)), .val (.int b0), .val (.int b1), .val (.int b2), .val (.int b3)] [(.ref a)]))
  refine Go.st (fun t' k' => XS.ifnonnullYes X0.here hx rfl (pc0 := 1) (pc' := 6) rfl (hb hby d16_1) rfl (by decide) (by decide) k') ?_
  show Go p e below _ (s₁.setTop (mkF m 6 #[.val (.ref a), .val (.int (0 : Int32)), .val (.int b0), .val (.int b1), .val (.int b2), .val (.int b3)] []))
  refine Go.st (fun t' k' => XS.aloadN X0.here hx rfl (hb hby d16_6) rfl rfl k') ?_
  show Go p e below _ (s₁.setTop (mkF m 7 #[.val (.ref a), .val (.int (0 : Int32)), .val (.int b0), .val (.int b1), .val (.int b2), .val (.int b3)] [(.ref a)]))
  obtain ⟨cll101, Arl101, ql101, Szl101, Nzl101, Hsl101, Gsl101⟩ := (id Aa)
  refine Go.st (X0.arraylength hx (by rw [e0]; exact Arl101.1) (State.isArrayOf_alike hZ.alike Arl101.2.1) (g := (mkF m 7 #[.val (.ref a), .val (.int (0 : Int32)), .val (.int b0), .val (.int b1), .val (.int b2), .val (.int b3)] [(.ref a)])) rfl rfl (hb hby d16_7)) ?_
  rw [len_of Szl101 Nzl101]
  show Go p e below _ (s₁.setTop (mkF m 8 #[.val (.ref a), .val (.int (0 : Int32)), .val (.int b0), .val (.int b1), .val (.int b2), .val (.int b3)] [(.int (0 : Int32))]))
  refine Go.st (fun t' k' => XS.iloadN X0.here hx rfl (hb hby d16_8) rfl k') ?_
  show Go p e below _ (s₁.setTop (mkF m 9 #[.val (.ref a), .val (.int (0 : Int32)), .val (.int b0), .val (.int b1), .val (.int b2), .val (.int b3)] [(.int (0 : Int32)), (.int (0 : Int32))]))
  refine Go.st (fun t' k' => XS.icmpYes X0.here hx rfl (pc0 := 9) (pc' := 14) rfl (hb hby d16_9) rfl (teq (by decide : (0 : Int32) = (0 : Int32))).1 (by decide) (by decide) k') ?_
  show Go p e below _ (s₁.setTop (mkF m 14 #[.val (.ref a), .val (.int (0 : Int32)), .val (.int b0), .val (.int b1), .val (.int b2), .val (.int b3)] []))
  refine Go.st (fun t' k' => XS.iloadN X0.here hx rfl (hb hby d16_14) rfl k') ?_
  show Go p e below _ (s₁.setTop (mkF m 15 #[.val (.ref a), .val (.int (0 : Int32)), .val (.int b0), .val (.int b1), .val (.int b2), .val (.int b3)] [(.int (0 : Int32))]))
  refine Go.st (fun t' k' => XS.ifYes X0.here hx rfl (pc0 := 15) (pc' := 27) rfl (hb hby d16_15) rfl ((if0 _ _).trans (flt (by decide : ¬ ((0 : Int32) < (0 : Int32)))).2.2.2) (by decide) (by decide) k') ?_
  show Go p e below _ (s₁.setTop (mkF m 27 #[.val (.ref a), .val (.int (0 : Int32)), .val (.int b0), .val (.int b1), .val (.int b2), .val (.int b3)] []))
  refine Go.st (fun t' k' => XS.iloadN X0.here hx rfl (hb hby d16_27) rfl k') ?_
  show Go p e below _ (s₁.setTop (mkF m 28 #[.val (.ref a), .val (.int (0 : Int32)), .val (.int b0), .val (.int b1), .val (.int b2), .val (.int b3)] [(.int (0 : Int32))]))
  refine Go.st (fun t' k' => XS.iconst X0.here hx rfl (hb hby d16_28) k') ?_
  show Go p e below _ (s₁.setTop (mkF m 29 #[.val (.ref a), .val (.int (0 : Int32)), .val (.int b0), .val (.int b1), .val (.int b2), .val (.int b3)] [(.int (1 : Int32)), (.int (0 : Int32))]))
  refine Go.st (fun t' k' => XS.icmpYes X0.here hx rfl (pc0 := 29) (pc' := 41) rfl (hb hby d16_29) rfl (flt (by decide : ¬ ((1 : Int32) < (0 : Int32)))).2.2.2 (by decide) (by decide) k') ?_
  show Go p e below _ (s₁.setTop (mkF m 41 #[.val (.ref a), .val (.int (0 : Int32)), .val (.int b0), .val (.int b1), .val (.int b2), .val (.int b3)] []))
  refine Go.st (fun t' k' => XS.iloadN X0.here hx rfl (hb hby d16_41) rfl k') ?_
  show Go p e below _ (s₁.setTop (mkF m 42 #[.val (.ref a), .val (.int (0 : Int32)), .val (.int b0), .val (.int b1), .val (.int b2), .val (.int b3)] [(.int (0 : Int32))]))
  refine Go.st (fun t' k' => XS.iconst X0.here hx rfl (hb hby d16_42) k') ?_
  show Go p e below _ (s₁.setTop (mkF m 43 #[.val (.ref a), .val (.int (0 : Int32)), .val (.int b0), .val (.int b1), .val (.int b2), .val (.int b3)] [(.int (2 : Int32)), (.int (0 : Int32))]))
  refine Go.st (fun t' k' => XS.icmpYes X0.here hx rfl (pc0 := 43) (pc' := 56) rfl (hb hby d16_43) rfl (flt (by decide : ¬ ((2 : Int32) < (0 : Int32)))).2.2.2 (by decide) (by decide) k') ?_
  show Go p e below _ (s₁.setTop (mkF m 56 #[.val (.ref a), .val (.int (0 : Int32)), .val (.int b0), .val (.int b1), .val (.int b2), .val (.int b3)] []))
  refine Go.st (fun t' k' => XS.iloadN X0.here hx rfl (hb hby d16_56) rfl k') ?_
  show Go p e below _ (s₁.setTop (mkF m 57 #[.val (.ref a), .val (.int (0 : Int32)), .val (.int b0), .val (.int b1), .val (.int b2), .val (.int b3)] [(.int (0 : Int32))]))
  refine Go.st (fun t' k' => XS.iconst X0.here hx rfl (hb hby d16_57) k') ?_
  show Go p e below _ (s₁.setTop (mkF m 58 #[.val (.ref a), .val (.int (0 : Int32)), .val (.int b0), .val (.int b1), .val (.int b2), .val (.int b3)] [(.int (3 : Int32)), (.int (0 : Int32))]))
  refine Go.st (fun t' k' => XS.icmpYes X0.here hx rfl (pc0 := 58) (pc' := 71) rfl (hb hby d16_58) rfl (flt (by decide : ¬ ((3 : Int32) < (0 : Int32)))).2.2.2 (by decide) (by decide) k') ?_
  show Go p e below _ (s₁.setTop (mkF m 71 #[.val (.ref a), .val (.int (0 : Int32)), .val (.int b0), .val (.int b1), .val (.int b2), .val (.int b3)] []))
  refine Go.st (fun t' k' => XS.iconst X0.here hx rfl (hb hby d16_71) k') ?_
  show Go p e below _ (s₁.setTop (mkF m 72 #[.val (.ref a), .val (.int (0 : Int32)), .val (.int b0), .val (.int b1), .val (.int b2), .val (.int b3)] [(.int (1 : Int32))]))
  exact Go.outN X0 hx hlk (t := .boolean) hret (by simp) (hb hby d16_72) (Q := Q_rmSm0 Z a b0 b1 b2 b3 kq h0) (by rw [e0]; exact ⟨rfl, rfl, rfl⟩) (by decide) (by decide)
theorem ef_rmSm1 (m : MethodId) (x0 : Addr) (x1 : Int32) (x2 : Int32) (x3 : Int32) (x4 : Int32) (x5 : Int32) : entryFrame m #[(.ref x0), (.int x1), (.int x2), (.int x3), (.int x4), (.int x5)] 6 = mkF m 0 #[.val (.ref x0), .val (.int x1), .val (.int x2), .val (.int x3), .val (.int x4), .val (.int x5)] [] := by first | (simp [entryFrame, mkF, argsToLocals, Value.category]; done) | rfl
def Q_rmSm1 (Z : State) (a : Addr) (b0 : Int32) (b1 : Int32) (b2 : Int32) (b3 : Int32) (kq : ClassId) (h0 : Heap) (v : Option Value) (h : Heap) (L : List Loc) : Prop := v = some (.int (1 : Int32)) ∧ L = [] ∧ h = h0
theorem d16_18 : decode method_2_code 18 = .ok (.aload_n 0, 1) := by decide +kernel
theorem d16_19 : decode method_2_code 19 = .ok (.iconst 0, 1) := by decide +kernel
theorem d16_20 : decode method_2_code 20 = .ok (.baload, 1) := by decide +kernel
theorem d16_21 : decode method_2_code 21 = .ok (.iload_n 2, 1) := by decide +kernel
theorem d16_22 : decode method_2_code 22 = .ok (.if_icmp .eq 5, 3) := by decide +kernel
set_option maxRecDepth 65536 in
set_option maxHeartbeats 40000000 in
theorem rmSm1 (l : Launch) (Z : State) (a0 : Array Value) (hw : ∀ d ∈ tables_1, d.before a0 Z = true) (ws : List Jvm.Cond) (a : Addr) (b0 : Int32) (b1 : Int32) (b2 : Int32) (b3 : Int32) (kq : ClassId) (h0 : Heap) (O0 : Ext Z.heap h0) (Aa : Arv Z h0 a kq .byte (1 : Int32) [(.int b0)] (.int (0 : Int32))) :
    MetFree l (⟨"com/example/claim/claim/model/VerificationResultAcceptedPinLaw", "same", "([BIBBBB)Z"⟩ : MethodName) (head1 (Jvm.Cond.code (⟨"com/example/claim/claim/model/VerificationResultAcceptedPinLaw", "same", "([BIBBBB)Z"⟩ : MethodName) method_2_code 6 (some .boolean) :: ws) ({ frames := 0, cells := 0, slots := 0, locals := 0 } : Room)) (fun av' U => av' = #[(.ref a), (.int (1 : Int32)), (.int b0), (.int b1), (.int b2), (.int b3)] ∧ Z.Warmed39 U.vm ∧ U.heap = h0) (fun _ _ _ _ _ => True) (fun _ U o U' => ∃ v L, o = .returned v ∧ Q_rmSm1 Z a b0 b1 b2 b3 kq h0 v U'.heap L ∧ FrameEnd U o U' L ({ frames := 0, cells := 0, slots := 0, locals := 0 } : Room).cells ({ frames := 0, cells := 0, slots := 0, locals := 0 } : Room).slots) := by
  refine MetFree.of_bodySF (plainFor_of_name pn_com_example_claim_claim_model_VerificationResultAcceptedPinLaw) hisR ?_
  intro p e s m args below meth c s₁ Bd hml0 hP hK
  obtain ⟨rfl, hZ, hh⟩ := hP
  have hx := Bd.exec
  have hby := Bd.bytes
  have hret := Bd.returns
  have hlk : meth.locks = false := Bd.notSynchronized
  have hml : c.maxLocals = 6 := hml0
  have hown : s.vm.findClass "com/example/claim/claim/model/VerificationResultAcceptedPinLaw" = some m.cls := findClass_of_methodNamed Bd.named
  have hnm := (name_of_methodNamed Bd.named Bd.method).1
  have X0 : Stand p l e ({ frames := 0, cells := 0, slots := 0, locals := 0 } : Room) s m #[(.ref a), (.int (1 : Int32)), (.int b0), (.int b1), (.int b2), (.int b3)] below meth c s₁ [] 0 0 := Stand.of_body Bd
  -- the walk
  have e0 : s₁.heap = h0 := by rw [← hh, Bd.state]; rfl
  have N0 := Fr.nil Z.heap.size
  show Go p e below (GO s (Q_rmSm1 Z a b0 b1 b2 b3 kq h0) ({ frames := 0, cells := 0, slots := 0, locals := 0 } : Room).cells ({ frames := 0, cells := 0, slots := 0, locals := 0 } : Room).slots) (s₁.setTop (entryFrame m #[(.ref a), (.int (1 : Int32)), (.int b0), (.int b1), (.int b2), (.int b3)] 6))
  refine Go.st (fun t' k' => castTop (ef_rmSm1 m a (1 : Int32) b0 b1 b2 b3) k') ?_
  show Go p e below _ (s₁.setTop (mkF m 0 #[.val (.ref a), .val (.int (1 : Int32)), .val (.int b0), .val (.int b1), .val (.int b2), .val (.int b3)] []))
  refine Go.st (fun t' k' => XS.aloadN X0.here hx rfl (hb hby d16_0) rfl rfl k') ?_
  show Go p e below _ (s₁.setTop (mkF m 1 #[.val (.ref a), .val (.int (1 : Int32)), .val (.int b0), .val (.int b1), .val (.int b2), .val (.int b3)] [(.ref a)]))
  refine Go.st (fun t' k' => XS.ifnonnullYes X0.here hx rfl (pc0 := 1) (pc' := 6) rfl (hb hby d16_1) rfl (by decide) (by decide) k') ?_
  show Go p e below _ (s₁.setTop (mkF m 6 #[.val (.ref a), .val (.int (1 : Int32)), .val (.int b0), .val (.int b1), .val (.int b2), .val (.int b3)] []))
  refine Go.st (fun t' k' => XS.aloadN X0.here hx rfl (hb hby d16_6) rfl rfl k') ?_
  show Go p e below _ (s₁.setTop (mkF m 7 #[.val (.ref a), .val (.int (1 : Int32)), .val (.int b0), .val (.int b1), .val (.int b2), .val (.int b3)] [(.ref a)]))
  obtain ⟨cll101, Arl101, ql101, Szl101, Nzl101, Hsl101, Gsl101⟩ := (id Aa)
  refine Go.st (X0.arraylength hx (by rw [e0]; exact Arl101.1) (State.isArrayOf_alike hZ.alike Arl101.2.1) (g := (mkF m 7 #[.val (.ref a), .val (.int (1 : Int32)), .val (.int b0), .val (.int b1), .val (.int b2), .val (.int b3)] [(.ref a)])) rfl rfl (hb hby d16_7)) ?_
  rw [len_of Szl101 Nzl101]
  show Go p e below _ (s₁.setTop (mkF m 8 #[.val (.ref a), .val (.int (1 : Int32)), .val (.int b0), .val (.int b1), .val (.int b2), .val (.int b3)] [(.int (1 : Int32))]))
  refine Go.st (fun t' k' => XS.iloadN X0.here hx rfl (hb hby d16_8) rfl k') ?_
  show Go p e below _ (s₁.setTop (mkF m 9 #[.val (.ref a), .val (.int (1 : Int32)), .val (.int b0), .val (.int b1), .val (.int b2), .val (.int b3)] [(.int (1 : Int32)), (.int (1 : Int32))]))
  refine Go.st (fun t' k' => XS.icmpYes X0.here hx rfl (pc0 := 9) (pc' := 14) rfl (hb hby d16_9) rfl (teq (by decide : (1 : Int32) = (1 : Int32))).1 (by decide) (by decide) k') ?_
  show Go p e below _ (s₁.setTop (mkF m 14 #[.val (.ref a), .val (.int (1 : Int32)), .val (.int b0), .val (.int b1), .val (.int b2), .val (.int b3)] []))
  refine Go.st (fun t' k' => XS.iloadN X0.here hx rfl (hb hby d16_14) rfl k') ?_
  show Go p e below _ (s₁.setTop (mkF m 15 #[.val (.ref a), .val (.int (1 : Int32)), .val (.int b0), .val (.int b1), .val (.int b2), .val (.int b3)] [(.int (1 : Int32))]))
  refine Go.st (fun t' k' => XS.ifNo X0.here hx rfl (hb hby d16_15) rfl ((if0 _ _).trans (tlt (by decide : (0 : Int32) < (1 : Int32))).2.2.2) k') ?_
  show Go p e below _ (s₁.setTop (mkF m 18 #[.val (.ref a), .val (.int (1 : Int32)), .val (.int b0), .val (.int b1), .val (.int b2), .val (.int b3)] []))
  refine Go.st (fun t' k' => XS.aloadN X0.here hx rfl (hb hby d16_18) rfl rfl k') ?_
  show Go p e below _ (s₁.setTop (mkF m 19 #[.val (.ref a), .val (.int (1 : Int32)), .val (.int b0), .val (.int b1), .val (.int b2), .val (.int b3)] [(.ref a)]))
  refine Go.st (fun t' k' => XS.iconst X0.here hx rfl (hb hby d16_19) k') ?_
  show Go p e below _ (s₁.setTop (mkF m 20 #[.val (.ref a), .val (.int (1 : Int32)), .val (.int b0), .val (.int b1), .val (.int b2), .val (.int b3)] [(.int (0 : Int32)), (.ref a)]))
  obtain ⟨cla102, Ara102, qa102, Sza102, Nza102, Hsa102, Gsa102⟩ := (id Aa)
  have hina102 : ¬ ((0 : Int32) < 0 ∨ cla102.slots.size ≤ ((0 : Int32)).toNatClampNeg) := inb_of Sza102 ⟨by decide, by decide⟩
  have hata102 : cla102.slots[((0 : Int32)).toNatClampNeg]? = some (.int b0) := Has.at Hsa102 hina102 rfl
  refine Go.st (X0.baloadBytes hx (j := (0 : Int32)) (v := (.int b0)) (by rw [e0]; exact Ara102.1) (State.isArrayOf_alike hZ.alike Ara102.2.1) Ara102.2.2 hina102 hata102 (g := (mkF m 20 #[.val (.ref a), .val (.int (1 : Int32)), .val (.int b0), .val (.int b1), .val (.int b2), .val (.int b3)] [(.int (0 : Int32)), (.ref a)])) rfl rfl (hb hby d16_20)) ?_
  show Go p e below _ (s₁.setTop (mkF m 21 #[.val (.ref a), .val (.int (1 : Int32)), .val (.int b0), .val (.int b1), .val (.int b2), .val (.int b3)] [(.int b0)]))
  refine Go.st (fun t' k' => XS.iloadN X0.here hx rfl (hb hby d16_21) rfl k') ?_
  show Go p e below _ (s₁.setTop (mkF m 22 #[.val (.ref a), .val (.int (1 : Int32)), .val (.int b0), .val (.int b1), .val (.int b2), .val (.int b3)] [(.int b0), (.int b0)]))
  refine Go.st (fun t' k' => XS.icmpYes X0.here hx rfl (pc0 := 22) (pc' := 27) rfl (hb hby d16_22) rfl (teq rfl).1 (by decide) (by decide) k') ?_
  show Go p e below _ (s₁.setTop (mkF m 27 #[.val (.ref a), .val (.int (1 : Int32)), .val (.int b0), .val (.int b1), .val (.int b2), .val (.int b3)] []))
  refine Go.st (fun t' k' => XS.iloadN X0.here hx rfl (hb hby d16_27) rfl k') ?_
  show Go p e below _ (s₁.setTop (mkF m 28 #[.val (.ref a), .val (.int (1 : Int32)), .val (.int b0), .val (.int b1), .val (.int b2), .val (.int b3)] [(.int (1 : Int32))]))
  refine Go.st (fun t' k' => XS.iconst X0.here hx rfl (hb hby d16_28) k') ?_
  show Go p e below _ (s₁.setTop (mkF m 29 #[.val (.ref a), .val (.int (1 : Int32)), .val (.int b0), .val (.int b1), .val (.int b2), .val (.int b3)] [(.int (1 : Int32)), (.int (1 : Int32))]))
  refine Go.st (fun t' k' => XS.icmpYes X0.here hx rfl (pc0 := 29) (pc' := 41) rfl (hb hby d16_29) rfl (flt (by decide : ¬ ((1 : Int32) < (1 : Int32)))).2.2.2 (by decide) (by decide) k') ?_
  show Go p e below _ (s₁.setTop (mkF m 41 #[.val (.ref a), .val (.int (1 : Int32)), .val (.int b0), .val (.int b1), .val (.int b2), .val (.int b3)] []))
  refine Go.st (fun t' k' => XS.iloadN X0.here hx rfl (hb hby d16_41) rfl k') ?_
  show Go p e below _ (s₁.setTop (mkF m 42 #[.val (.ref a), .val (.int (1 : Int32)), .val (.int b0), .val (.int b1), .val (.int b2), .val (.int b3)] [(.int (1 : Int32))]))
  refine Go.st (fun t' k' => XS.iconst X0.here hx rfl (hb hby d16_42) k') ?_
  show Go p e below _ (s₁.setTop (mkF m 43 #[.val (.ref a), .val (.int (1 : Int32)), .val (.int b0), .val (.int b1), .val (.int b2), .val (.int b3)] [(.int (2 : Int32)), (.int (1 : Int32))]))
  refine Go.st (fun t' k' => XS.icmpYes X0.here hx rfl (pc0 := 43) (pc' := 56) rfl (hb hby d16_43) rfl (flt (by decide : ¬ ((2 : Int32) < (1 : Int32)))).2.2.2 (by decide) (by decide) k') ?_
  show Go p e below _ (s₁.setTop (mkF m 56 #[.val (.ref a), .val (.int (1 : Int32)), .val (.int b0), .val (.int b1), .val (.int b2), .val (.int b3)] []))
  refine Go.st (fun t' k' => XS.iloadN X0.here hx rfl (hb hby d16_56) rfl k') ?_
  show Go p e below _ (s₁.setTop (mkF m 57 #[.val (.ref a), .val (.int (1 : Int32)), .val (.int b0), .val (.int b1), .val (.int b2), .val (.int b3)] [(.int (1 : Int32))]))
  refine Go.st (fun t' k' => XS.iconst X0.here hx rfl (hb hby d16_57) k') ?_
  show Go p e below _ (s₁.setTop (mkF m 58 #[.val (.ref a), .val (.int (1 : Int32)), .val (.int b0), .val (.int b1), .val (.int b2), .val (.int b3)] [(.int (3 : Int32)), (.int (1 : Int32))]))
  refine Go.st (fun t' k' => XS.icmpYes X0.here hx rfl (pc0 := 58) (pc' := 71) rfl (hb hby d16_58) rfl (flt (by decide : ¬ ((3 : Int32) < (1 : Int32)))).2.2.2 (by decide) (by decide) k') ?_
  show Go p e below _ (s₁.setTop (mkF m 71 #[.val (.ref a), .val (.int (1 : Int32)), .val (.int b0), .val (.int b1), .val (.int b2), .val (.int b3)] []))
  refine Go.st (fun t' k' => XS.iconst X0.here hx rfl (hb hby d16_71) k') ?_
  show Go p e below _ (s₁.setTop (mkF m 72 #[.val (.ref a), .val (.int (1 : Int32)), .val (.int b0), .val (.int b1), .val (.int b2), .val (.int b3)] [(.int (1 : Int32))]))
  exact Go.outN X0 hx hlk (t := .boolean) hret (by simp) (hb hby d16_72) (Q := Q_rmSm1 Z a b0 b1 b2 b3 kq h0) (by rw [e0]; exact ⟨rfl, rfl, rfl⟩) (by decide) (by decide)
theorem ef_rmSm2 (m : MethodId) (x0 : Addr) (x1 : Int32) (x2 : Int32) (x3 : Int32) (x4 : Int32) (x5 : Int32) : entryFrame m #[(.ref x0), (.int x1), (.int x2), (.int x3), (.int x4), (.int x5)] 6 = mkF m 0 #[.val (.ref x0), .val (.int x1), .val (.int x2), .val (.int x3), .val (.int x4), .val (.int x5)] [] := by first | (simp [entryFrame, mkF, argsToLocals, Value.category]; done) | rfl
def Q_rmSm2 (Z : State) (a : Addr) (b0 : Int32) (b1 : Int32) (b2 : Int32) (b3 : Int32) (kq : ClassId) (h0 : Heap) (v : Option Value) (h : Heap) (L : List Loc) : Prop := v = some (.int (1 : Int32)) ∧ L = [] ∧ h = h0
theorem d16_32 : decode method_2_code 32 = .ok (.aload_n 0, 1) := by decide +kernel
theorem d16_33 : decode method_2_code 33 = .ok (.iconst 1, 1) := by decide +kernel
theorem d16_34 : decode method_2_code 34 = .ok (.baload, 1) := by decide +kernel
theorem d16_35 : decode method_2_code 35 = .ok (.iload_n 3, 1) := by decide +kernel
theorem d16_36 : decode method_2_code 36 = .ok (.if_icmp .eq 5, 3) := by decide +kernel
set_option maxRecDepth 65536 in
set_option maxHeartbeats 40000000 in
theorem rmSm2 (l : Launch) (Z : State) (a0 : Array Value) (hw : ∀ d ∈ tables_1, d.before a0 Z = true) (ws : List Jvm.Cond) (a : Addr) (b0 : Int32) (b1 : Int32) (b2 : Int32) (b3 : Int32) (kq : ClassId) (h0 : Heap) (O0 : Ext Z.heap h0) (Aa : Arv Z h0 a kq .byte (2 : Int32) [(.int b0), (.int b1)] (.int (0 : Int32))) :
    MetFree l (⟨"com/example/claim/claim/model/VerificationResultAcceptedPinLaw", "same", "([BIBBBB)Z"⟩ : MethodName) (head1 (Jvm.Cond.code (⟨"com/example/claim/claim/model/VerificationResultAcceptedPinLaw", "same", "([BIBBBB)Z"⟩ : MethodName) method_2_code 6 (some .boolean) :: ws) ({ frames := 0, cells := 0, slots := 0, locals := 0 } : Room)) (fun av' U => av' = #[(.ref a), (.int (2 : Int32)), (.int b0), (.int b1), (.int b2), (.int b3)] ∧ Z.Warmed39 U.vm ∧ U.heap = h0) (fun _ _ _ _ _ => True) (fun _ U o U' => ∃ v L, o = .returned v ∧ Q_rmSm2 Z a b0 b1 b2 b3 kq h0 v U'.heap L ∧ FrameEnd U o U' L ({ frames := 0, cells := 0, slots := 0, locals := 0 } : Room).cells ({ frames := 0, cells := 0, slots := 0, locals := 0 } : Room).slots) := by
  refine MetFree.of_bodySF (plainFor_of_name pn_com_example_claim_claim_model_VerificationResultAcceptedPinLaw) hisR ?_
  intro p e s m args below meth c s₁ Bd hml0 hP hK
  obtain ⟨rfl, hZ, hh⟩ := hP
  have hx := Bd.exec
  have hby := Bd.bytes
  have hret := Bd.returns
  have hlk : meth.locks = false := Bd.notSynchronized
  have hml : c.maxLocals = 6 := hml0
  have hown : s.vm.findClass "com/example/claim/claim/model/VerificationResultAcceptedPinLaw" = some m.cls := findClass_of_methodNamed Bd.named
  have hnm := (name_of_methodNamed Bd.named Bd.method).1
  have X0 : Stand p l e ({ frames := 0, cells := 0, slots := 0, locals := 0 } : Room) s m #[(.ref a), (.int (2 : Int32)), (.int b0), (.int b1), (.int b2), (.int b3)] below meth c s₁ [] 0 0 := Stand.of_body Bd
  -- the walk
  have e0 : s₁.heap = h0 := by rw [← hh, Bd.state]; rfl
  have N0 := Fr.nil Z.heap.size
  show Go p e below (GO s (Q_rmSm2 Z a b0 b1 b2 b3 kq h0) ({ frames := 0, cells := 0, slots := 0, locals := 0 } : Room).cells ({ frames := 0, cells := 0, slots := 0, locals := 0 } : Room).slots) (s₁.setTop (entryFrame m #[(.ref a), (.int (2 : Int32)), (.int b0), (.int b1), (.int b2), (.int b3)] 6))
  refine Go.st (fun t' k' => castTop (ef_rmSm2 m a (2 : Int32) b0 b1 b2 b3) k') ?_
  show Go p e below _ (s₁.setTop (mkF m 0 #[.val (.ref a), .val (.int (2 : Int32)), .val (.int b0), .val (.int b1), .val (.int b2), .val (.int b3)] []))
  refine Go.st (fun t' k' => XS.aloadN X0.here hx rfl (hb hby d16_0) rfl rfl k') ?_
  show Go p e below _ (s₁.setTop (mkF m 1 #[.val (.ref a), .val (.int (2 : Int32)), .val (.int b0), .val (.int b1), .val (.int b2), .val (.int b3)] [(.ref a)]))
  refine Go.st (fun t' k' => XS.ifnonnullYes X0.here hx rfl (pc0 := 1) (pc' := 6) rfl (hb hby d16_1) rfl (by decide) (by decide) k') ?_
  show Go p e below _ (s₁.setTop (mkF m 6 #[.val (.ref a), .val (.int (2 : Int32)), .val (.int b0), .val (.int b1), .val (.int b2), .val (.int b3)] []))
  refine Go.st (fun t' k' => XS.aloadN X0.here hx rfl (hb hby d16_6) rfl rfl k') ?_
  show Go p e below _ (s₁.setTop (mkF m 7 #[.val (.ref a), .val (.int (2 : Int32)), .val (.int b0), .val (.int b1), .val (.int b2), .val (.int b3)] [(.ref a)]))
  obtain ⟨cll101, Arl101, ql101, Szl101, Nzl101, Hsl101, Gsl101⟩ := (id Aa)
  refine Go.st (X0.arraylength hx (by rw [e0]; exact Arl101.1) (State.isArrayOf_alike hZ.alike Arl101.2.1) (g := (mkF m 7 #[.val (.ref a), .val (.int (2 : Int32)), .val (.int b0), .val (.int b1), .val (.int b2), .val (.int b3)] [(.ref a)])) rfl rfl (hb hby d16_7)) ?_
  rw [len_of Szl101 Nzl101]
  show Go p e below _ (s₁.setTop (mkF m 8 #[.val (.ref a), .val (.int (2 : Int32)), .val (.int b0), .val (.int b1), .val (.int b2), .val (.int b3)] [(.int (2 : Int32))]))
  refine Go.st (fun t' k' => XS.iloadN X0.here hx rfl (hb hby d16_8) rfl k') ?_
  show Go p e below _ (s₁.setTop (mkF m 9 #[.val (.ref a), .val (.int (2 : Int32)), .val (.int b0), .val (.int b1), .val (.int b2), .val (.int b3)] [(.int (2 : Int32)), (.int (2 : Int32))]))
  refine Go.st (fun t' k' => XS.icmpYes X0.here hx rfl (pc0 := 9) (pc' := 14) rfl (hb hby d16_9) rfl (teq (by decide : (2 : Int32) = (2 : Int32))).1 (by decide) (by decide) k') ?_
  show Go p e below _ (s₁.setTop (mkF m 14 #[.val (.ref a), .val (.int (2 : Int32)), .val (.int b0), .val (.int b1), .val (.int b2), .val (.int b3)] []))
  refine Go.st (fun t' k' => XS.iloadN X0.here hx rfl (hb hby d16_14) rfl k') ?_
  show Go p e below _ (s₁.setTop (mkF m 15 #[.val (.ref a), .val (.int (2 : Int32)), .val (.int b0), .val (.int b1), .val (.int b2), .val (.int b3)] [(.int (2 : Int32))]))
  refine Go.st (fun t' k' => XS.ifNo X0.here hx rfl (hb hby d16_15) rfl ((if0 _ _).trans (tlt (by decide : (0 : Int32) < (2 : Int32))).2.2.2) k') ?_
  show Go p e below _ (s₁.setTop (mkF m 18 #[.val (.ref a), .val (.int (2 : Int32)), .val (.int b0), .val (.int b1), .val (.int b2), .val (.int b3)] []))
  refine Go.st (fun t' k' => XS.aloadN X0.here hx rfl (hb hby d16_18) rfl rfl k') ?_
  show Go p e below _ (s₁.setTop (mkF m 19 #[.val (.ref a), .val (.int (2 : Int32)), .val (.int b0), .val (.int b1), .val (.int b2), .val (.int b3)] [(.ref a)]))
  refine Go.st (fun t' k' => XS.iconst X0.here hx rfl (hb hby d16_19) k') ?_
  show Go p e below _ (s₁.setTop (mkF m 20 #[.val (.ref a), .val (.int (2 : Int32)), .val (.int b0), .val (.int b1), .val (.int b2), .val (.int b3)] [(.int (0 : Int32)), (.ref a)]))
  obtain ⟨cla102, Ara102, qa102, Sza102, Nza102, Hsa102, Gsa102⟩ := (id Aa)
  have hina102 : ¬ ((0 : Int32) < 0 ∨ cla102.slots.size ≤ ((0 : Int32)).toNatClampNeg) := inb_of Sza102 ⟨by decide, by decide⟩
  have hata102 : cla102.slots[((0 : Int32)).toNatClampNeg]? = some (.int b0) := Has.at Hsa102 hina102 rfl
  refine Go.st (X0.baloadBytes hx (j := (0 : Int32)) (v := (.int b0)) (by rw [e0]; exact Ara102.1) (State.isArrayOf_alike hZ.alike Ara102.2.1) Ara102.2.2 hina102 hata102 (g := (mkF m 20 #[.val (.ref a), .val (.int (2 : Int32)), .val (.int b0), .val (.int b1), .val (.int b2), .val (.int b3)] [(.int (0 : Int32)), (.ref a)])) rfl rfl (hb hby d16_20)) ?_
  show Go p e below _ (s₁.setTop (mkF m 21 #[.val (.ref a), .val (.int (2 : Int32)), .val (.int b0), .val (.int b1), .val (.int b2), .val (.int b3)] [(.int b0)]))
  refine Go.st (fun t' k' => XS.iloadN X0.here hx rfl (hb hby d16_21) rfl k') ?_
  show Go p e below _ (s₁.setTop (mkF m 22 #[.val (.ref a), .val (.int (2 : Int32)), .val (.int b0), .val (.int b1), .val (.int b2), .val (.int b3)] [(.int b0), (.int b0)]))
  refine Go.st (fun t' k' => XS.icmpYes X0.here hx rfl (pc0 := 22) (pc' := 27) rfl (hb hby d16_22) rfl (teq rfl).1 (by decide) (by decide) k') ?_
  show Go p e below _ (s₁.setTop (mkF m 27 #[.val (.ref a), .val (.int (2 : Int32)), .val (.int b0), .val (.int b1), .val (.int b2), .val (.int b3)] []))
  refine Go.st (fun t' k' => XS.iloadN X0.here hx rfl (hb hby d16_27) rfl k') ?_
  show Go p e below _ (s₁.setTop (mkF m 28 #[.val (.ref a), .val (.int (2 : Int32)), .val (.int b0), .val (.int b1), .val (.int b2), .val (.int b3)] [(.int (2 : Int32))]))
  refine Go.st (fun t' k' => XS.iconst X0.here hx rfl (hb hby d16_28) k') ?_
  show Go p e below _ (s₁.setTop (mkF m 29 #[.val (.ref a), .val (.int (2 : Int32)), .val (.int b0), .val (.int b1), .val (.int b2), .val (.int b3)] [(.int (1 : Int32)), (.int (2 : Int32))]))
  refine Go.st (fun t' k' => XS.icmpNo X0.here hx rfl (hb hby d16_29) rfl (tlt (by decide : (1 : Int32) < (2 : Int32))).2.2.2 k') ?_
  show Go p e below _ (s₁.setTop (mkF m 32 #[.val (.ref a), .val (.int (2 : Int32)), .val (.int b0), .val (.int b1), .val (.int b2), .val (.int b3)] []))
  refine Go.st (fun t' k' => XS.aloadN X0.here hx rfl (hb hby d16_32) rfl rfl k') ?_
  show Go p e below _ (s₁.setTop (mkF m 33 #[.val (.ref a), .val (.int (2 : Int32)), .val (.int b0), .val (.int b1), .val (.int b2), .val (.int b3)] [(.ref a)]))
  refine Go.st (fun t' k' => XS.iconst X0.here hx rfl (hb hby d16_33) k') ?_
  show Go p e below _ (s₁.setTop (mkF m 34 #[.val (.ref a), .val (.int (2 : Int32)), .val (.int b0), .val (.int b1), .val (.int b2), .val (.int b3)] [(.int (1 : Int32)), (.ref a)]))
  obtain ⟨cla103, Ara103, qa103, Sza103, Nza103, Hsa103, Gsa103⟩ := (id Aa)
  have hina103 : ¬ ((1 : Int32) < 0 ∨ cla103.slots.size ≤ ((1 : Int32)).toNatClampNeg) := inb_of Sza103 ⟨by decide, by decide⟩
  have hata103 : cla103.slots[((1 : Int32)).toNatClampNeg]? = some (.int b1) := Has.at Hsa103 hina103 rfl
  refine Go.st (X0.baloadBytes hx (j := (1 : Int32)) (v := (.int b1)) (by rw [e0]; exact Ara103.1) (State.isArrayOf_alike hZ.alike Ara103.2.1) Ara103.2.2 hina103 hata103 (g := (mkF m 34 #[.val (.ref a), .val (.int (2 : Int32)), .val (.int b0), .val (.int b1), .val (.int b2), .val (.int b3)] [(.int (1 : Int32)), (.ref a)])) rfl rfl (hb hby d16_34)) ?_
  show Go p e below _ (s₁.setTop (mkF m 35 #[.val (.ref a), .val (.int (2 : Int32)), .val (.int b0), .val (.int b1), .val (.int b2), .val (.int b3)] [(.int b1)]))
  refine Go.st (fun t' k' => XS.iloadN X0.here hx rfl (hb hby d16_35) rfl k') ?_
  show Go p e below _ (s₁.setTop (mkF m 36 #[.val (.ref a), .val (.int (2 : Int32)), .val (.int b0), .val (.int b1), .val (.int b2), .val (.int b3)] [(.int b1), (.int b1)]))
  refine Go.st (fun t' k' => XS.icmpYes X0.here hx rfl (pc0 := 36) (pc' := 41) rfl (hb hby d16_36) rfl (teq rfl).1 (by decide) (by decide) k') ?_
  show Go p e below _ (s₁.setTop (mkF m 41 #[.val (.ref a), .val (.int (2 : Int32)), .val (.int b0), .val (.int b1), .val (.int b2), .val (.int b3)] []))
  refine Go.st (fun t' k' => XS.iloadN X0.here hx rfl (hb hby d16_41) rfl k') ?_
  show Go p e below _ (s₁.setTop (mkF m 42 #[.val (.ref a), .val (.int (2 : Int32)), .val (.int b0), .val (.int b1), .val (.int b2), .val (.int b3)] [(.int (2 : Int32))]))
  refine Go.st (fun t' k' => XS.iconst X0.here hx rfl (hb hby d16_42) k') ?_
  show Go p e below _ (s₁.setTop (mkF m 43 #[.val (.ref a), .val (.int (2 : Int32)), .val (.int b0), .val (.int b1), .val (.int b2), .val (.int b3)] [(.int (2 : Int32)), (.int (2 : Int32))]))
  refine Go.st (fun t' k' => XS.icmpYes X0.here hx rfl (pc0 := 43) (pc' := 56) rfl (hb hby d16_43) rfl (flt (by decide : ¬ ((2 : Int32) < (2 : Int32)))).2.2.2 (by decide) (by decide) k') ?_
  show Go p e below _ (s₁.setTop (mkF m 56 #[.val (.ref a), .val (.int (2 : Int32)), .val (.int b0), .val (.int b1), .val (.int b2), .val (.int b3)] []))
  refine Go.st (fun t' k' => XS.iloadN X0.here hx rfl (hb hby d16_56) rfl k') ?_
  show Go p e below _ (s₁.setTop (mkF m 57 #[.val (.ref a), .val (.int (2 : Int32)), .val (.int b0), .val (.int b1), .val (.int b2), .val (.int b3)] [(.int (2 : Int32))]))
  refine Go.st (fun t' k' => XS.iconst X0.here hx rfl (hb hby d16_57) k') ?_
  show Go p e below _ (s₁.setTop (mkF m 58 #[.val (.ref a), .val (.int (2 : Int32)), .val (.int b0), .val (.int b1), .val (.int b2), .val (.int b3)] [(.int (3 : Int32)), (.int (2 : Int32))]))
  refine Go.st (fun t' k' => XS.icmpYes X0.here hx rfl (pc0 := 58) (pc' := 71) rfl (hb hby d16_58) rfl (flt (by decide : ¬ ((3 : Int32) < (2 : Int32)))).2.2.2 (by decide) (by decide) k') ?_
  show Go p e below _ (s₁.setTop (mkF m 71 #[.val (.ref a), .val (.int (2 : Int32)), .val (.int b0), .val (.int b1), .val (.int b2), .val (.int b3)] []))
  refine Go.st (fun t' k' => XS.iconst X0.here hx rfl (hb hby d16_71) k') ?_
  show Go p e below _ (s₁.setTop (mkF m 72 #[.val (.ref a), .val (.int (2 : Int32)), .val (.int b0), .val (.int b1), .val (.int b2), .val (.int b3)] [(.int (1 : Int32))]))
  exact Go.outN X0 hx hlk (t := .boolean) hret (by simp) (hb hby d16_72) (Q := Q_rmSm2 Z a b0 b1 b2 b3 kq h0) (by rw [e0]; exact ⟨rfl, rfl, rfl⟩) (by decide) (by decide)
theorem ef_rmSm3 (m : MethodId) (x0 : Addr) (x1 : Int32) (x2 : Int32) (x3 : Int32) (x4 : Int32) (x5 : Int32) : entryFrame m #[(.ref x0), (.int x1), (.int x2), (.int x3), (.int x4), (.int x5)] 6 = mkF m 0 #[.val (.ref x0), .val (.int x1), .val (.int x2), .val (.int x3), .val (.int x4), .val (.int x5)] [] := by first | (simp [entryFrame, mkF, argsToLocals, Value.category]; done) | rfl
def Q_rmSm3 (Z : State) (a : Addr) (b0 : Int32) (b1 : Int32) (b2 : Int32) (b3 : Int32) (kq : ClassId) (h0 : Heap) (v : Option Value) (h : Heap) (L : List Loc) : Prop := v = some (.int (1 : Int32)) ∧ L = [] ∧ h = h0
theorem d16_46 : decode method_2_code 46 = .ok (.aload_n 0, 1) := by decide +kernel
theorem d16_47 : decode method_2_code 47 = .ok (.iconst 2, 1) := by decide +kernel
theorem d16_48 : decode method_2_code 48 = .ok (.baload, 1) := by decide +kernel
theorem d16_49 : decode method_2_code 49 = .ok (.iload 4, 2) := by decide +kernel
theorem d16_51 : decode method_2_code 51 = .ok (.if_icmp .eq 5, 3) := by decide +kernel
set_option maxRecDepth 65536 in
set_option maxHeartbeats 40000000 in
theorem rmSm3 (l : Launch) (Z : State) (a0 : Array Value) (hw : ∀ d ∈ tables_1, d.before a0 Z = true) (ws : List Jvm.Cond) (a : Addr) (b0 : Int32) (b1 : Int32) (b2 : Int32) (b3 : Int32) (kq : ClassId) (h0 : Heap) (O0 : Ext Z.heap h0) (Aa : Arv Z h0 a kq .byte (3 : Int32) [(.int b0), (.int b1), (.int b2)] (.int (0 : Int32))) :
    MetFree l (⟨"com/example/claim/claim/model/VerificationResultAcceptedPinLaw", "same", "([BIBBBB)Z"⟩ : MethodName) (head1 (Jvm.Cond.code (⟨"com/example/claim/claim/model/VerificationResultAcceptedPinLaw", "same", "([BIBBBB)Z"⟩ : MethodName) method_2_code 6 (some .boolean) :: ws) ({ frames := 0, cells := 0, slots := 0, locals := 0 } : Room)) (fun av' U => av' = #[(.ref a), (.int (3 : Int32)), (.int b0), (.int b1), (.int b2), (.int b3)] ∧ Z.Warmed39 U.vm ∧ U.heap = h0) (fun _ _ _ _ _ => True) (fun _ U o U' => ∃ v L, o = .returned v ∧ Q_rmSm3 Z a b0 b1 b2 b3 kq h0 v U'.heap L ∧ FrameEnd U o U' L ({ frames := 0, cells := 0, slots := 0, locals := 0 } : Room).cells ({ frames := 0, cells := 0, slots := 0, locals := 0 } : Room).slots) := by
  refine MetFree.of_bodySF (plainFor_of_name pn_com_example_claim_claim_model_VerificationResultAcceptedPinLaw) hisR ?_
  intro p e s m args below meth c s₁ Bd hml0 hP hK
  obtain ⟨rfl, hZ, hh⟩ := hP
  have hx := Bd.exec
  have hby := Bd.bytes
  have hret := Bd.returns
  have hlk : meth.locks = false := Bd.notSynchronized
  have hml : c.maxLocals = 6 := hml0
  have hown : s.vm.findClass "com/example/claim/claim/model/VerificationResultAcceptedPinLaw" = some m.cls := findClass_of_methodNamed Bd.named
  have hnm := (name_of_methodNamed Bd.named Bd.method).1
  have X0 : Stand p l e ({ frames := 0, cells := 0, slots := 0, locals := 0 } : Room) s m #[(.ref a), (.int (3 : Int32)), (.int b0), (.int b1), (.int b2), (.int b3)] below meth c s₁ [] 0 0 := Stand.of_body Bd
  -- the walk
  have e0 : s₁.heap = h0 := by rw [← hh, Bd.state]; rfl
  have N0 := Fr.nil Z.heap.size
  show Go p e below (GO s (Q_rmSm3 Z a b0 b1 b2 b3 kq h0) ({ frames := 0, cells := 0, slots := 0, locals := 0 } : Room).cells ({ frames := 0, cells := 0, slots := 0, locals := 0 } : Room).slots) (s₁.setTop (entryFrame m #[(.ref a), (.int (3 : Int32)), (.int b0), (.int b1), (.int b2), (.int b3)] 6))
  refine Go.st (fun t' k' => castTop (ef_rmSm3 m a (3 : Int32) b0 b1 b2 b3) k') ?_
  show Go p e below _ (s₁.setTop (mkF m 0 #[.val (.ref a), .val (.int (3 : Int32)), .val (.int b0), .val (.int b1), .val (.int b2), .val (.int b3)] []))
  refine Go.st (fun t' k' => XS.aloadN X0.here hx rfl (hb hby d16_0) rfl rfl k') ?_
  show Go p e below _ (s₁.setTop (mkF m 1 #[.val (.ref a), .val (.int (3 : Int32)), .val (.int b0), .val (.int b1), .val (.int b2), .val (.int b3)] [(.ref a)]))
  refine Go.st (fun t' k' => XS.ifnonnullYes X0.here hx rfl (pc0 := 1) (pc' := 6) rfl (hb hby d16_1) rfl (by decide) (by decide) k') ?_
  show Go p e below _ (s₁.setTop (mkF m 6 #[.val (.ref a), .val (.int (3 : Int32)), .val (.int b0), .val (.int b1), .val (.int b2), .val (.int b3)] []))
  refine Go.st (fun t' k' => XS.aloadN X0.here hx rfl (hb hby d16_6) rfl rfl k') ?_
  show Go p e below _ (s₁.setTop (mkF m 7 #[.val (.ref a), .val (.int (3 : Int32)), .val (.int b0), .val (.int b1), .val (.int b2), .val (.int b3)] [(.ref a)]))
  obtain ⟨cll101, Arl101, ql101, Szl101, Nzl101, Hsl101, Gsl101⟩ := (id Aa)
  refine Go.st (X0.arraylength hx (by rw [e0]; exact Arl101.1) (State.isArrayOf_alike hZ.alike Arl101.2.1) (g := (mkF m 7 #[.val (.ref a), .val (.int (3 : Int32)), .val (.int b0), .val (.int b1), .val (.int b2), .val (.int b3)] [(.ref a)])) rfl rfl (hb hby d16_7)) ?_
  rw [len_of Szl101 Nzl101]
  show Go p e below _ (s₁.setTop (mkF m 8 #[.val (.ref a), .val (.int (3 : Int32)), .val (.int b0), .val (.int b1), .val (.int b2), .val (.int b3)] [(.int (3 : Int32))]))
  refine Go.st (fun t' k' => XS.iloadN X0.here hx rfl (hb hby d16_8) rfl k') ?_
  show Go p e below _ (s₁.setTop (mkF m 9 #[.val (.ref a), .val (.int (3 : Int32)), .val (.int b0), .val (.int b1), .val (.int b2), .val (.int b3)] [(.int (3 : Int32)), (.int (3 : Int32))]))
  refine Go.st (fun t' k' => XS.icmpYes X0.here hx rfl (pc0 := 9) (pc' := 14) rfl (hb hby d16_9) rfl (teq (by decide : (3 : Int32) = (3 : Int32))).1 (by decide) (by decide) k') ?_
  show Go p e below _ (s₁.setTop (mkF m 14 #[.val (.ref a), .val (.int (3 : Int32)), .val (.int b0), .val (.int b1), .val (.int b2), .val (.int b3)] []))
  refine Go.st (fun t' k' => XS.iloadN X0.here hx rfl (hb hby d16_14) rfl k') ?_
  show Go p e below _ (s₁.setTop (mkF m 15 #[.val (.ref a), .val (.int (3 : Int32)), .val (.int b0), .val (.int b1), .val (.int b2), .val (.int b3)] [(.int (3 : Int32))]))
  refine Go.st (fun t' k' => XS.ifNo X0.here hx rfl (hb hby d16_15) rfl ((if0 _ _).trans (tlt (by decide : (0 : Int32) < (3 : Int32))).2.2.2) k') ?_
  show Go p e below _ (s₁.setTop (mkF m 18 #[.val (.ref a), .val (.int (3 : Int32)), .val (.int b0), .val (.int b1), .val (.int b2), .val (.int b3)] []))
  refine Go.st (fun t' k' => XS.aloadN X0.here hx rfl (hb hby d16_18) rfl rfl k') ?_
  show Go p e below _ (s₁.setTop (mkF m 19 #[.val (.ref a), .val (.int (3 : Int32)), .val (.int b0), .val (.int b1), .val (.int b2), .val (.int b3)] [(.ref a)]))
  refine Go.st (fun t' k' => XS.iconst X0.here hx rfl (hb hby d16_19) k') ?_
  show Go p e below _ (s₁.setTop (mkF m 20 #[.val (.ref a), .val (.int (3 : Int32)), .val (.int b0), .val (.int b1), .val (.int b2), .val (.int b3)] [(.int (0 : Int32)), (.ref a)]))
  obtain ⟨cla102, Ara102, qa102, Sza102, Nza102, Hsa102, Gsa102⟩ := (id Aa)
  have hina102 : ¬ ((0 : Int32) < 0 ∨ cla102.slots.size ≤ ((0 : Int32)).toNatClampNeg) := inb_of Sza102 ⟨by decide, by decide⟩
  have hata102 : cla102.slots[((0 : Int32)).toNatClampNeg]? = some (.int b0) := Has.at Hsa102 hina102 rfl
  refine Go.st (X0.baloadBytes hx (j := (0 : Int32)) (v := (.int b0)) (by rw [e0]; exact Ara102.1) (State.isArrayOf_alike hZ.alike Ara102.2.1) Ara102.2.2 hina102 hata102 (g := (mkF m 20 #[.val (.ref a), .val (.int (3 : Int32)), .val (.int b0), .val (.int b1), .val (.int b2), .val (.int b3)] [(.int (0 : Int32)), (.ref a)])) rfl rfl (hb hby d16_20)) ?_
  show Go p e below _ (s₁.setTop (mkF m 21 #[.val (.ref a), .val (.int (3 : Int32)), .val (.int b0), .val (.int b1), .val (.int b2), .val (.int b3)] [(.int b0)]))
  refine Go.st (fun t' k' => XS.iloadN X0.here hx rfl (hb hby d16_21) rfl k') ?_
  show Go p e below _ (s₁.setTop (mkF m 22 #[.val (.ref a), .val (.int (3 : Int32)), .val (.int b0), .val (.int b1), .val (.int b2), .val (.int b3)] [(.int b0), (.int b0)]))
  refine Go.st (fun t' k' => XS.icmpYes X0.here hx rfl (pc0 := 22) (pc' := 27) rfl (hb hby d16_22) rfl (teq rfl).1 (by decide) (by decide) k') ?_
  show Go p e below _ (s₁.setTop (mkF m 27 #[.val (.ref a), .val (.int (3 : Int32)), .val (.int b0), .val (.int b1), .val (.int b2), .val (.int b3)] []))
  refine Go.st (fun t' k' => XS.iloadN X0.here hx rfl (hb hby d16_27) rfl k') ?_
  show Go p e below _ (s₁.setTop (mkF m 28 #[.val (.ref a), .val (.int (3 : Int32)), .val (.int b0), .val (.int b1), .val (.int b2), .val (.int b3)] [(.int (3 : Int32))]))
  refine Go.st (fun t' k' => XS.iconst X0.here hx rfl (hb hby d16_28) k') ?_
  show Go p e below _ (s₁.setTop (mkF m 29 #[.val (.ref a), .val (.int (3 : Int32)), .val (.int b0), .val (.int b1), .val (.int b2), .val (.int b3)] [(.int (1 : Int32)), (.int (3 : Int32))]))
  refine Go.st (fun t' k' => XS.icmpNo X0.here hx rfl (hb hby d16_29) rfl (tlt (by decide : (1 : Int32) < (3 : Int32))).2.2.2 k') ?_
  show Go p e below _ (s₁.setTop (mkF m 32 #[.val (.ref a), .val (.int (3 : Int32)), .val (.int b0), .val (.int b1), .val (.int b2), .val (.int b3)] []))
  refine Go.st (fun t' k' => XS.aloadN X0.here hx rfl (hb hby d16_32) rfl rfl k') ?_
  show Go p e below _ (s₁.setTop (mkF m 33 #[.val (.ref a), .val (.int (3 : Int32)), .val (.int b0), .val (.int b1), .val (.int b2), .val (.int b3)] [(.ref a)]))
  refine Go.st (fun t' k' => XS.iconst X0.here hx rfl (hb hby d16_33) k') ?_
  show Go p e below _ (s₁.setTop (mkF m 34 #[.val (.ref a), .val (.int (3 : Int32)), .val (.int b0), .val (.int b1), .val (.int b2), .val (.int b3)] [(.int (1 : Int32)), (.ref a)]))
  obtain ⟨cla103, Ara103, qa103, Sza103, Nza103, Hsa103, Gsa103⟩ := (id Aa)
  have hina103 : ¬ ((1 : Int32) < 0 ∨ cla103.slots.size ≤ ((1 : Int32)).toNatClampNeg) := inb_of Sza103 ⟨by decide, by decide⟩
  have hata103 : cla103.slots[((1 : Int32)).toNatClampNeg]? = some (.int b1) := Has.at Hsa103 hina103 rfl
  refine Go.st (X0.baloadBytes hx (j := (1 : Int32)) (v := (.int b1)) (by rw [e0]; exact Ara103.1) (State.isArrayOf_alike hZ.alike Ara103.2.1) Ara103.2.2 hina103 hata103 (g := (mkF m 34 #[.val (.ref a), .val (.int (3 : Int32)), .val (.int b0), .val (.int b1), .val (.int b2), .val (.int b3)] [(.int (1 : Int32)), (.ref a)])) rfl rfl (hb hby d16_34)) ?_
  show Go p e below _ (s₁.setTop (mkF m 35 #[.val (.ref a), .val (.int (3 : Int32)), .val (.int b0), .val (.int b1), .val (.int b2), .val (.int b3)] [(.int b1)]))
  refine Go.st (fun t' k' => XS.iloadN X0.here hx rfl (hb hby d16_35) rfl k') ?_
  show Go p e below _ (s₁.setTop (mkF m 36 #[.val (.ref a), .val (.int (3 : Int32)), .val (.int b0), .val (.int b1), .val (.int b2), .val (.int b3)] [(.int b1), (.int b1)]))
  refine Go.st (fun t' k' => XS.icmpYes X0.here hx rfl (pc0 := 36) (pc' := 41) rfl (hb hby d16_36) rfl (teq rfl).1 (by decide) (by decide) k') ?_
  show Go p e below _ (s₁.setTop (mkF m 41 #[.val (.ref a), .val (.int (3 : Int32)), .val (.int b0), .val (.int b1), .val (.int b2), .val (.int b3)] []))
  refine Go.st (fun t' k' => XS.iloadN X0.here hx rfl (hb hby d16_41) rfl k') ?_
  show Go p e below _ (s₁.setTop (mkF m 42 #[.val (.ref a), .val (.int (3 : Int32)), .val (.int b0), .val (.int b1), .val (.int b2), .val (.int b3)] [(.int (3 : Int32))]))
  refine Go.st (fun t' k' => XS.iconst X0.here hx rfl (hb hby d16_42) k') ?_
  show Go p e below _ (s₁.setTop (mkF m 43 #[.val (.ref a), .val (.int (3 : Int32)), .val (.int b0), .val (.int b1), .val (.int b2), .val (.int b3)] [(.int (2 : Int32)), (.int (3 : Int32))]))
  refine Go.st (fun t' k' => XS.icmpNo X0.here hx rfl (hb hby d16_43) rfl (tlt (by decide : (2 : Int32) < (3 : Int32))).2.2.2 k') ?_
  show Go p e below _ (s₁.setTop (mkF m 46 #[.val (.ref a), .val (.int (3 : Int32)), .val (.int b0), .val (.int b1), .val (.int b2), .val (.int b3)] []))
  refine Go.st (fun t' k' => XS.aloadN X0.here hx rfl (hb hby d16_46) rfl rfl k') ?_
  show Go p e below _ (s₁.setTop (mkF m 47 #[.val (.ref a), .val (.int (3 : Int32)), .val (.int b0), .val (.int b1), .val (.int b2), .val (.int b3)] [(.ref a)]))
  refine Go.st (fun t' k' => XS.iconst X0.here hx rfl (hb hby d16_47) k') ?_
  show Go p e below _ (s₁.setTop (mkF m 48 #[.val (.ref a), .val (.int (3 : Int32)), .val (.int b0), .val (.int b1), .val (.int b2), .val (.int b3)] [(.int (2 : Int32)), (.ref a)]))
  obtain ⟨cla104, Ara104, qa104, Sza104, Nza104, Hsa104, Gsa104⟩ := (id Aa)
  have hina104 : ¬ ((2 : Int32) < 0 ∨ cla104.slots.size ≤ ((2 : Int32)).toNatClampNeg) := inb_of Sza104 ⟨by decide, by decide⟩
  have hata104 : cla104.slots[((2 : Int32)).toNatClampNeg]? = some (.int b2) := Has.at Hsa104 hina104 rfl
  refine Go.st (X0.baloadBytes hx (j := (2 : Int32)) (v := (.int b2)) (by rw [e0]; exact Ara104.1) (State.isArrayOf_alike hZ.alike Ara104.2.1) Ara104.2.2 hina104 hata104 (g := (mkF m 48 #[.val (.ref a), .val (.int (3 : Int32)), .val (.int b0), .val (.int b1), .val (.int b2), .val (.int b3)] [(.int (2 : Int32)), (.ref a)])) rfl rfl (hb hby d16_48)) ?_
  show Go p e below _ (s₁.setTop (mkF m 49 #[.val (.ref a), .val (.int (3 : Int32)), .val (.int b0), .val (.int b1), .val (.int b2), .val (.int b3)] [(.int b2)]))
  refine Go.st (fun t' k' => XS.iload X0.here hx rfl (hb hby d16_49) rfl k') ?_
  show Go p e below _ (s₁.setTop (mkF m 51 #[.val (.ref a), .val (.int (3 : Int32)), .val (.int b0), .val (.int b1), .val (.int b2), .val (.int b3)] [(.int b2), (.int b2)]))
  refine Go.st (fun t' k' => XS.icmpYes X0.here hx rfl (pc0 := 51) (pc' := 56) rfl (hb hby d16_51) rfl (teq rfl).1 (by decide) (by decide) k') ?_
  show Go p e below _ (s₁.setTop (mkF m 56 #[.val (.ref a), .val (.int (3 : Int32)), .val (.int b0), .val (.int b1), .val (.int b2), .val (.int b3)] []))
  refine Go.st (fun t' k' => XS.iloadN X0.here hx rfl (hb hby d16_56) rfl k') ?_
  show Go p e below _ (s₁.setTop (mkF m 57 #[.val (.ref a), .val (.int (3 : Int32)), .val (.int b0), .val (.int b1), .val (.int b2), .val (.int b3)] [(.int (3 : Int32))]))
  refine Go.st (fun t' k' => XS.iconst X0.here hx rfl (hb hby d16_57) k') ?_
  show Go p e below _ (s₁.setTop (mkF m 58 #[.val (.ref a), .val (.int (3 : Int32)), .val (.int b0), .val (.int b1), .val (.int b2), .val (.int b3)] [(.int (3 : Int32)), (.int (3 : Int32))]))
  refine Go.st (fun t' k' => XS.icmpYes X0.here hx rfl (pc0 := 58) (pc' := 71) rfl (hb hby d16_58) rfl (flt (by decide : ¬ ((3 : Int32) < (3 : Int32)))).2.2.2 (by decide) (by decide) k') ?_
  show Go p e below _ (s₁.setTop (mkF m 71 #[.val (.ref a), .val (.int (3 : Int32)), .val (.int b0), .val (.int b1), .val (.int b2), .val (.int b3)] []))
  refine Go.st (fun t' k' => XS.iconst X0.here hx rfl (hb hby d16_71) k') ?_
  show Go p e below _ (s₁.setTop (mkF m 72 #[.val (.ref a), .val (.int (3 : Int32)), .val (.int b0), .val (.int b1), .val (.int b2), .val (.int b3)] [(.int (1 : Int32))]))
  exact Go.outN X0 hx hlk (t := .boolean) hret (by simp) (hb hby d16_72) (Q := Q_rmSm3 Z a b0 b1 b2 b3 kq h0) (by rw [e0]; exact ⟨rfl, rfl, rfl⟩) (by decide) (by decide)
theorem ef_rmSm4 (m : MethodId) (x0 : Addr) (x1 : Int32) (x2 : Int32) (x3 : Int32) (x4 : Int32) (x5 : Int32) : entryFrame m #[(.ref x0), (.int x1), (.int x2), (.int x3), (.int x4), (.int x5)] 6 = mkF m 0 #[.val (.ref x0), .val (.int x1), .val (.int x2), .val (.int x3), .val (.int x4), .val (.int x5)] [] := by first | (simp [entryFrame, mkF, argsToLocals, Value.category]; done) | rfl
def Q_rmSm4 (Z : State) (a : Addr) (b0 : Int32) (b1 : Int32) (b2 : Int32) (b3 : Int32) (kq : ClassId) (h0 : Heap) (v : Option Value) (h : Heap) (L : List Loc) : Prop := v = some (.int (1 : Int32)) ∧ L = [] ∧ h = h0
theorem d16_61 : decode method_2_code 61 = .ok (.aload_n 0, 1) := by decide +kernel
theorem d16_62 : decode method_2_code 62 = .ok (.iconst 3, 1) := by decide +kernel
theorem d16_63 : decode method_2_code 63 = .ok (.baload, 1) := by decide +kernel
theorem d16_64 : decode method_2_code 64 = .ok (.iload 5, 2) := by decide +kernel
theorem d16_66 : decode method_2_code 66 = .ok (.if_icmp .eq 5, 3) := by decide +kernel
set_option maxRecDepth 65536 in
set_option maxHeartbeats 40000000 in
theorem rmSm4 (l : Launch) (Z : State) (a0 : Array Value) (hw : ∀ d ∈ tables_1, d.before a0 Z = true) (ws : List Jvm.Cond) (a : Addr) (b0 : Int32) (b1 : Int32) (b2 : Int32) (b3 : Int32) (kq : ClassId) (h0 : Heap) (O0 : Ext Z.heap h0) (Aa : Arv Z h0 a kq .byte (4 : Int32) [(.int b0), (.int b1), (.int b2), (.int b3)] (.int (0 : Int32))) :
    MetFree l (⟨"com/example/claim/claim/model/VerificationResultAcceptedPinLaw", "same", "([BIBBBB)Z"⟩ : MethodName) (head1 (Jvm.Cond.code (⟨"com/example/claim/claim/model/VerificationResultAcceptedPinLaw", "same", "([BIBBBB)Z"⟩ : MethodName) method_2_code 6 (some .boolean) :: ws) ({ frames := 0, cells := 0, slots := 0, locals := 0 } : Room)) (fun av' U => av' = #[(.ref a), (.int (4 : Int32)), (.int b0), (.int b1), (.int b2), (.int b3)] ∧ Z.Warmed39 U.vm ∧ U.heap = h0) (fun _ _ _ _ _ => True) (fun _ U o U' => ∃ v L, o = .returned v ∧ Q_rmSm4 Z a b0 b1 b2 b3 kq h0 v U'.heap L ∧ FrameEnd U o U' L ({ frames := 0, cells := 0, slots := 0, locals := 0 } : Room).cells ({ frames := 0, cells := 0, slots := 0, locals := 0 } : Room).slots) := by
  refine MetFree.of_bodySF (plainFor_of_name pn_com_example_claim_claim_model_VerificationResultAcceptedPinLaw) hisR ?_
  intro p e s m args below meth c s₁ Bd hml0 hP hK
  obtain ⟨rfl, hZ, hh⟩ := hP
  have hx := Bd.exec
  have hby := Bd.bytes
  have hret := Bd.returns
  have hlk : meth.locks = false := Bd.notSynchronized
  have hml : c.maxLocals = 6 := hml0
  have hown : s.vm.findClass "com/example/claim/claim/model/VerificationResultAcceptedPinLaw" = some m.cls := findClass_of_methodNamed Bd.named
  have hnm := (name_of_methodNamed Bd.named Bd.method).1
  have X0 : Stand p l e ({ frames := 0, cells := 0, slots := 0, locals := 0 } : Room) s m #[(.ref a), (.int (4 : Int32)), (.int b0), (.int b1), (.int b2), (.int b3)] below meth c s₁ [] 0 0 := Stand.of_body Bd
  -- the walk
  have e0 : s₁.heap = h0 := by rw [← hh, Bd.state]; rfl
  have N0 := Fr.nil Z.heap.size
  show Go p e below (GO s (Q_rmSm4 Z a b0 b1 b2 b3 kq h0) ({ frames := 0, cells := 0, slots := 0, locals := 0 } : Room).cells ({ frames := 0, cells := 0, slots := 0, locals := 0 } : Room).slots) (s₁.setTop (entryFrame m #[(.ref a), (.int (4 : Int32)), (.int b0), (.int b1), (.int b2), (.int b3)] 6))
  refine Go.st (fun t' k' => castTop (ef_rmSm4 m a (4 : Int32) b0 b1 b2 b3) k') ?_
  show Go p e below _ (s₁.setTop (mkF m 0 #[.val (.ref a), .val (.int (4 : Int32)), .val (.int b0), .val (.int b1), .val (.int b2), .val (.int b3)] []))
  refine Go.st (fun t' k' => XS.aloadN X0.here hx rfl (hb hby d16_0) rfl rfl k') ?_
  show Go p e below _ (s₁.setTop (mkF m 1 #[.val (.ref a), .val (.int (4 : Int32)), .val (.int b0), .val (.int b1), .val (.int b2), .val (.int b3)] [(.ref a)]))
  refine Go.st (fun t' k' => XS.ifnonnullYes X0.here hx rfl (pc0 := 1) (pc' := 6) rfl (hb hby d16_1) rfl (by decide) (by decide) k') ?_
  show Go p e below _ (s₁.setTop (mkF m 6 #[.val (.ref a), .val (.int (4 : Int32)), .val (.int b0), .val (.int b1), .val (.int b2), .val (.int b3)] []))
  refine Go.st (fun t' k' => XS.aloadN X0.here hx rfl (hb hby d16_6) rfl rfl k') ?_
  show Go p e below _ (s₁.setTop (mkF m 7 #[.val (.ref a), .val (.int (4 : Int32)), .val (.int b0), .val (.int b1), .val (.int b2), .val (.int b3)] [(.ref a)]))
  obtain ⟨cll101, Arl101, ql101, Szl101, Nzl101, Hsl101, Gsl101⟩ := (id Aa)
  refine Go.st (X0.arraylength hx (by rw [e0]; exact Arl101.1) (State.isArrayOf_alike hZ.alike Arl101.2.1) (g := (mkF m 7 #[.val (.ref a), .val (.int (4 : Int32)), .val (.int b0), .val (.int b1), .val (.int b2), .val (.int b3)] [(.ref a)])) rfl rfl (hb hby d16_7)) ?_
  rw [len_of Szl101 Nzl101]
  show Go p e below _ (s₁.setTop (mkF m 8 #[.val (.ref a), .val (.int (4 : Int32)), .val (.int b0), .val (.int b1), .val (.int b2), .val (.int b3)] [(.int (4 : Int32))]))
  refine Go.st (fun t' k' => XS.iloadN X0.here hx rfl (hb hby d16_8) rfl k') ?_
  show Go p e below _ (s₁.setTop (mkF m 9 #[.val (.ref a), .val (.int (4 : Int32)), .val (.int b0), .val (.int b1), .val (.int b2), .val (.int b3)] [(.int (4 : Int32)), (.int (4 : Int32))]))
  refine Go.st (fun t' k' => XS.icmpYes X0.here hx rfl (pc0 := 9) (pc' := 14) rfl (hb hby d16_9) rfl (teq (by decide : (4 : Int32) = (4 : Int32))).1 (by decide) (by decide) k') ?_
  show Go p e below _ (s₁.setTop (mkF m 14 #[.val (.ref a), .val (.int (4 : Int32)), .val (.int b0), .val (.int b1), .val (.int b2), .val (.int b3)] []))
  refine Go.st (fun t' k' => XS.iloadN X0.here hx rfl (hb hby d16_14) rfl k') ?_
  show Go p e below _ (s₁.setTop (mkF m 15 #[.val (.ref a), .val (.int (4 : Int32)), .val (.int b0), .val (.int b1), .val (.int b2), .val (.int b3)] [(.int (4 : Int32))]))
  refine Go.st (fun t' k' => XS.ifNo X0.here hx rfl (hb hby d16_15) rfl ((if0 _ _).trans (tlt (by decide : (0 : Int32) < (4 : Int32))).2.2.2) k') ?_
  show Go p e below _ (s₁.setTop (mkF m 18 #[.val (.ref a), .val (.int (4 : Int32)), .val (.int b0), .val (.int b1), .val (.int b2), .val (.int b3)] []))
  refine Go.st (fun t' k' => XS.aloadN X0.here hx rfl (hb hby d16_18) rfl rfl k') ?_
  show Go p e below _ (s₁.setTop (mkF m 19 #[.val (.ref a), .val (.int (4 : Int32)), .val (.int b0), .val (.int b1), .val (.int b2), .val (.int b3)] [(.ref a)]))
  refine Go.st (fun t' k' => XS.iconst X0.here hx rfl (hb hby d16_19) k') ?_
  show Go p e below _ (s₁.setTop (mkF m 20 #[.val (.ref a), .val (.int (4 : Int32)), .val (.int b0), .val (.int b1), .val (.int b2), .val (.int b3)] [(.int (0 : Int32)), (.ref a)]))
  obtain ⟨cla102, Ara102, qa102, Sza102, Nza102, Hsa102, Gsa102⟩ := (id Aa)
  have hina102 : ¬ ((0 : Int32) < 0 ∨ cla102.slots.size ≤ ((0 : Int32)).toNatClampNeg) := inb_of Sza102 ⟨by decide, by decide⟩
  have hata102 : cla102.slots[((0 : Int32)).toNatClampNeg]? = some (.int b0) := Has.at Hsa102 hina102 rfl
  refine Go.st (X0.baloadBytes hx (j := (0 : Int32)) (v := (.int b0)) (by rw [e0]; exact Ara102.1) (State.isArrayOf_alike hZ.alike Ara102.2.1) Ara102.2.2 hina102 hata102 (g := (mkF m 20 #[.val (.ref a), .val (.int (4 : Int32)), .val (.int b0), .val (.int b1), .val (.int b2), .val (.int b3)] [(.int (0 : Int32)), (.ref a)])) rfl rfl (hb hby d16_20)) ?_
  show Go p e below _ (s₁.setTop (mkF m 21 #[.val (.ref a), .val (.int (4 : Int32)), .val (.int b0), .val (.int b1), .val (.int b2), .val (.int b3)] [(.int b0)]))
  refine Go.st (fun t' k' => XS.iloadN X0.here hx rfl (hb hby d16_21) rfl k') ?_
  show Go p e below _ (s₁.setTop (mkF m 22 #[.val (.ref a), .val (.int (4 : Int32)), .val (.int b0), .val (.int b1), .val (.int b2), .val (.int b3)] [(.int b0), (.int b0)]))
  refine Go.st (fun t' k' => XS.icmpYes X0.here hx rfl (pc0 := 22) (pc' := 27) rfl (hb hby d16_22) rfl (teq rfl).1 (by decide) (by decide) k') ?_
  show Go p e below _ (s₁.setTop (mkF m 27 #[.val (.ref a), .val (.int (4 : Int32)), .val (.int b0), .val (.int b1), .val (.int b2), .val (.int b3)] []))
  refine Go.st (fun t' k' => XS.iloadN X0.here hx rfl (hb hby d16_27) rfl k') ?_
  show Go p e below _ (s₁.setTop (mkF m 28 #[.val (.ref a), .val (.int (4 : Int32)), .val (.int b0), .val (.int b1), .val (.int b2), .val (.int b3)] [(.int (4 : Int32))]))
  refine Go.st (fun t' k' => XS.iconst X0.here hx rfl (hb hby d16_28) k') ?_
  show Go p e below _ (s₁.setTop (mkF m 29 #[.val (.ref a), .val (.int (4 : Int32)), .val (.int b0), .val (.int b1), .val (.int b2), .val (.int b3)] [(.int (1 : Int32)), (.int (4 : Int32))]))
  refine Go.st (fun t' k' => XS.icmpNo X0.here hx rfl (hb hby d16_29) rfl (tlt (by decide : (1 : Int32) < (4 : Int32))).2.2.2 k') ?_
  show Go p e below _ (s₁.setTop (mkF m 32 #[.val (.ref a), .val (.int (4 : Int32)), .val (.int b0), .val (.int b1), .val (.int b2), .val (.int b3)] []))
  refine Go.st (fun t' k' => XS.aloadN X0.here hx rfl (hb hby d16_32) rfl rfl k') ?_
  show Go p e below _ (s₁.setTop (mkF m 33 #[.val (.ref a), .val (.int (4 : Int32)), .val (.int b0), .val (.int b1), .val (.int b2), .val (.int b3)] [(.ref a)]))
  refine Go.st (fun t' k' => XS.iconst X0.here hx rfl (hb hby d16_33) k') ?_
  show Go p e below _ (s₁.setTop (mkF m 34 #[.val (.ref a), .val (.int (4 : Int32)), .val (.int b0), .val (.int b1), .val (.int b2), .val (.int b3)] [(.int (1 : Int32)), (.ref a)]))
  obtain ⟨cla103, Ara103, qa103, Sza103, Nza103, Hsa103, Gsa103⟩ := (id Aa)
  have hina103 : ¬ ((1 : Int32) < 0 ∨ cla103.slots.size ≤ ((1 : Int32)).toNatClampNeg) := inb_of Sza103 ⟨by decide, by decide⟩
  have hata103 : cla103.slots[((1 : Int32)).toNatClampNeg]? = some (.int b1) := Has.at Hsa103 hina103 rfl
  refine Go.st (X0.baloadBytes hx (j := (1 : Int32)) (v := (.int b1)) (by rw [e0]; exact Ara103.1) (State.isArrayOf_alike hZ.alike Ara103.2.1) Ara103.2.2 hina103 hata103 (g := (mkF m 34 #[.val (.ref a), .val (.int (4 : Int32)), .val (.int b0), .val (.int b1), .val (.int b2), .val (.int b3)] [(.int (1 : Int32)), (.ref a)])) rfl rfl (hb hby d16_34)) ?_
  show Go p e below _ (s₁.setTop (mkF m 35 #[.val (.ref a), .val (.int (4 : Int32)), .val (.int b0), .val (.int b1), .val (.int b2), .val (.int b3)] [(.int b1)]))
  refine Go.st (fun t' k' => XS.iloadN X0.here hx rfl (hb hby d16_35) rfl k') ?_
  show Go p e below _ (s₁.setTop (mkF m 36 #[.val (.ref a), .val (.int (4 : Int32)), .val (.int b0), .val (.int b1), .val (.int b2), .val (.int b3)] [(.int b1), (.int b1)]))
  refine Go.st (fun t' k' => XS.icmpYes X0.here hx rfl (pc0 := 36) (pc' := 41) rfl (hb hby d16_36) rfl (teq rfl).1 (by decide) (by decide) k') ?_
  show Go p e below _ (s₁.setTop (mkF m 41 #[.val (.ref a), .val (.int (4 : Int32)), .val (.int b0), .val (.int b1), .val (.int b2), .val (.int b3)] []))
  refine Go.st (fun t' k' => XS.iloadN X0.here hx rfl (hb hby d16_41) rfl k') ?_
  show Go p e below _ (s₁.setTop (mkF m 42 #[.val (.ref a), .val (.int (4 : Int32)), .val (.int b0), .val (.int b1), .val (.int b2), .val (.int b3)] [(.int (4 : Int32))]))
  refine Go.st (fun t' k' => XS.iconst X0.here hx rfl (hb hby d16_42) k') ?_
  show Go p e below _ (s₁.setTop (mkF m 43 #[.val (.ref a), .val (.int (4 : Int32)), .val (.int b0), .val (.int b1), .val (.int b2), .val (.int b3)] [(.int (2 : Int32)), (.int (4 : Int32))]))
  refine Go.st (fun t' k' => XS.icmpNo X0.here hx rfl (hb hby d16_43) rfl (tlt (by decide : (2 : Int32) < (4 : Int32))).2.2.2 k') ?_
  show Go p e below _ (s₁.setTop (mkF m 46 #[.val (.ref a), .val (.int (4 : Int32)), .val (.int b0), .val (.int b1), .val (.int b2), .val (.int b3)] []))
  refine Go.st (fun t' k' => XS.aloadN X0.here hx rfl (hb hby d16_46) rfl rfl k') ?_
  show Go p e below _ (s₁.setTop (mkF m 47 #[.val (.ref a), .val (.int (4 : Int32)), .val (.int b0), .val (.int b1), .val (.int b2), .val (.int b3)] [(.ref a)]))
  refine Go.st (fun t' k' => XS.iconst X0.here hx rfl (hb hby d16_47) k') ?_
  show Go p e below _ (s₁.setTop (mkF m 48 #[.val (.ref a), .val (.int (4 : Int32)), .val (.int b0), .val (.int b1), .val (.int b2), .val (.int b3)] [(.int (2 : Int32)), (.ref a)]))
  obtain ⟨cla104, Ara104, qa104, Sza104, Nza104, Hsa104, Gsa104⟩ := (id Aa)
  have hina104 : ¬ ((2 : Int32) < 0 ∨ cla104.slots.size ≤ ((2 : Int32)).toNatClampNeg) := inb_of Sza104 ⟨by decide, by decide⟩
  have hata104 : cla104.slots[((2 : Int32)).toNatClampNeg]? = some (.int b2) := Has.at Hsa104 hina104 rfl
  refine Go.st (X0.baloadBytes hx (j := (2 : Int32)) (v := (.int b2)) (by rw [e0]; exact Ara104.1) (State.isArrayOf_alike hZ.alike Ara104.2.1) Ara104.2.2 hina104 hata104 (g := (mkF m 48 #[.val (.ref a), .val (.int (4 : Int32)), .val (.int b0), .val (.int b1), .val (.int b2), .val (.int b3)] [(.int (2 : Int32)), (.ref a)])) rfl rfl (hb hby d16_48)) ?_
  show Go p e below _ (s₁.setTop (mkF m 49 #[.val (.ref a), .val (.int (4 : Int32)), .val (.int b0), .val (.int b1), .val (.int b2), .val (.int b3)] [(.int b2)]))
  refine Go.st (fun t' k' => XS.iload X0.here hx rfl (hb hby d16_49) rfl k') ?_
  show Go p e below _ (s₁.setTop (mkF m 51 #[.val (.ref a), .val (.int (4 : Int32)), .val (.int b0), .val (.int b1), .val (.int b2), .val (.int b3)] [(.int b2), (.int b2)]))
  refine Go.st (fun t' k' => XS.icmpYes X0.here hx rfl (pc0 := 51) (pc' := 56) rfl (hb hby d16_51) rfl (teq rfl).1 (by decide) (by decide) k') ?_
  show Go p e below _ (s₁.setTop (mkF m 56 #[.val (.ref a), .val (.int (4 : Int32)), .val (.int b0), .val (.int b1), .val (.int b2), .val (.int b3)] []))
  refine Go.st (fun t' k' => XS.iloadN X0.here hx rfl (hb hby d16_56) rfl k') ?_
  show Go p e below _ (s₁.setTop (mkF m 57 #[.val (.ref a), .val (.int (4 : Int32)), .val (.int b0), .val (.int b1), .val (.int b2), .val (.int b3)] [(.int (4 : Int32))]))
  refine Go.st (fun t' k' => XS.iconst X0.here hx rfl (hb hby d16_57) k') ?_
  show Go p e below _ (s₁.setTop (mkF m 58 #[.val (.ref a), .val (.int (4 : Int32)), .val (.int b0), .val (.int b1), .val (.int b2), .val (.int b3)] [(.int (3 : Int32)), (.int (4 : Int32))]))
  refine Go.st (fun t' k' => XS.icmpNo X0.here hx rfl (hb hby d16_58) rfl (tlt (by decide : (3 : Int32) < (4 : Int32))).2.2.2 k') ?_
  show Go p e below _ (s₁.setTop (mkF m 61 #[.val (.ref a), .val (.int (4 : Int32)), .val (.int b0), .val (.int b1), .val (.int b2), .val (.int b3)] []))
  refine Go.st (fun t' k' => XS.aloadN X0.here hx rfl (hb hby d16_61) rfl rfl k') ?_
  show Go p e below _ (s₁.setTop (mkF m 62 #[.val (.ref a), .val (.int (4 : Int32)), .val (.int b0), .val (.int b1), .val (.int b2), .val (.int b3)] [(.ref a)]))
  refine Go.st (fun t' k' => XS.iconst X0.here hx rfl (hb hby d16_62) k') ?_
  show Go p e below _ (s₁.setTop (mkF m 63 #[.val (.ref a), .val (.int (4 : Int32)), .val (.int b0), .val (.int b1), .val (.int b2), .val (.int b3)] [(.int (3 : Int32)), (.ref a)]))
  obtain ⟨cla105, Ara105, qa105, Sza105, Nza105, Hsa105, Gsa105⟩ := (id Aa)
  have hina105 : ¬ ((3 : Int32) < 0 ∨ cla105.slots.size ≤ ((3 : Int32)).toNatClampNeg) := inb_of Sza105 ⟨by decide, by decide⟩
  have hata105 : cla105.slots[((3 : Int32)).toNatClampNeg]? = some (.int b3) := Has.at Hsa105 hina105 rfl
  refine Go.st (X0.baloadBytes hx (j := (3 : Int32)) (v := (.int b3)) (by rw [e0]; exact Ara105.1) (State.isArrayOf_alike hZ.alike Ara105.2.1) Ara105.2.2 hina105 hata105 (g := (mkF m 63 #[.val (.ref a), .val (.int (4 : Int32)), .val (.int b0), .val (.int b1), .val (.int b2), .val (.int b3)] [(.int (3 : Int32)), (.ref a)])) rfl rfl (hb hby d16_63)) ?_
  show Go p e below _ (s₁.setTop (mkF m 64 #[.val (.ref a), .val (.int (4 : Int32)), .val (.int b0), .val (.int b1), .val (.int b2), .val (.int b3)] [(.int b3)]))
  refine Go.st (fun t' k' => XS.iload X0.here hx rfl (hb hby d16_64) rfl k') ?_
  show Go p e below _ (s₁.setTop (mkF m 66 #[.val (.ref a), .val (.int (4 : Int32)), .val (.int b0), .val (.int b1), .val (.int b2), .val (.int b3)] [(.int b3), (.int b3)]))
  refine Go.st (fun t' k' => XS.icmpYes X0.here hx rfl (pc0 := 66) (pc' := 71) rfl (hb hby d16_66) rfl (teq rfl).1 (by decide) (by decide) k') ?_
  show Go p e below _ (s₁.setTop (mkF m 71 #[.val (.ref a), .val (.int (4 : Int32)), .val (.int b0), .val (.int b1), .val (.int b2), .val (.int b3)] []))
  refine Go.st (fun t' k' => XS.iconst X0.here hx rfl (hb hby d16_71) k') ?_
  show Go p e below _ (s₁.setTop (mkF m 72 #[.val (.ref a), .val (.int (4 : Int32)), .val (.int b0), .val (.int b1), .val (.int b2), .val (.int b3)] [(.int (1 : Int32))]))
  exact Go.outN X0 hx hlk (t := .boolean) hret (by simp) (hb hby d16_72) (Q := Q_rmSm4 Z a b0 b1 b2 b3 kq h0) (by rw [e0]; exact ⟨rfl, rfl, rfl⟩) (by decide) (by decide)
def Q_rm0 (Z : State) (len : Int32) (bits : Int32) (w_EMPTY : Addr) (h0 : Heap) (v : Option Value) (h : Heap) (L : List Loc) : Prop := v = some (.int (1 : Int32)) ∧ Fr Z.heap.size L
theorem pd___B_Lcom_example_claim_claim_model_VerificationResult_ : parseMethodDescriptor "([B)Lcom/example/claim/claim/model/VerificationResult;" = some ⟨[(.array .byte)], some (.object "com/example/claim/claim/model/VerificationResult")⟩ := by decide +kernel
theorem pd___Ljava_util_Optional_ : parseMethodDescriptor "()Ljava/util/Optional;" = some ⟨[], some (.object "java/util/Optional")⟩ := by decide +kernel
theorem pd___Ljava_lang_Object_ : parseMethodDescriptor "()Ljava/lang/Object;" = some ⟨[], some (.object "java/lang/Object")⟩ := by decide +kernel
theorem pd___BIBBBB_Z : parseMethodDescriptor "([BIBBBB)Z" = some ⟨[(.array .byte), .int, .byte, .byte, .byte, .byte], some .boolean⟩ := by decide +kernel
set_option maxRecDepth 65536 in
set_option maxHeartbeats 40000000 in
theorem blk0 {p : Program} {l : Launch} {e : Env} {s : State} {m : MethodId} {below : List Frame} {meth : Method} {c : Code} {T0 : State} {locs : List Loc} {vm0 : Vm} {k0 : Nat} (Z : State) (a0 : Array Value) (hw : ∀ d ∈ tables_1, d.before a0 Z = true) (len : Int32) (bits : Int32) (w_EMPTY : Addr) (h0 : Heap) (S_EMPTY : Sta Z Z.heap "java/util/Optional" "EMPTY" "Ljava/util/Optional;" (.ref w_EMPTY)) (E_EMPTY : Exa Z Z.heap w_EMPTY "java/util/Optional") (F_EMPTY_value : Fld Z Z.heap w_EMPTY "java/util/Optional" "value" "Ljava/lang/Object;" .null) (b0 : Int32) (b1 : Int32) (b2 : Int32) (b3 : Int32) (h : Heap) (X0 : Stand p l e room_1 (s.setVm vm0) m #[(.int len), (.int bits)] below meth c T0 locs 0 0)
    (hx : p.tables.exec = Jvm.exec) (hZ : Z.Warmed39 (s.setVm vm0).vm) (hby : c.code = code) (hml : c.maxLocals = 12) (hown : (s.setVm vm0).vm.findClass "com/example/claim/claim/model/VerificationResultAcceptedPinLaw" = some m.cls) (hret : meth.sig.returnType = ret) (hlk : meth.locks = false) (e0 : T0.heap = h) (N0 : Fr Z.heap.size locs) (O0 : Ext Z.heap h) (hS0 : s.Since vm0 k0) (hk0 : k0 ≤ h.size) (hb0 : b0.toInt8.toInt32 = b0) (hb1 : b1.toInt8.toInt32 = b1) (hb2 : b2.toInt8.toInt32 = b2) (hb3 : b3.toInt8.toInt32 = b3) :
    Go p e below (GOW s (Q_rm0 Z len bits w_EMPTY h0) room_1.cells room_1.slots) (T0.setTop (mkF m 31 #[.val (.int len), .val (.int bits), .val (.int (0 : Int32)), .val (.int b0), .val (.int b1), .val (.int b2), .val (.int b3), .unset, .unset, .unset, .unset, .unset] [])) := by
  show Go p e below _ (T0.setTop (mkF m 31 #[.val (.int len), .val (.int bits), .val (.int (0 : Int32)), .val (.int b0), .val (.int b1), .val (.int b2), .val (.int b3), .unset, .unset, .unset, .unset, .unset] []))
  refine Go.st (fun t' k' => XS.iloadN X0.here hx rfl (hb hby at_31) rfl k') ?_
  show Go p e below _ (T0.setTop (mkF m 32 #[.val (.int len), .val (.int bits), .val (.int (0 : Int32)), .val (.int b0), .val (.int b1), .val (.int b2), .val (.int b3), .unset, .unset, .unset, .unset, .unset] [(.int (0 : Int32))]))
  obtain ⟨T101, h101, k101, X101, e101, E101, A101, Q101, st101⟩ := newPE X0 hx hZ (hw _ (List.mem_of_getElem? (i := 1) rfl)) e0 (g := (mkF m 32 #[.val (.int len), .val (.int bits), .val (.int (0 : Int32)), .val (.int b0), .val (.int b1), .val (.int b2), .val (.int b3), .unset, .unset, .unset, .unset, .unset] [(.int (0 : Int32))])) rfl (hb hby at_32) rfl (by decide) (cap := 0) (by decide) (by decide) (by decide) (by decide) (ad := "[B") (by decide +kernel)
  obtain ⟨b101, g101⟩ : ∃ z, z = h.size := ⟨_, rfl⟩
  rw [← g101] at A101 st101 Q101
  refine Go.st st101 ?_
  have ne_w_EMPTY_b101 : w_EMPTY ≠ b101 := Nat.ne_of_lt (Nat.lt_of_lt_of_le (E_EMPTY.ext O0).lt (Nat.le_of_eq g101.symm))
  have g_b101 : Z.heap.size ≤ b101 := Nat.le_trans O0.1 (Nat.le_of_eq g101.symm)
  have hk101 := Nat.le_trans hk0 E101.1
  have O101 := own_ext_trans O0 E101
  have V_b101 : Arv Z h101 b101 k101 .byte (0 : Int32) [] (.int (0 : Int32)) := (Arv.new A101 (by decide)).pad (pad_rep [] (.int (0 : Int32)) 0)
  show Go p e below _ (T101.setTop (mkF m 34 #[.val (.int len), .val (.int bits), .val (.int (0 : Int32)), .val (.int b0), .val (.int b1), .val (.int b2), .val (.int b3), .unset, .unset, .unset, .unset, .unset] [(.ref b101)]))
  refine Go.st (fun t' k' => XS.astore X101.here hx rfl (hb hby at_34) rfl rfl (l' := #[.val (.int len), .val (.int bits), .val (.int (0 : Int32)), .val (.int b0), .val (.int b1), .val (.int b2), .val (.int b3), .val (.ref b101), .unset, .unset, .unset, .unset]) rfl k') ?_
  show Go p e below _ (T101.setTop (mkF m 36 #[.val (.int len), .val (.int bits), .val (.int (0 : Int32)), .val (.int b0), .val (.int b1), .val (.int b2), .val (.int b3), .val (.ref b101), .unset, .unset, .unset, .unset] []))
  refine Go.st (fun t' k' => XS.iloadN X101.here hx rfl (hb hby at_36) rfl k') ?_
  show Go p e below _ (T101.setTop (mkF m 37 #[.val (.int len), .val (.int bits), .val (.int (0 : Int32)), .val (.int b0), .val (.int b1), .val (.int b2), .val (.int b3), .val (.ref b101), .unset, .unset, .unset, .unset] [(.int (0 : Int32))]))
  refine Go.st (fun t' k' => XS.ifYes X101.here hx rfl (pc0 := 37) (pc' := 45) rfl (hb hby at_37) rfl ((if0 _ _).trans (flt (by decide : ¬ ((0 : Int32) < (0 : Int32)))).2.2.2) (by decide) (by decide) k') ?_
  show Go p e below _ (T101.setTop (mkF m 45 #[.val (.int len), .val (.int bits), .val (.int (0 : Int32)), .val (.int b0), .val (.int b1), .val (.int b2), .val (.int b3), .val (.ref b101), .unset, .unset, .unset, .unset] []))
  refine Go.st (fun t' k' => XS.iloadN X101.here hx rfl (hb hby at_45) rfl k') ?_
  show Go p e below _ (T101.setTop (mkF m 46 #[.val (.int len), .val (.int bits), .val (.int (0 : Int32)), .val (.int b0), .val (.int b1), .val (.int b2), .val (.int b3), .val (.ref b101), .unset, .unset, .unset, .unset] [(.int (0 : Int32))]))
  refine Go.st (fun t' k' => XS.iconst X101.here hx rfl (hb hby at_46) k') ?_
  show Go p e below _ (T101.setTop (mkF m 47 #[.val (.int len), .val (.int bits), .val (.int (0 : Int32)), .val (.int b0), .val (.int b1), .val (.int b2), .val (.int b3), .val (.ref b101), .unset, .unset, .unset, .unset] [(.int (1 : Int32)), (.int (0 : Int32))]))
  refine Go.st (fun t' k' => XS.icmpYes X101.here hx rfl (pc0 := 47) (pc' := 56) rfl (hb hby at_47) rfl (flt (by decide : ¬ ((1 : Int32) < (0 : Int32)))).2.2.2 (by decide) (by decide) k') ?_
  show Go p e below _ (T101.setTop (mkF m 56 #[.val (.int len), .val (.int bits), .val (.int (0 : Int32)), .val (.int b0), .val (.int b1), .val (.int b2), .val (.int b3), .val (.ref b101), .unset, .unset, .unset, .unset] []))
  refine Go.st (fun t' k' => XS.iloadN X101.here hx rfl (hb hby at_56) rfl k') ?_
  show Go p e below _ (T101.setTop (mkF m 57 #[.val (.int len), .val (.int bits), .val (.int (0 : Int32)), .val (.int b0), .val (.int b1), .val (.int b2), .val (.int b3), .val (.ref b101), .unset, .unset, .unset, .unset] [(.int (0 : Int32))]))
  refine Go.st (fun t' k' => XS.iconst X101.here hx rfl (hb hby at_57) k') ?_
  show Go p e below _ (T101.setTop (mkF m 58 #[.val (.int len), .val (.int bits), .val (.int (0 : Int32)), .val (.int b0), .val (.int b1), .val (.int b2), .val (.int b3), .val (.ref b101), .unset, .unset, .unset, .unset] [(.int (2 : Int32)), (.int (0 : Int32))]))
  refine Go.st (fun t' k' => XS.icmpYes X101.here hx rfl (pc0 := 58) (pc' := 67) rfl (hb hby at_58) rfl (flt (by decide : ¬ ((2 : Int32) < (0 : Int32)))).2.2.2 (by decide) (by decide) k') ?_
  show Go p e below _ (T101.setTop (mkF m 67 #[.val (.int len), .val (.int bits), .val (.int (0 : Int32)), .val (.int b0), .val (.int b1), .val (.int b2), .val (.int b3), .val (.ref b101), .unset, .unset, .unset, .unset] []))
  refine Go.st (fun t' k' => XS.iloadN X101.here hx rfl (hb hby at_67) rfl k') ?_
  show Go p e below _ (T101.setTop (mkF m 68 #[.val (.int len), .val (.int bits), .val (.int (0 : Int32)), .val (.int b0), .val (.int b1), .val (.int b2), .val (.int b3), .val (.ref b101), .unset, .unset, .unset, .unset] [(.int (0 : Int32))]))
  refine Go.st (fun t' k' => XS.iconst X101.here hx rfl (hb hby at_68) k') ?_
  show Go p e below _ (T101.setTop (mkF m 69 #[.val (.int len), .val (.int bits), .val (.int (0 : Int32)), .val (.int b0), .val (.int b1), .val (.int b2), .val (.int b3), .val (.ref b101), .unset, .unset, .unset, .unset] [(.int (3 : Int32)), (.int (0 : Int32))]))
  refine Go.st (fun t' k' => XS.icmpYes X101.here hx rfl (pc0 := 69) (pc' := 78) rfl (hb hby at_69) rfl (flt (by decide : ¬ ((3 : Int32) < (0 : Int32)))).2.2.2 (by decide) (by decide) k') ?_
  show Go p e below _ (T101.setTop (mkF m 78 #[.val (.int len), .val (.int bits), .val (.int (0 : Int32)), .val (.int b0), .val (.int b1), .val (.int b2), .val (.int b3), .val (.ref b101), .unset, .unset, .unset, .unset] []))
  refine Go.st (fun t' k' => XS.aload X101.here hx rfl (hb hby at_78) rfl rfl k') ?_
  show Go p e below _ (T101.setTop (mkF m 80 #[.val (.int len), .val (.int bits), .val (.int (0 : Int32)), .val (.int b0), .val (.int b1), .val (.int b2), .val (.int b3), .val (.ref b101), .unset, .unset, .unset, .unset] [(.ref b101)]))
  obtain ⟨_, _, ⟨T103, L103, k103, n103⟩, -, X103, hs103, gr103, ⟨Lc103, hQ103, l103, y103, z103⟩, st103⟩ := Jvm.RoadKit.callSS X101 hx (y := (⟨"com/example/claim/claim/model/VerificationResult", "accepted", "([B)Lcom/example/claim/claim/model/VerificationResult;"⟩ : MethodName)) hown (mvT hZ (hw _ (List.mem_of_getElem? (i := 2) rfl))) (mvT hZ (hw _ (List.mem_of_getElem? (i := 3) rfl))) (mvT hZ (hw _ (List.mem_of_getElem? (i := 4) rfl))) (mvT hZ (hw _ (List.mem_of_getElem? (i := 5) rfl))) (by decide) (backOfS (W := 0) (rmAc l Z a0 hw [] b101 k101 ((0 : Int32)) [] h101 O101 Q101 V_b101 (by decide)) hZ (hw _ (List.mem_of_getElem? (i := 5) rfl)) (hw _ (List.mem_of_getElem? (i := 4) rfl)) (by decide) (by decide)) (g := (mkF m 80 #[.val (.int len), .val (.int bits), .val (.int (0 : Int32)), .val (.int b0), .val (.int b1), .val (.int b2), .val (.int b3), .val (.ref b101), .unset, .unset, .unset, .unset] [(.ref b101)])) rfl (by rw [hml]; rfl) (argsL := [(.ref b101)]) (rest := []) (lenOf pd___B_Lcom_example_claim_claim_model_VerificationResult_ rfl) rfl (by show 2 * 0 + _ ≤ _; exact Nat.le_of_eq rfl) (hb hby at_80) (fun _ _ => ⟨rfl, e101, (by decide : 1 + 4 ≤ _), (by decide : 0 + 48 ≤ _)⟩)
  dsimp only [Pt.U, Pt.locs, Pt.cells, Pt.slots] at X103 l103 y103 z103 st103 hQ103 hs103 gr103
  subst y103 z103
  obtain ⟨b_103, q_103, rfl, N103q, O103, Kc103, Eb_103, Pp_103, Pq_103, Eq__103, Aq_103, Gb_103, Gq_103, Sb_103, Sq_103, Nbq_103⟩ := hQ103
  have N103 : Fr Z.heap.size L103 := by rw [l103]; exact Fr.app N0 N103q
  refine Go.tr st103 ?_
  obtain ⟨X103r, hS103, hZ103, hown103⟩ := rebS hS0 (by rw [e101]; exact hk101) X103 hs103 gr103 hZ hown
  have Q101_h104 := Q101.keep Kc103
  have V_b101_h104 := V_b101.keep Kc103 nin0
  have ne_w_EMPTY_b_103 : w_EMPTY ≠ b_103 := Nat.ne_of_lt (Nat.lt_of_lt_of_le (E_EMPTY.ext O101).lt Sb_103)
  have ne_b101_b_103 : b101 ≠ b_103 := Nat.ne_of_lt (Nat.lt_of_lt_of_le Q101.lt Sb_103)
  have ne_w_EMPTY_q_103 : w_EMPTY ≠ q_103 := Nat.ne_of_lt (Nat.lt_of_lt_of_le (E_EMPTY.ext O101).lt Sq_103)
  have ne_b101_q_103 : b101 ≠ q_103 := Nat.ne_of_lt (Nat.lt_of_lt_of_le Q101.lt Sq_103)
  show Go p e below _ (T103.setTop (mkF m 83 #[.val (.int len), .val (.int bits), .val (.int (0 : Int32)), .val (.int b0), .val (.int b1), .val (.int b2), .val (.int b3), .val (.ref b101), .unset, .unset, .unset, .unset] [(.ref b_103)]))
  refine Go.st (fun t' k' => XS.astore X103r.here hx rfl (hb hby at_83) rfl rfl (l' := #[.val (.int len), .val (.int bits), .val (.int (0 : Int32)), .val (.int b0), .val (.int b1), .val (.int b2), .val (.int b3), .val (.ref b101), .val (.ref b_103), .unset, .unset, .unset]) rfl k') ?_
  show Go p e below _ (T103.setTop (mkF m 85 #[.val (.int len), .val (.int bits), .val (.int (0 : Int32)), .val (.int b0), .val (.int b1), .val (.int b2), .val (.int b3), .val (.ref b101), .val (.ref b_103), .unset, .unset, .unset] []))
  refine Go.st (fun t' k' => XS.iloadN X103r.here hx rfl (hb hby at_85) rfl k') ?_
  show Go p e below _ (T103.setTop (mkF m 86 #[.val (.int len), .val (.int bits), .val (.int (0 : Int32)), .val (.int b0), .val (.int b1), .val (.int b2), .val (.int b3), .val (.ref b101), .val (.ref b_103), .unset, .unset, .unset] [(.int (0 : Int32))]))
  refine Go.st (fun t' k' => XS.ifYes X103r.here hx rfl (pc0 := 86) (pc' := 97) rfl (hb hby at_86) rfl ((if0 _ _).trans (flt (by decide : ¬ ((0 : Int32) < (0 : Int32)))).2.2.2) (by decide) (by decide) k') ?_
  show Go p e below _ (T103.setTop (mkF m 97 #[.val (.int len), .val (.int bits), .val (.int (0 : Int32)), .val (.int b0), .val (.int b1), .val (.int b2), .val (.int b3), .val (.ref b101), .val (.ref b_103), .unset, .unset, .unset] []))
  refine Go.st (fun t' k' => XS.iloadN X103r.here hx rfl (hb hby at_97) rfl k') ?_
  show Go p e below _ (T103.setTop (mkF m 98 #[.val (.int len), .val (.int bits), .val (.int (0 : Int32)), .val (.int b0), .val (.int b1), .val (.int b2), .val (.int b3), .val (.ref b101), .val (.ref b_103), .unset, .unset, .unset] [(.int (0 : Int32))]))
  refine Go.st (fun t' k' => XS.iconst X103r.here hx rfl (hb hby at_98) k') ?_
  show Go p e below _ (T103.setTop (mkF m 99 #[.val (.int len), .val (.int bits), .val (.int (0 : Int32)), .val (.int b0), .val (.int b1), .val (.int b2), .val (.int b3), .val (.ref b101), .val (.ref b_103), .unset, .unset, .unset] [(.int (1 : Int32)), (.int (0 : Int32))]))
  refine Go.st (fun t' k' => XS.icmpYes X103r.here hx rfl (pc0 := 99) (pc' := 111) rfl (hb hby at_99) rfl (flt (by decide : ¬ ((1 : Int32) < (0 : Int32)))).2.2.2 (by decide) (by decide) k') ?_
  show Go p e below _ (T103.setTop (mkF m 111 #[.val (.int len), .val (.int bits), .val (.int (0 : Int32)), .val (.int b0), .val (.int b1), .val (.int b2), .val (.int b3), .val (.ref b101), .val (.ref b_103), .unset, .unset, .unset] []))
  refine Go.st (fun t' k' => XS.iloadN X103r.here hx rfl (hb hby at_111) rfl k') ?_
  show Go p e below _ (T103.setTop (mkF m 112 #[.val (.int len), .val (.int bits), .val (.int (0 : Int32)), .val (.int b0), .val (.int b1), .val (.int b2), .val (.int b3), .val (.ref b101), .val (.ref b_103), .unset, .unset, .unset] [(.int (0 : Int32))]))
  refine Go.st (fun t' k' => XS.iconst X103r.here hx rfl (hb hby at_112) k') ?_
  show Go p e below _ (T103.setTop (mkF m 113 #[.val (.int len), .val (.int bits), .val (.int (0 : Int32)), .val (.int b0), .val (.int b1), .val (.int b2), .val (.int b3), .val (.ref b101), .val (.ref b_103), .unset, .unset, .unset] [(.int (2 : Int32)), (.int (0 : Int32))]))
  refine Go.st (fun t' k' => XS.icmpYes X103r.here hx rfl (pc0 := 113) (pc' := 125) rfl (hb hby at_113) rfl (flt (by decide : ¬ ((2 : Int32) < (0 : Int32)))).2.2.2 (by decide) (by decide) k') ?_
  show Go p e below _ (T103.setTop (mkF m 125 #[.val (.int len), .val (.int bits), .val (.int (0 : Int32)), .val (.int b0), .val (.int b1), .val (.int b2), .val (.int b3), .val (.ref b101), .val (.ref b_103), .unset, .unset, .unset] []))
  refine Go.st (fun t' k' => XS.iloadN X103r.here hx rfl (hb hby at_125) rfl k') ?_
  show Go p e below _ (T103.setTop (mkF m 126 #[.val (.int len), .val (.int bits), .val (.int (0 : Int32)), .val (.int b0), .val (.int b1), .val (.int b2), .val (.int b3), .val (.ref b101), .val (.ref b_103), .unset, .unset, .unset] [(.int (0 : Int32))]))
  refine Go.st (fun t' k' => XS.iconst X103r.here hx rfl (hb hby at_126) k') ?_
  show Go p e below _ (T103.setTop (mkF m 127 #[.val (.int len), .val (.int bits), .val (.int (0 : Int32)), .val (.int b0), .val (.int b1), .val (.int b2), .val (.int b3), .val (.ref b101), .val (.ref b_103), .unset, .unset, .unset] [(.int (3 : Int32)), (.int (0 : Int32))]))
  refine Go.st (fun t' k' => XS.icmpYes X103r.here hx rfl (pc0 := 127) (pc' := 139) rfl (hb hby at_127) rfl (flt (by decide : ¬ ((3 : Int32) < (0 : Int32)))).2.2.2 (by decide) (by decide) k') ?_
  show Go p e below _ (T103.setTop (mkF m 139 #[.val (.int len), .val (.int bits), .val (.int (0 : Int32)), .val (.int b0), .val (.int b1), .val (.int b2), .val (.int b3), .val (.ref b101), .val (.ref b_103), .unset, .unset, .unset] []))
  refine Go.st (fun t' k' => XS.aload X103r.here hx rfl (hb hby at_139) rfl rfl k') ?_
  show Go p e below _ (T103.setTop (mkF m 141 #[.val (.int len), .val (.int bits), .val (.int (0 : Int32)), .val (.int b0), .val (.int b1), .val (.int b2), .val (.int b3), .val (.ref b101), .val (.ref b_103), .unset, .unset, .unset] [(.ref b_103)]))
  obtain ⟨cq105, kq105, q105a, q105b, q105c⟩ := isOf hZ103 rfl Eb_103
  obtain ⟨_, _, ⟨T105, L105, k105, n105⟩, -, X105, ⟨Lc105, hQ105, l105, y105, z105⟩, st105⟩ := X103r.virtualBack hx (y := (⟨"com/example/claim/claim/model/VerificationResult", "isAccepted", "()Z"⟩ : MethodName)) (z := (⟨"com/example/claim/claim/model/VerificationResult", "isAccepted", "()Z"⟩ : MethodName)) hown103 (mvT hZ103 (hw _ (List.mem_of_getElem? (i := 38) rfl))) (mvT hZ103 (hw _ (List.mem_of_getElem? (i := 39) rfl))) (notFace_of_selects (args := #[]) (mvT hZ103 (hw _ (List.mem_of_getElem? (i := 41) rfl)))) (mvT hZ103 (hw _ (List.mem_of_getElem? (i := 41) rfl))) (mvT hZ103 (hw _ (List.mem_of_getElem? (i := 40) rfl))) (by decide) (backOf (W := 0) (rmIA l Z a0 hw [] b_103 q_103 T103.heap O103 Pp_103) hZ103 (hw _ (List.mem_of_getElem? (i := 42) rfl)) (hw _ (List.mem_of_getElem? (i := 4) rfl)) (by decide) (by decide)) q105a q105c (g := (mkF m 141 #[.val (.int len), .val (.int bits), .val (.int (0 : Int32)), .val (.int b0), .val (.int b1), .val (.int b2), .val (.int b3), .val (.ref b101), .val (.ref b_103), .unset, .unset, .unset] [(.ref b_103)])) rfl (by rw [hml]; rfl) (Steps.refl _) (argsL := []) (rest := []) (lenOf pd___Z rfl) rfl (by show 2 * 0 + _ ≤ _; exact Nat.le_of_eq rfl) (hb hby at_141) (fun _ _ => ⟨rfl, rfl, (by decide : 5 + 0 ≤ _), (by decide : 48 + 0 ≤ _)⟩)
  dsimp only [Pt.U, Pt.locs, Pt.cells, Pt.slots] at X105 l105 y105 z105 st105 hQ105
  subst y105 z105
  obtain ⟨rfl, rfl, e105⟩ := hQ105
  have N105 : Fr Z.heap.size L105 := by rw [l105]; exact Fr.app N103 (Fr.nil _)
  refine Go.tr st105 ?_
  show Go p e below _ (T105.setTop (mkF m 144 #[.val (.int len), .val (.int bits), .val (.int (0 : Int32)), .val (.int b0), .val (.int b1), .val (.int b2), .val (.int b3), .val (.ref b101), .val (.ref b_103), .unset, .unset, .unset] [(.int (1 : Int32))]))
  refine Go.st (fun t' k' => XS.ifYes X105.here hx rfl (pc0 := 144) (pc' := 149) rfl (hb hby at_144) rfl ((if0 _ _).trans (feq (by decide : ¬ ((1 : Int32) = (0 : Int32)))).2) (by decide) (by decide) k') ?_
  show Go p e below _ (T105.setTop (mkF m 149 #[.val (.int len), .val (.int bits), .val (.int (0 : Int32)), .val (.int b0), .val (.int b1), .val (.int b2), .val (.int b3), .val (.ref b101), .val (.ref b_103), .unset, .unset, .unset] []))
  refine Go.st (fun t' k' => XS.aload X105.here hx rfl (hb hby at_149) rfl rfl k') ?_
  show Go p e below _ (T105.setTop (mkF m 151 #[.val (.int len), .val (.int bits), .val (.int (0 : Int32)), .val (.int b0), .val (.int b1), .val (.int b2), .val (.int b3), .val (.ref b101), .val (.ref b_103), .unset, .unset, .unset] [(.ref b_103)]))
  obtain ⟨cq106, kq106, q106a, q106b, q106c⟩ := isOf hZ103 e105 Eb_103
  obtain ⟨_, _, ⟨T106, L106, k106, n106⟩, -, X106, ⟨Lc106, hQ106, l106, y106, z106⟩, st106⟩ := X105.virtualBack hx (y := (⟨"com/example/claim/claim/model/VerificationResult", "refusal", "()Ljava/util/Optional;"⟩ : MethodName)) (z := (⟨"com/example/claim/claim/model/VerificationResult", "refusal", "()Ljava/util/Optional;"⟩ : MethodName)) hown103 (mvT hZ103 (hw _ (List.mem_of_getElem? (i := 43) rfl))) (mvT hZ103 (hw _ (List.mem_of_getElem? (i := 44) rfl))) (notFace_of_selects (args := #[]) (mvT hZ103 (hw _ (List.mem_of_getElem? (i := 46) rfl)))) (mvT hZ103 (hw _ (List.mem_of_getElem? (i := 46) rfl))) (mvT hZ103 (hw _ (List.mem_of_getElem? (i := 45) rfl))) (by decide) (backOf (W := 0) (rmRq l Z a0 hw [] b_103 w_EMPTY T103.heap O103 S_EMPTY Pq_103) hZ103 (hw _ (List.mem_of_getElem? (i := 47) rfl)) (hw _ (List.mem_of_getElem? (i := 4) rfl)) (by decide) (by decide)) q106a q106c (g := (mkF m 151 #[.val (.int len), .val (.int bits), .val (.int (0 : Int32)), .val (.int b0), .val (.int b1), .val (.int b2), .val (.int b3), .val (.ref b101), .val (.ref b_103), .unset, .unset, .unset] [(.ref b_103)])) rfl (by rw [hml]; rfl) (Steps.refl _) (argsL := []) (rest := []) (lenOf pd___Ljava_util_Optional_ rfl) rfl (by show 2 * 0 + _ ≤ _; exact Nat.le_of_eq rfl) (hb hby at_151) (fun _ _ => ⟨rfl, e105, (by decide : 5 + 0 ≤ _), (by decide : 48 + 0 ≤ _)⟩)
  dsimp only [Pt.U, Pt.locs, Pt.cells, Pt.slots] at X106 l106 y106 z106 st106 hQ106
  subst y106 z106
  obtain ⟨rfl, rfl, e106⟩ := hQ106
  have N106 : Fr Z.heap.size L106 := by rw [l106]; exact Fr.app N105 (Fr.nil _)
  refine Go.tr st106 ?_
  show Go p e below _ (T106.setTop (mkF m 154 #[.val (.int len), .val (.int bits), .val (.int (0 : Int32)), .val (.int b0), .val (.int b1), .val (.int b2), .val (.int b3), .val (.ref b101), .val (.ref b_103), .unset, .unset, .unset] [(.ref w_EMPTY)]))
  obtain ⟨cq107, kq107, q107a, q107b, q107c⟩ := isOf hZ103 e106 (E_EMPTY.ext O103)
  obtain ⟨_, _, ⟨T107, L107, k107, n107⟩, -, X107, ⟨Lc107, hQ107, l107, y107, z107⟩, st107⟩ := X106.virtualBack hx (y := (⟨"java/util/Optional", "isPresent", "()Z"⟩ : MethodName)) (z := (⟨"java/util/Optional", "isPresent", "()Z"⟩ : MethodName)) hown103 (mvT hZ103 (hw _ (List.mem_of_getElem? (i := 53) rfl))) (mvT hZ103 (hw _ (List.mem_of_getElem? (i := 54) rfl))) (notFace_of_selects (args := #[]) (mvT hZ103 (hw _ (List.mem_of_getElem? (i := 56) rfl)))) (mvT hZ103 (hw _ (List.mem_of_getElem? (i := 56) rfl))) (mvT hZ103 (hw _ (List.mem_of_getElem? (i := 55) rfl))) (by decide) (backOf (W := 0) (rmIs0 l Z a0 hw [] w_EMPTY T103.heap O103 (F_EMPTY_value.ext O103)) hZ103 (hw _ (List.mem_of_getElem? (i := 57) rfl)) (hw _ (List.mem_of_getElem? (i := 50) rfl)) (by decide) (by decide)) q107a q107c (g := (mkF m 154 #[.val (.int len), .val (.int bits), .val (.int (0 : Int32)), .val (.int b0), .val (.int b1), .val (.int b2), .val (.int b3), .val (.ref b101), .val (.ref b_103), .unset, .unset, .unset] [(.ref w_EMPTY)])) rfl (by rw [hml]; rfl) (Steps.refl _) (argsL := []) (rest := []) (lenOf pd___Z rfl) rfl (by show 2 * 0 + _ ≤ _; exact Nat.le_of_eq rfl) (hb hby at_154) (fun _ _ => ⟨rfl, e106, (by decide : 5 + 0 ≤ _), (by decide : 48 + 0 ≤ _)⟩)
  dsimp only [Pt.U, Pt.locs, Pt.cells, Pt.slots] at X107 l107 y107 z107 st107 hQ107
  subst y107 z107
  obtain ⟨rfl, rfl, e107⟩ := hQ107
  have N107 : Fr Z.heap.size L107 := by rw [l107]; exact Fr.app N106 (Fr.nil _)
  refine Go.tr st107 ?_
  show Go p e below _ (T107.setTop (mkF m 157 #[.val (.int len), .val (.int bits), .val (.int (0 : Int32)), .val (.int b0), .val (.int b1), .val (.int b2), .val (.int b3), .val (.ref b101), .val (.ref b_103), .unset, .unset, .unset] [(.int (0 : Int32))]))
  refine Go.st (fun t' k' => XS.ifYes X107.here hx rfl (pc0 := 157) (pc' := 162) rfl (hb hby at_157) rfl ((if0 _ _).trans (teq (by decide : (0 : Int32) = (0 : Int32))).1) (by decide) (by decide) k') ?_
  show Go p e below _ (T107.setTop (mkF m 162 #[.val (.int len), .val (.int bits), .val (.int (0 : Int32)), .val (.int b0), .val (.int b1), .val (.int b2), .val (.int b3), .val (.ref b101), .val (.ref b_103), .unset, .unset, .unset] []))
  refine Go.st (fun t' k' => XS.aload X107.here hx rfl (hb hby at_162) rfl rfl k') ?_
  show Go p e below _ (T107.setTop (mkF m 164 #[.val (.int len), .val (.int bits), .val (.int (0 : Int32)), .val (.int b0), .val (.int b1), .val (.int b2), .val (.int b3), .val (.ref b101), .val (.ref b_103), .unset, .unset, .unset] [(.ref b_103)]))
  obtain ⟨cq108, kq108, q108a, q108b, q108c⟩ := isOf hZ103 e107 Eb_103
  obtain ⟨_, _, ⟨T108, L108, k108, n108⟩, -, X108, ⟨Lc108, hQ108, l108, y108, z108⟩, st108⟩ := X107.virtualBack hx (y := (⟨"com/example/claim/claim/model/VerificationResult", "payload", "()Ljava/util/Optional;"⟩ : MethodName)) (z := (⟨"com/example/claim/claim/model/VerificationResult", "payload", "()Ljava/util/Optional;"⟩ : MethodName)) hown103 (mvT hZ103 (hw _ (List.mem_of_getElem? (i := 60) rfl))) (mvT hZ103 (hw _ (List.mem_of_getElem? (i := 61) rfl))) (notFace_of_selects (args := #[]) (mvT hZ103 (hw _ (List.mem_of_getElem? (i := 63) rfl)))) (mvT hZ103 (hw _ (List.mem_of_getElem? (i := 63) rfl))) (mvT hZ103 (hw _ (List.mem_of_getElem? (i := 62) rfl))) (by decide) (backOf (W := 0) (rmPl l Z a0 hw [] b_103 q_103 k101 ((0 : Int32)) [] T103.heap O103 Pp_103 Eq__103 Aq_103 (by decide)) hZ103 (hw _ (List.mem_of_getElem? (i := 64) rfl)) (hw _ (List.mem_of_getElem? (i := 4) rfl)) (by decide) (by decide)) q108a q108c (g := (mkF m 164 #[.val (.int len), .val (.int bits), .val (.int (0 : Int32)), .val (.int b0), .val (.int b1), .val (.int b2), .val (.int b3), .val (.ref b101), .val (.ref b_103), .unset, .unset, .unset] [(.ref b_103)])) rfl (by rw [hml]; rfl) (Steps.refl _) (argsL := []) (rest := []) (lenOf pd___Ljava_util_Optional_ rfl) rfl (by show 2 * 0 + _ ≤ _; exact Nat.le_of_eq rfl) (hb hby at_164) (fun _ _ => ⟨rfl, e107, (by decide : 5 + 3 ≤ _), (by decide : 48 + 6 ≤ _)⟩)
  dsimp only [Pt.U, Pt.locs, Pt.cells, Pt.slots] at X108 l108 y108 z108 st108 hQ108
  subst y108 z108
  obtain ⟨b_108, u_108, rfl, N108q, O108, Kc108, Eb_108, Pv_108, Eu_108, Au_108, Gb_108, Gu_108, Sb_108, Su_108, Nbu_108⟩ := hQ108
  have N108 : Fr Z.heap.size L108 := by rw [l108]; exact Fr.app N107 N108q
  refine Go.tr st108 ?_
  have hk108 := Nat.le_trans (Nat.le_refl _) Kc108.1
  have Q101_h109 := Q101_h104.keep Kc108
  have V_b101_h109 := V_b101_h104.keep Kc108 nin0
  have Eb_103_h109 := Eb_103.keep Kc108
  have Pp_103_h109 := Pp_103.keep Kc108 nin0
  have Pq_103_h109 := Pq_103.keep Kc108 nin0
  have Eq__103_h109 := Eq__103.keep Kc108
  have Aq_103_h109 := Aq_103.keep Kc108 nin0
  have ne_w_EMPTY_b_108 : w_EMPTY ≠ b_108 := Nat.ne_of_lt (Nat.lt_of_lt_of_le (E_EMPTY.ext O103).lt Sb_108)
  have ne_b101_b_108 : b101 ≠ b_108 := Nat.ne_of_lt (Nat.lt_of_lt_of_le Q101_h104.lt Sb_108)
  have ne_b_103_b_108 : b_103 ≠ b_108 := Nat.ne_of_lt (Nat.lt_of_lt_of_le Eb_103.lt Sb_108)
  have ne_q_103_b_108 : q_103 ≠ b_108 := Nat.ne_of_lt (Nat.lt_of_lt_of_le Eq__103.lt Sb_108)
  have ne_w_EMPTY_u_108 : w_EMPTY ≠ u_108 := Nat.ne_of_lt (Nat.lt_of_lt_of_le (E_EMPTY.ext O103).lt Su_108)
  have ne_b101_u_108 : b101 ≠ u_108 := Nat.ne_of_lt (Nat.lt_of_lt_of_le Q101_h104.lt Su_108)
  have ne_b_103_u_108 : b_103 ≠ u_108 := Nat.ne_of_lt (Nat.lt_of_lt_of_le Eb_103.lt Su_108)
  have ne_q_103_u_108 : q_103 ≠ u_108 := Nat.ne_of_lt (Nat.lt_of_lt_of_le Eq__103.lt Su_108)
  show Go p e below _ (T108.setTop (mkF m 167 #[.val (.int len), .val (.int bits), .val (.int (0 : Int32)), .val (.int b0), .val (.int b1), .val (.int b2), .val (.int b3), .val (.ref b101), .val (.ref b_103), .unset, .unset, .unset] [(.ref b_108)]))
  refine Go.st (fun t' k' => XS.astore X108.here hx rfl (hb hby at_167) rfl rfl (l' := #[.val (.int len), .val (.int bits), .val (.int (0 : Int32)), .val (.int b0), .val (.int b1), .val (.int b2), .val (.int b3), .val (.ref b101), .val (.ref b_103), .val (.ref b_108), .unset, .unset]) rfl k') ?_
  show Go p e below _ (T108.setTop (mkF m 169 #[.val (.int len), .val (.int bits), .val (.int (0 : Int32)), .val (.int b0), .val (.int b1), .val (.int b2), .val (.int b3), .val (.ref b101), .val (.ref b_103), .val (.ref b_108), .unset, .unset] []))
  refine Go.st (fun t' k' => XS.aload X108.here hx rfl (hb hby at_169) rfl rfl k') ?_
  show Go p e below _ (T108.setTop (mkF m 171 #[.val (.int len), .val (.int bits), .val (.int (0 : Int32)), .val (.int b0), .val (.int b1), .val (.int b2), .val (.int b3), .val (.ref b101), .val (.ref b_103), .val (.ref b_108), .unset, .unset] [(.ref b_108)]))
  obtain ⟨cq110, kq110, q110a, q110b, q110c⟩ := isOf hZ103 rfl Eb_108
  obtain ⟨_, _, ⟨T110, L110, k110, n110⟩, -, X110, ⟨Lc110, hQ110, l110, y110, z110⟩, st110⟩ := X108.virtualBack hx (y := (⟨"java/util/Optional", "isPresent", "()Z"⟩ : MethodName)) (z := (⟨"java/util/Optional", "isPresent", "()Z"⟩ : MethodName)) hown103 (mvT hZ103 (hw _ (List.mem_of_getElem? (i := 53) rfl))) (mvT hZ103 (hw _ (List.mem_of_getElem? (i := 54) rfl))) (notFace_of_selects (args := #[]) (mvT hZ103 (hw _ (List.mem_of_getElem? (i := 56) rfl)))) (mvT hZ103 (hw _ (List.mem_of_getElem? (i := 56) rfl))) (mvT hZ103 (hw _ (List.mem_of_getElem? (i := 55) rfl))) (by decide) (backOf (W := 0) (rmIs1 l Z a0 hw [] b_108 u_108 T108.heap O108 Pv_108) hZ103 (hw _ (List.mem_of_getElem? (i := 57) rfl)) (hw _ (List.mem_of_getElem? (i := 50) rfl)) (by decide) (by decide)) q110a q110c (g := (mkF m 171 #[.val (.int len), .val (.int bits), .val (.int (0 : Int32)), .val (.int b0), .val (.int b1), .val (.int b2), .val (.int b3), .val (.ref b101), .val (.ref b_103), .val (.ref b_108), .unset, .unset] [(.ref b_108)])) rfl (by rw [hml]; rfl) (Steps.refl _) (argsL := []) (rest := []) (lenOf pd___Z rfl) rfl (by show 2 * 0 + _ ≤ _; exact Nat.le_of_eq rfl) (hb hby at_171) (fun _ _ => ⟨rfl, rfl, (by decide : 8 + 0 ≤ _), (by decide : 54 + 0 ≤ _)⟩)
  dsimp only [Pt.U, Pt.locs, Pt.cells, Pt.slots] at X110 l110 y110 z110 st110 hQ110
  subst y110 z110
  obtain ⟨rfl, rfl, e110⟩ := hQ110
  have N110 : Fr Z.heap.size L110 := by rw [l110]; exact Fr.app N108 (Fr.nil _)
  refine Go.tr st110 ?_
  show Go p e below _ (T110.setTop (mkF m 174 #[.val (.int len), .val (.int bits), .val (.int (0 : Int32)), .val (.int b0), .val (.int b1), .val (.int b2), .val (.int b3), .val (.ref b101), .val (.ref b_103), .val (.ref b_108), .unset, .unset] [(.int (1 : Int32))]))
  refine Go.st (fun t' k' => XS.ifYes X110.here hx rfl (pc0 := 174) (pc' := 179) rfl (hb hby at_174) rfl ((if0 _ _).trans (feq (by decide : ¬ ((1 : Int32) = (0 : Int32)))).2) (by decide) (by decide) k') ?_
  show Go p e below _ (T110.setTop (mkF m 179 #[.val (.int len), .val (.int bits), .val (.int (0 : Int32)), .val (.int b0), .val (.int b1), .val (.int b2), .val (.int b3), .val (.ref b101), .val (.ref b_103), .val (.ref b_108), .unset, .unset] []))
  refine Go.st (fun t' k' => XS.aload X110.here hx rfl (hb hby at_179) rfl rfl k') ?_
  show Go p e below _ (T110.setTop (mkF m 181 #[.val (.int len), .val (.int bits), .val (.int (0 : Int32)), .val (.int b0), .val (.int b1), .val (.int b2), .val (.int b3), .val (.ref b101), .val (.ref b_103), .val (.ref b_108), .unset, .unset] [(.ref b_108)]))
  obtain ⟨cq111, kq111, q111a, q111b, q111c⟩ := isOf hZ103 e110 Eb_108
  obtain ⟨_, _, ⟨T111, L111, k111, n111⟩, -, X111, ⟨Lc111, hQ111, l111, y111, z111⟩, st111⟩ := X110.virtualBack hx (y := (⟨"java/util/Optional", "get", "()Ljava/lang/Object;"⟩ : MethodName)) (z := (⟨"java/util/Optional", "get", "()Ljava/lang/Object;"⟩ : MethodName)) hown103 (mvT hZ103 (hw _ (List.mem_of_getElem? (i := 94) rfl))) (mvT hZ103 (hw _ (List.mem_of_getElem? (i := 95) rfl))) (notFace_of_selects (args := #[]) (mvT hZ103 (hw _ (List.mem_of_getElem? (i := 97) rfl)))) (mvT hZ103 (hw _ (List.mem_of_getElem? (i := 97) rfl))) (mvT hZ103 (hw _ (List.mem_of_getElem? (i := 96) rfl))) (by decide) (backOf (W := 0) (rmGet l Z a0 hw [] b_108 u_108 T108.heap O108 Pv_108) hZ103 (hw _ (List.mem_of_getElem? (i := 98) rfl)) (hw _ (List.mem_of_getElem? (i := 50) rfl)) (by decide) (by decide)) q111a q111c (g := (mkF m 181 #[.val (.int len), .val (.int bits), .val (.int (0 : Int32)), .val (.int b0), .val (.int b1), .val (.int b2), .val (.int b3), .val (.ref b101), .val (.ref b_103), .val (.ref b_108), .unset, .unset] [(.ref b_108)])) rfl (by rw [hml]; rfl) (Steps.refl _) (argsL := []) (rest := []) (lenOf pd___Ljava_lang_Object_ rfl) rfl (by show 2 * 0 + _ ≤ _; exact Nat.le_of_eq rfl) (hb hby at_181) (fun _ _ => ⟨rfl, e110, (by decide : 8 + 0 ≤ _), (by decide : 54 + 0 ≤ _)⟩)
  dsimp only [Pt.U, Pt.locs, Pt.cells, Pt.slots] at X111 l111 y111 z111 st111 hQ111
  subst y111 z111
  obtain ⟨rfl, rfl, e111⟩ := hQ111
  have N111 : Fr Z.heap.size L111 := by rw [l111]; exact Fr.app N110 (Fr.nil _)
  refine Go.tr st111 ?_
  show Go p e below _ (T111.setTop (mkF m 184 #[.val (.int len), .val (.int bits), .val (.int (0 : Int32)), .val (.int b0), .val (.int b1), .val (.int b2), .val (.int b3), .val (.ref b101), .val (.ref b_103), .val (.ref b_108), .unset, .unset] [(.ref u_108)]))
  obtain ⟨T112, X112, e112, st112⟩ := castY X111 hx hZ103 hown103 (hw _ (List.mem_of_getElem? (i := 99) rfl)) e111 (Ins.self Eu_108) (g := (mkF m 184 #[.val (.int len), .val (.int bits), .val (.int (0 : Int32)), .val (.int b0), .val (.int b1), .val (.int b2), .val (.int b3), .val (.ref b101), .val (.ref b_103), .val (.ref b_108), .unset, .unset] [(.ref u_108)])) rfl rfl (hb hby at_184)
  refine Go.st st112 ?_
  show Go p e below _ (T112.setTop (mkF m 187 #[.val (.int len), .val (.int bits), .val (.int (0 : Int32)), .val (.int b0), .val (.int b1), .val (.int b2), .val (.int b3), .val (.ref b101), .val (.ref b_103), .val (.ref b_108), .unset, .unset] [(.ref u_108)]))
  refine Go.st (fun t' k' => XS.astore X112.here hx rfl (hb hby at_187) rfl rfl (l' := #[.val (.int len), .val (.int bits), .val (.int (0 : Int32)), .val (.int b0), .val (.int b1), .val (.int b2), .val (.int b3), .val (.ref b101), .val (.ref b_103), .val (.ref b_108), .val (.ref u_108), .unset]) rfl k') ?_
  show Go p e below _ (T112.setTop (mkF m 189 #[.val (.int len), .val (.int bits), .val (.int (0 : Int32)), .val (.int b0), .val (.int b1), .val (.int b2), .val (.int b3), .val (.ref b101), .val (.ref b_103), .val (.ref b_108), .val (.ref u_108), .unset] []))
  refine Go.st (fun t' k' => XS.aload X112.here hx rfl (hb hby at_189) rfl rfl k') ?_
  show Go p e below _ (T112.setTop (mkF m 191 #[.val (.int len), .val (.int bits), .val (.int (0 : Int32)), .val (.int b0), .val (.int b1), .val (.int b2), .val (.int b3), .val (.ref b101), .val (.ref b_103), .val (.ref b_108), .val (.ref u_108), .unset] [(.ref u_108)]))
  refine Go.st (fun t' k' => XS.aload X112.here hx rfl (hb hby at_191) rfl rfl k') ?_
  show Go p e below _ (T112.setTop (mkF m 193 #[.val (.int len), .val (.int bits), .val (.int (0 : Int32)), .val (.int b0), .val (.int b1), .val (.int b2), .val (.int b3), .val (.ref b101), .val (.ref b_103), .val (.ref b_108), .val (.ref u_108), .unset] [(.ref b101), (.ref u_108)]))
  refine Go.st (fun t' k' => Jvm.RoadKit.acmp (g := (mkF m 193 #[.val (.int len), .val (.int bits), .val (.int (0 : Int32)), .val (.int b0), .val (.int b1), .val (.int b2), .val (.int b3), .val (.ref b101), .val (.ref b_103), .val (.ref b_108), .val (.ref u_108), .unset] [(.ref b101), (.ref u_108)])) X112 hx rfl rfl rfl (pc0 := 193) (pc' := 198) (same := false) rfl (hb hby at_193) rfl (decide_eq_false fun q => (Ne.symm ne_b101_u_108) (Value.ref.inj q)) (by decide) (by decide) k') ?_
  show Go p e below _ (T112.setTop (mkF m 198 #[.val (.int len), .val (.int bits), .val (.int (0 : Int32)), .val (.int b0), .val (.int b1), .val (.int b2), .val (.int b3), .val (.ref b101), .val (.ref b_103), .val (.ref b_108), .val (.ref u_108), .unset] []))
  refine Go.st (fun t' k' => XS.aload X112.here hx rfl (hb hby at_198) rfl rfl k') ?_
  show Go p e below _ (T112.setTop (mkF m 200 #[.val (.int len), .val (.int bits), .val (.int (0 : Int32)), .val (.int b0), .val (.int b1), .val (.int b2), .val (.int b3), .val (.ref b101), .val (.ref b_103), .val (.ref b_108), .val (.ref u_108), .unset] [(.ref u_108)]))
  refine Go.st (fun t' k' => XS.iloadN X112.here hx rfl (hb hby at_200) rfl k') ?_
  show Go p e below _ (T112.setTop (mkF m 201 #[.val (.int len), .val (.int bits), .val (.int (0 : Int32)), .val (.int b0), .val (.int b1), .val (.int b2), .val (.int b3), .val (.ref b101), .val (.ref b_103), .val (.ref b_108), .val (.ref u_108), .unset] [(.int (0 : Int32)), (.ref u_108)]))
  refine Go.st (fun t' k' => XS.iloadN X112.here hx rfl (hb hby at_201) rfl k') ?_
  show Go p e below _ (T112.setTop (mkF m 202 #[.val (.int len), .val (.int bits), .val (.int (0 : Int32)), .val (.int b0), .val (.int b1), .val (.int b2), .val (.int b3), .val (.ref b101), .val (.ref b_103), .val (.ref b_108), .val (.ref u_108), .unset] [(.int b0), (.int (0 : Int32)), (.ref u_108)]))
  refine Go.st (fun t' k' => XS.iload X112.here hx rfl (hb hby at_202) rfl k') ?_
  show Go p e below _ (T112.setTop (mkF m 204 #[.val (.int len), .val (.int bits), .val (.int (0 : Int32)), .val (.int b0), .val (.int b1), .val (.int b2), .val (.int b3), .val (.ref b101), .val (.ref b_103), .val (.ref b_108), .val (.ref u_108), .unset] [(.int b1), (.int b0), (.int (0 : Int32)), (.ref u_108)]))
  refine Go.st (fun t' k' => XS.iload X112.here hx rfl (hb hby at_204) rfl k') ?_
  show Go p e below _ (T112.setTop (mkF m 206 #[.val (.int len), .val (.int bits), .val (.int (0 : Int32)), .val (.int b0), .val (.int b1), .val (.int b2), .val (.int b3), .val (.ref b101), .val (.ref b_103), .val (.ref b_108), .val (.ref u_108), .unset] [(.int b2), (.int b1), (.int b0), (.int (0 : Int32)), (.ref u_108)]))
  refine Go.st (fun t' k' => XS.iload X112.here hx rfl (hb hby at_206) rfl k') ?_
  show Go p e below _ (T112.setTop (mkF m 208 #[.val (.int len), .val (.int bits), .val (.int (0 : Int32)), .val (.int b0), .val (.int b1), .val (.int b2), .val (.int b3), .val (.ref b101), .val (.ref b_103), .val (.ref b_108), .val (.ref u_108), .unset] [(.int b3), (.int b2), (.int b1), (.int b0), (.int (0 : Int32)), (.ref u_108)]))
  obtain ⟨_, _, ⟨T113, L113, k113, n113⟩, -, X113, ⟨Lc113, hQ113, l113, y113, z113⟩, st113⟩ := Jvm.LawKit.callS X112 hx (y := (⟨"com/example/claim/claim/model/VerificationResultAcceptedPinLaw", "same", "([BIBBBB)Z"⟩ : MethodName)) hown103 (mvT hZ103 (hw _ (List.mem_of_getElem? (i := 100) rfl))) (mvT hZ103 (hw _ (List.mem_of_getElem? (i := 101) rfl))) (mvT hZ103 (hw _ (List.mem_of_getElem? (i := 102) rfl))) (mvT hZ103 (hw _ (List.mem_of_getElem? (i := 103) rfl))) (by decide) (backOf (W := 0) (rmSm0 l Z a0 hw [] u_108 b0 b1 b2 b3 k101 T108.heap O108 Au_108) hZ103 (hw _ (List.mem_of_getElem? (i := 103) rfl)) (hw _ (List.mem_of_getElem? (i := 102) rfl)) (by decide) (by decide)) (g := (mkF m 208 #[.val (.int len), .val (.int bits), .val (.int (0 : Int32)), .val (.int b0), .val (.int b1), .val (.int b2), .val (.int b3), .val (.ref b101), .val (.ref b_103), .val (.ref b_108), .val (.ref u_108), .unset] [(.int b3), (.int b2), (.int b1), (.int b0), (.int (0 : Int32)), (.ref u_108)])) rfl (by rw [hml]; rfl) (argsL := [(.ref u_108), (.int (0 : Int32)), (.int b0), (.int b1), (.int b2), (.int b3)]) (rest := []) (lenOf pd___BIBBBB_Z rfl) rfl (by show 2 * 0 + _ ≤ _; exact Nat.le_of_eq rfl) (hb hby at_208) (fun _ _ => ⟨rfl, e112, (by decide : 8 + 0 ≤ _), (by decide : 54 + 0 ≤ _)⟩)
  dsimp only [Pt.U, Pt.locs, Pt.cells, Pt.slots] at X113 l113 y113 z113 st113 hQ113
  subst y113 z113
  obtain ⟨rfl, rfl, e113⟩ := hQ113
  have N113 : Fr Z.heap.size L113 := by rw [l113]; exact Fr.app N111 (Fr.nil _)
  refine Go.st st113 ?_
  show Go p e below _ (T113.setTop (mkF m 211 #[.val (.int len), .val (.int bits), .val (.int (0 : Int32)), .val (.int b0), .val (.int b1), .val (.int b2), .val (.int b3), .val (.ref b101), .val (.ref b_103), .val (.ref b_108), .val (.ref u_108), .unset] [(.int (1 : Int32))]))
  refine Go.st (fun t' k' => XS.ifYes X113.here hx rfl (pc0 := 211) (pc' := 216) rfl (hb hby at_211) rfl ((if0 _ _).trans (feq (by decide : ¬ ((1 : Int32) = (0 : Int32)))).2) (by decide) (by decide) k') ?_
  show Go p e below _ (T113.setTop (mkF m 216 #[.val (.int len), .val (.int bits), .val (.int (0 : Int32)), .val (.int b0), .val (.int b1), .val (.int b2), .val (.int b3), .val (.ref b101), .val (.ref b_103), .val (.ref b_108), .val (.ref u_108), .unset] []))
  refine Go.st (fun t' k' => XS.iloadN X113.here hx rfl (hb hby at_216) rfl k') ?_
  show Go p e below _ (T113.setTop (mkF m 217 #[.val (.int len), .val (.int bits), .val (.int (0 : Int32)), .val (.int b0), .val (.int b1), .val (.int b2), .val (.int b3), .val (.ref b101), .val (.ref b_103), .val (.ref b_108), .val (.ref u_108), .unset] [(.int (0 : Int32))]))
  refine Go.st (fun t' k' => XS.ifYes X113.here hx rfl (pc0 := 217) (pc' := 228) rfl (hb hby at_217) rfl ((if0 _ _).trans (flt (by decide : ¬ ((0 : Int32) < (0 : Int32)))).2.2.2) (by decide) (by decide) k') ?_
  show Go p e below _ (T113.setTop (mkF m 228 #[.val (.int len), .val (.int bits), .val (.int (0 : Int32)), .val (.int b0), .val (.int b1), .val (.int b2), .val (.int b3), .val (.ref b101), .val (.ref b_103), .val (.ref b_108), .val (.ref u_108), .unset] []))
  refine Go.st (fun t' k' => XS.iloadN X113.here hx rfl (hb hby at_228) rfl k') ?_
  show Go p e below _ (T113.setTop (mkF m 229 #[.val (.int len), .val (.int bits), .val (.int (0 : Int32)), .val (.int b0), .val (.int b1), .val (.int b2), .val (.int b3), .val (.ref b101), .val (.ref b_103), .val (.ref b_108), .val (.ref u_108), .unset] [(.int (0 : Int32))]))
  refine Go.st (fun t' k' => XS.iconst X113.here hx rfl (hb hby at_229) k') ?_
  show Go p e below _ (T113.setTop (mkF m 230 #[.val (.int len), .val (.int bits), .val (.int (0 : Int32)), .val (.int b0), .val (.int b1), .val (.int b2), .val (.int b3), .val (.ref b101), .val (.ref b_103), .val (.ref b_108), .val (.ref u_108), .unset] [(.int (1 : Int32)), (.int (0 : Int32))]))
  refine Go.st (fun t' k' => XS.icmpYes X113.here hx rfl (pc0 := 230) (pc' := 242) rfl (hb hby at_230) rfl (flt (by decide : ¬ ((1 : Int32) < (0 : Int32)))).2.2.2 (by decide) (by decide) k') ?_
  show Go p e below _ (T113.setTop (mkF m 242 #[.val (.int len), .val (.int bits), .val (.int (0 : Int32)), .val (.int b0), .val (.int b1), .val (.int b2), .val (.int b3), .val (.ref b101), .val (.ref b_103), .val (.ref b_108), .val (.ref u_108), .unset] []))
  refine Go.st (fun t' k' => XS.iloadN X113.here hx rfl (hb hby at_242) rfl k') ?_
  show Go p e below _ (T113.setTop (mkF m 243 #[.val (.int len), .val (.int bits), .val (.int (0 : Int32)), .val (.int b0), .val (.int b1), .val (.int b2), .val (.int b3), .val (.ref b101), .val (.ref b_103), .val (.ref b_108), .val (.ref u_108), .unset] [(.int (0 : Int32))]))
  refine Go.st (fun t' k' => XS.iconst X113.here hx rfl (hb hby at_243) k') ?_
  show Go p e below _ (T113.setTop (mkF m 244 #[.val (.int len), .val (.int bits), .val (.int (0 : Int32)), .val (.int b0), .val (.int b1), .val (.int b2), .val (.int b3), .val (.ref b101), .val (.ref b_103), .val (.ref b_108), .val (.ref u_108), .unset] [(.int (2 : Int32)), (.int (0 : Int32))]))
  refine Go.st (fun t' k' => XS.icmpYes X113.here hx rfl (pc0 := 244) (pc' := 256) rfl (hb hby at_244) rfl (flt (by decide : ¬ ((2 : Int32) < (0 : Int32)))).2.2.2 (by decide) (by decide) k') ?_
  show Go p e below _ (T113.setTop (mkF m 256 #[.val (.int len), .val (.int bits), .val (.int (0 : Int32)), .val (.int b0), .val (.int b1), .val (.int b2), .val (.int b3), .val (.ref b101), .val (.ref b_103), .val (.ref b_108), .val (.ref u_108), .unset] []))
  refine Go.st (fun t' k' => XS.iloadN X113.here hx rfl (hb hby at_256) rfl k') ?_
  show Go p e below _ (T113.setTop (mkF m 257 #[.val (.int len), .val (.int bits), .val (.int (0 : Int32)), .val (.int b0), .val (.int b1), .val (.int b2), .val (.int b3), .val (.ref b101), .val (.ref b_103), .val (.ref b_108), .val (.ref u_108), .unset] [(.int (0 : Int32))]))
  refine Go.st (fun t' k' => XS.iconst X113.here hx rfl (hb hby at_257) k') ?_
  show Go p e below _ (T113.setTop (mkF m 258 #[.val (.int len), .val (.int bits), .val (.int (0 : Int32)), .val (.int b0), .val (.int b1), .val (.int b2), .val (.int b3), .val (.ref b101), .val (.ref b_103), .val (.ref b_108), .val (.ref u_108), .unset] [(.int (3 : Int32)), (.int (0 : Int32))]))
  refine Go.st (fun t' k' => XS.icmpYes X113.here hx rfl (pc0 := 258) (pc' := 270) rfl (hb hby at_258) rfl (flt (by decide : ¬ ((3 : Int32) < (0 : Int32)))).2.2.2 (by decide) (by decide) k') ?_
  show Go p e below _ (T113.setTop (mkF m 270 #[.val (.int len), .val (.int bits), .val (.int (0 : Int32)), .val (.int b0), .val (.int b1), .val (.int b2), .val (.int b3), .val (.ref b101), .val (.ref b_103), .val (.ref b_108), .val (.ref u_108), .unset] []))
  refine Go.st (fun t' k' => XS.aload X113.here hx rfl (hb hby at_270) rfl rfl k') ?_
  show Go p e below _ (T113.setTop (mkF m 272 #[.val (.int len), .val (.int bits), .val (.int (0 : Int32)), .val (.int b0), .val (.int b1), .val (.int b2), .val (.int b3), .val (.ref b101), .val (.ref b_103), .val (.ref b_108), .val (.ref u_108), .unset] [(.ref b_103)]))
  obtain ⟨cq114, kq114, q114a, q114b, q114c⟩ := isOf hZ103 e113 Eb_103_h109
  obtain ⟨_, _, ⟨T114, L114, k114, n114⟩, -, X114, ⟨Lc114, hQ114, l114, y114, z114⟩, st114⟩ := X113.virtualBack hx (y := (⟨"com/example/claim/claim/model/VerificationResult", "payload", "()Ljava/util/Optional;"⟩ : MethodName)) (z := (⟨"com/example/claim/claim/model/VerificationResult", "payload", "()Ljava/util/Optional;"⟩ : MethodName)) hown103 (mvT hZ103 (hw _ (List.mem_of_getElem? (i := 60) rfl))) (mvT hZ103 (hw _ (List.mem_of_getElem? (i := 61) rfl))) (notFace_of_selects (args := #[]) (mvT hZ103 (hw _ (List.mem_of_getElem? (i := 63) rfl)))) (mvT hZ103 (hw _ (List.mem_of_getElem? (i := 63) rfl))) (mvT hZ103 (hw _ (List.mem_of_getElem? (i := 62) rfl))) (by decide) (backOf (W := 0) (rmPl l Z a0 hw [] b_103 q_103 k101 ((0 : Int32)) [] T108.heap O108 Pp_103_h109 Eq__103_h109 Aq_103_h109 (by decide)) hZ103 (hw _ (List.mem_of_getElem? (i := 64) rfl)) (hw _ (List.mem_of_getElem? (i := 4) rfl)) (by decide) (by decide)) q114a q114c (g := (mkF m 272 #[.val (.int len), .val (.int bits), .val (.int (0 : Int32)), .val (.int b0), .val (.int b1), .val (.int b2), .val (.int b3), .val (.ref b101), .val (.ref b_103), .val (.ref b_108), .val (.ref u_108), .unset] [(.ref b_103)])) rfl (by rw [hml]; rfl) (Steps.refl _) (argsL := []) (rest := []) (lenOf pd___Ljava_util_Optional_ rfl) rfl (by show 2 * 0 + _ ≤ _; exact Nat.le_of_eq rfl) (hb hby at_272) (fun _ _ => ⟨rfl, e113, (by decide : 8 + 3 ≤ _), (by decide : 54 + 6 ≤ _)⟩)
  dsimp only [Pt.U, Pt.locs, Pt.cells, Pt.slots] at X114 l114 y114 z114 st114 hQ114
  subst y114 z114
  obtain ⟨b_114, u_114, rfl, N114q, O114, Kc114, Eb_114, Pv_114, Eu_114, Au_114, Gb_114, Gu_114, Sb_114, Su_114, Nbu_114⟩ := hQ114
  have N114 : Fr Z.heap.size L114 := by rw [l114]; exact Fr.app N113 N114q
  refine Go.tr st114 ?_
  have hk114 := Nat.le_trans hk108 Kc114.1
  have Q101_h115 := Q101_h109.keep Kc114
  have V_b101_h115 := V_b101_h109.keep Kc114 nin0
  have Eb_103_h115 := Eb_103_h109.keep Kc114
  have Pp_103_h115 := Pp_103_h109.keep Kc114 nin0
  have Pq_103_h115 := Pq_103_h109.keep Kc114 nin0
  have Eq__103_h115 := Eq__103_h109.keep Kc114
  have Aq_103_h115 := Aq_103_h109.keep Kc114 nin0
  have Eb_108_h115 := Eb_108.keep Kc114
  have Pv_108_h115 := Pv_108.keep Kc114 nin0
  have Eu_108_h115 := Eu_108.keep Kc114
  have Au_108_h115 := Au_108.keep Kc114 nin0
  have ne_w_EMPTY_b_114 : w_EMPTY ≠ b_114 := Nat.ne_of_lt (Nat.lt_of_lt_of_le (E_EMPTY.ext O108).lt Sb_114)
  have ne_b101_b_114 : b101 ≠ b_114 := Nat.ne_of_lt (Nat.lt_of_lt_of_le Q101_h109.lt Sb_114)
  have ne_b_103_b_114 : b_103 ≠ b_114 := Nat.ne_of_lt (Nat.lt_of_lt_of_le Eb_103_h109.lt Sb_114)
  have ne_q_103_b_114 : q_103 ≠ b_114 := Nat.ne_of_lt (Nat.lt_of_lt_of_le Eq__103_h109.lt Sb_114)
  have ne_b_108_b_114 : b_108 ≠ b_114 := Nat.ne_of_lt (Nat.lt_of_lt_of_le Eb_108.lt Sb_114)
  have ne_u_108_b_114 : u_108 ≠ b_114 := Nat.ne_of_lt (Nat.lt_of_lt_of_le Eu_108.lt Sb_114)
  have ne_w_EMPTY_u_114 : w_EMPTY ≠ u_114 := Nat.ne_of_lt (Nat.lt_of_lt_of_le (E_EMPTY.ext O108).lt Su_114)
  have ne_b101_u_114 : b101 ≠ u_114 := Nat.ne_of_lt (Nat.lt_of_lt_of_le Q101_h109.lt Su_114)
  have ne_b_103_u_114 : b_103 ≠ u_114 := Nat.ne_of_lt (Nat.lt_of_lt_of_le Eb_103_h109.lt Su_114)
  have ne_q_103_u_114 : q_103 ≠ u_114 := Nat.ne_of_lt (Nat.lt_of_lt_of_le Eq__103_h109.lt Su_114)
  have ne_b_108_u_114 : b_108 ≠ u_114 := Nat.ne_of_lt (Nat.lt_of_lt_of_le Eb_108.lt Su_114)
  have ne_u_108_u_114 : u_108 ≠ u_114 := Nat.ne_of_lt (Nat.lt_of_lt_of_le Eu_108.lt Su_114)
  show Go p e below _ (T114.setTop (mkF m 275 #[.val (.int len), .val (.int bits), .val (.int (0 : Int32)), .val (.int b0), .val (.int b1), .val (.int b2), .val (.int b3), .val (.ref b101), .val (.ref b_103), .val (.ref b_108), .val (.ref u_108), .unset] [(.ref b_114)]))
  refine Go.st (fun t' k' => XS.astore X114.here hx rfl (hb hby at_275) rfl rfl (l' := #[.val (.int len), .val (.int bits), .val (.int (0 : Int32)), .val (.int b0), .val (.int b1), .val (.int b2), .val (.int b3), .val (.ref b101), .val (.ref b_103), .val (.ref b_108), .val (.ref u_108), .val (.ref b_114)]) rfl k') ?_
  show Go p e below _ (T114.setTop (mkF m 277 #[.val (.int len), .val (.int bits), .val (.int (0 : Int32)), .val (.int b0), .val (.int b1), .val (.int b2), .val (.int b3), .val (.ref b101), .val (.ref b_103), .val (.ref b_108), .val (.ref u_108), .val (.ref b_114)] []))
  refine Go.st (fun t' k' => XS.aload X114.here hx rfl (hb hby at_277) rfl rfl k') ?_
  show Go p e below _ (T114.setTop (mkF m 279 #[.val (.int len), .val (.int bits), .val (.int (0 : Int32)), .val (.int b0), .val (.int b1), .val (.int b2), .val (.int b3), .val (.ref b101), .val (.ref b_103), .val (.ref b_108), .val (.ref u_108), .val (.ref b_114)] [(.ref b_114)]))
  obtain ⟨cq116, kq116, q116a, q116b, q116c⟩ := isOf hZ103 rfl Eb_114
  obtain ⟨_, _, ⟨T116, L116, k116, n116⟩, -, X116, ⟨Lc116, hQ116, l116, y116, z116⟩, st116⟩ := X114.virtualBack hx (y := (⟨"java/util/Optional", "isPresent", "()Z"⟩ : MethodName)) (z := (⟨"java/util/Optional", "isPresent", "()Z"⟩ : MethodName)) hown103 (mvT hZ103 (hw _ (List.mem_of_getElem? (i := 53) rfl))) (mvT hZ103 (hw _ (List.mem_of_getElem? (i := 54) rfl))) (notFace_of_selects (args := #[]) (mvT hZ103 (hw _ (List.mem_of_getElem? (i := 56) rfl)))) (mvT hZ103 (hw _ (List.mem_of_getElem? (i := 56) rfl))) (mvT hZ103 (hw _ (List.mem_of_getElem? (i := 55) rfl))) (by decide) (backOf (W := 0) (rmIs1 l Z a0 hw [] b_114 u_114 T114.heap O114 Pv_114) hZ103 (hw _ (List.mem_of_getElem? (i := 57) rfl)) (hw _ (List.mem_of_getElem? (i := 50) rfl)) (by decide) (by decide)) q116a q116c (g := (mkF m 279 #[.val (.int len), .val (.int bits), .val (.int (0 : Int32)), .val (.int b0), .val (.int b1), .val (.int b2), .val (.int b3), .val (.ref b101), .val (.ref b_103), .val (.ref b_108), .val (.ref u_108), .val (.ref b_114)] [(.ref b_114)])) rfl (by rw [hml]; rfl) (Steps.refl _) (argsL := []) (rest := []) (lenOf pd___Z rfl) rfl (by show 2 * 0 + _ ≤ _; exact Nat.le_of_eq rfl) (hb hby at_279) (fun _ _ => ⟨rfl, rfl, (by decide : 11 + 0 ≤ _), (by decide : 60 + 0 ≤ _)⟩)
  dsimp only [Pt.U, Pt.locs, Pt.cells, Pt.slots] at X116 l116 y116 z116 st116 hQ116
  subst y116 z116
  obtain ⟨rfl, rfl, e116⟩ := hQ116
  have N116 : Fr Z.heap.size L116 := by rw [l116]; exact Fr.app N114 (Fr.nil _)
  refine Go.tr st116 ?_
  show Go p e below _ (T116.setTop (mkF m 282 #[.val (.int len), .val (.int bits), .val (.int (0 : Int32)), .val (.int b0), .val (.int b1), .val (.int b2), .val (.int b3), .val (.ref b101), .val (.ref b_103), .val (.ref b_108), .val (.ref u_108), .val (.ref b_114)] [(.int (1 : Int32))]))
  refine Go.st (fun t' k' => XS.ifYes X116.here hx rfl (pc0 := 282) (pc' := 287) rfl (hb hby at_282) rfl ((if0 _ _).trans (feq (by decide : ¬ ((1 : Int32) = (0 : Int32)))).2) (by decide) (by decide) k') ?_
  show Go p e below _ (T116.setTop (mkF m 287 #[.val (.int len), .val (.int bits), .val (.int (0 : Int32)), .val (.int b0), .val (.int b1), .val (.int b2), .val (.int b3), .val (.ref b101), .val (.ref b_103), .val (.ref b_108), .val (.ref u_108), .val (.ref b_114)] []))
  refine Go.st (fun t' k' => XS.aload X116.here hx rfl (hb hby at_287) rfl rfl k') ?_
  show Go p e below _ (T116.setTop (mkF m 289 #[.val (.int len), .val (.int bits), .val (.int (0 : Int32)), .val (.int b0), .val (.int b1), .val (.int b2), .val (.int b3), .val (.ref b101), .val (.ref b_103), .val (.ref b_108), .val (.ref u_108), .val (.ref b_114)] [(.ref b_114)]))
  obtain ⟨cq117, kq117, q117a, q117b, q117c⟩ := isOf hZ103 e116 Eb_114
  obtain ⟨_, _, ⟨T117, L117, k117, n117⟩, -, X117, ⟨Lc117, hQ117, l117, y117, z117⟩, st117⟩ := X116.virtualBack hx (y := (⟨"java/util/Optional", "get", "()Ljava/lang/Object;"⟩ : MethodName)) (z := (⟨"java/util/Optional", "get", "()Ljava/lang/Object;"⟩ : MethodName)) hown103 (mvT hZ103 (hw _ (List.mem_of_getElem? (i := 94) rfl))) (mvT hZ103 (hw _ (List.mem_of_getElem? (i := 95) rfl))) (notFace_of_selects (args := #[]) (mvT hZ103 (hw _ (List.mem_of_getElem? (i := 97) rfl)))) (mvT hZ103 (hw _ (List.mem_of_getElem? (i := 97) rfl))) (mvT hZ103 (hw _ (List.mem_of_getElem? (i := 96) rfl))) (by decide) (backOf (W := 0) (rmGet l Z a0 hw [] b_114 u_114 T114.heap O114 Pv_114) hZ103 (hw _ (List.mem_of_getElem? (i := 98) rfl)) (hw _ (List.mem_of_getElem? (i := 50) rfl)) (by decide) (by decide)) q117a q117c (g := (mkF m 289 #[.val (.int len), .val (.int bits), .val (.int (0 : Int32)), .val (.int b0), .val (.int b1), .val (.int b2), .val (.int b3), .val (.ref b101), .val (.ref b_103), .val (.ref b_108), .val (.ref u_108), .val (.ref b_114)] [(.ref b_114)])) rfl (by rw [hml]; rfl) (Steps.refl _) (argsL := []) (rest := []) (lenOf pd___Ljava_lang_Object_ rfl) rfl (by show 2 * 0 + _ ≤ _; exact Nat.le_of_eq rfl) (hb hby at_289) (fun _ _ => ⟨rfl, e116, (by decide : 11 + 0 ≤ _), (by decide : 60 + 0 ≤ _)⟩)
  dsimp only [Pt.U, Pt.locs, Pt.cells, Pt.slots] at X117 l117 y117 z117 st117 hQ117
  subst y117 z117
  obtain ⟨rfl, rfl, e117⟩ := hQ117
  have N117 : Fr Z.heap.size L117 := by rw [l117]; exact Fr.app N116 (Fr.nil _)
  refine Go.tr st117 ?_
  show Go p e below _ (T117.setTop (mkF m 292 #[.val (.int len), .val (.int bits), .val (.int (0 : Int32)), .val (.int b0), .val (.int b1), .val (.int b2), .val (.int b3), .val (.ref b101), .val (.ref b_103), .val (.ref b_108), .val (.ref u_108), .val (.ref b_114)] [(.ref u_114)]))
  obtain ⟨T118, X118, e118, st118⟩ := castY X117 hx hZ103 hown103 (hw _ (List.mem_of_getElem? (i := 99) rfl)) e117 (Ins.self Eu_114) (g := (mkF m 292 #[.val (.int len), .val (.int bits), .val (.int (0 : Int32)), .val (.int b0), .val (.int b1), .val (.int b2), .val (.int b3), .val (.ref b101), .val (.ref b_103), .val (.ref b_108), .val (.ref u_108), .val (.ref b_114)] [(.ref u_114)])) rfl rfl (hb hby at_292)
  refine Go.st st118 ?_
  show Go p e below _ (T118.setTop (mkF m 295 #[.val (.int len), .val (.int bits), .val (.int (0 : Int32)), .val (.int b0), .val (.int b1), .val (.int b2), .val (.int b3), .val (.ref b101), .val (.ref b_103), .val (.ref b_108), .val (.ref u_108), .val (.ref b_114)] [(.ref u_114)]))
  refine Go.st (fun t' k' => XS.iloadN X118.here hx rfl (hb hby at_295) rfl k') ?_
  show Go p e below _ (T118.setTop (mkF m 296 #[.val (.int len), .val (.int bits), .val (.int (0 : Int32)), .val (.int b0), .val (.int b1), .val (.int b2), .val (.int b3), .val (.ref b101), .val (.ref b_103), .val (.ref b_108), .val (.ref u_108), .val (.ref b_114)] [(.int (0 : Int32)), (.ref u_114)]))
  refine Go.st (fun t' k' => XS.iloadN X118.here hx rfl (hb hby at_296) rfl k') ?_
  show Go p e below _ (T118.setTop (mkF m 297 #[.val (.int len), .val (.int bits), .val (.int (0 : Int32)), .val (.int b0), .val (.int b1), .val (.int b2), .val (.int b3), .val (.ref b101), .val (.ref b_103), .val (.ref b_108), .val (.ref u_108), .val (.ref b_114)] [(.int b0), (.int (0 : Int32)), (.ref u_114)]))
  refine Go.st (fun t' k' => XS.iload X118.here hx rfl (hb hby at_297) rfl k') ?_
  show Go p e below _ (T118.setTop (mkF m 299 #[.val (.int len), .val (.int bits), .val (.int (0 : Int32)), .val (.int b0), .val (.int b1), .val (.int b2), .val (.int b3), .val (.ref b101), .val (.ref b_103), .val (.ref b_108), .val (.ref u_108), .val (.ref b_114)] [(.int b1), (.int b0), (.int (0 : Int32)), (.ref u_114)]))
  refine Go.st (fun t' k' => XS.iload X118.here hx rfl (hb hby at_299) rfl k') ?_
  show Go p e below _ (T118.setTop (mkF m 301 #[.val (.int len), .val (.int bits), .val (.int (0 : Int32)), .val (.int b0), .val (.int b1), .val (.int b2), .val (.int b3), .val (.ref b101), .val (.ref b_103), .val (.ref b_108), .val (.ref u_108), .val (.ref b_114)] [(.int b2), (.int b1), (.int b0), (.int (0 : Int32)), (.ref u_114)]))
  refine Go.st (fun t' k' => XS.iload X118.here hx rfl (hb hby at_301) rfl k') ?_
  show Go p e below _ (T118.setTop (mkF m 303 #[.val (.int len), .val (.int bits), .val (.int (0 : Int32)), .val (.int b0), .val (.int b1), .val (.int b2), .val (.int b3), .val (.ref b101), .val (.ref b_103), .val (.ref b_108), .val (.ref u_108), .val (.ref b_114)] [(.int b3), (.int b2), (.int b1), (.int b0), (.int (0 : Int32)), (.ref u_114)]))
  obtain ⟨_, _, ⟨T119, L119, k119, n119⟩, -, X119, ⟨Lc119, hQ119, l119, y119, z119⟩, st119⟩ := Jvm.LawKit.callS X118 hx (y := (⟨"com/example/claim/claim/model/VerificationResultAcceptedPinLaw", "same", "([BIBBBB)Z"⟩ : MethodName)) hown103 (mvT hZ103 (hw _ (List.mem_of_getElem? (i := 100) rfl))) (mvT hZ103 (hw _ (List.mem_of_getElem? (i := 101) rfl))) (mvT hZ103 (hw _ (List.mem_of_getElem? (i := 102) rfl))) (mvT hZ103 (hw _ (List.mem_of_getElem? (i := 103) rfl))) (by decide) (backOf (W := 0) (rmSm0 l Z a0 hw [] u_114 b0 b1 b2 b3 k101 T114.heap O114 Au_114) hZ103 (hw _ (List.mem_of_getElem? (i := 103) rfl)) (hw _ (List.mem_of_getElem? (i := 102) rfl)) (by decide) (by decide)) (g := (mkF m 303 #[.val (.int len), .val (.int bits), .val (.int (0 : Int32)), .val (.int b0), .val (.int b1), .val (.int b2), .val (.int b3), .val (.ref b101), .val (.ref b_103), .val (.ref b_108), .val (.ref u_108), .val (.ref b_114)] [(.int b3), (.int b2), (.int b1), (.int b0), (.int (0 : Int32)), (.ref u_114)])) rfl (by rw [hml]; rfl) (argsL := [(.ref u_114), (.int (0 : Int32)), (.int b0), (.int b1), (.int b2), (.int b3)]) (rest := []) (lenOf pd___BIBBBB_Z rfl) rfl (by show 2 * 0 + _ ≤ _; exact Nat.le_of_eq rfl) (hb hby at_303) (fun _ _ => ⟨rfl, e118, (by decide : 11 + 0 ≤ _), (by decide : 60 + 0 ≤ _)⟩)
  dsimp only [Pt.U, Pt.locs, Pt.cells, Pt.slots] at X119 l119 y119 z119 st119 hQ119
  subst y119 z119
  obtain ⟨rfl, rfl, e119⟩ := hQ119
  have N119 : Fr Z.heap.size L119 := by rw [l119]; exact Fr.app N117 (Fr.nil _)
  refine Go.st st119 ?_
  show Go p e below _ (T119.setTop (mkF m 306 #[.val (.int len), .val (.int bits), .val (.int (0 : Int32)), .val (.int b0), .val (.int b1), .val (.int b2), .val (.int b3), .val (.ref b101), .val (.ref b_103), .val (.ref b_108), .val (.ref u_108), .val (.ref b_114)] [(.int (1 : Int32))]))
  exact Go.outW X119 hS103 (by rw [e119]; exact hk114) (v := (some (.int (1 : Int32)))) (fun h => by rw [hret] at h; cases h) hlk (fun fs hr => retN X119 hx (t := .boolean) hret (by simp) (hb hby at_306) hr) (Q := Q_rm0 Z len bits w_EMPTY h0) (by rw [e119]; exact ⟨rfl, N119⟩) (by decide) (by decide)
set_option maxRecDepth 65536 in
set_option maxHeartbeats 40000000 in
theorem blk1 {p : Program} {l : Launch} {e : Env} {s : State} {m : MethodId} {below : List Frame} {meth : Method} {c : Code} {T0 : State} {locs : List Loc} {vm0 : Vm} {k0 : Nat} (Z : State) (a0 : Array Value) (hw : ∀ d ∈ tables_1, d.before a0 Z = true) (len : Int32) (bits : Int32) (w_EMPTY : Addr) (h0 : Heap) (S_EMPTY : Sta Z Z.heap "java/util/Optional" "EMPTY" "Ljava/util/Optional;" (.ref w_EMPTY)) (E_EMPTY : Exa Z Z.heap w_EMPTY "java/util/Optional") (F_EMPTY_value : Fld Z Z.heap w_EMPTY "java/util/Optional" "value" "Ljava/lang/Object;" .null) (b0 : Int32) (b1 : Int32) (b2 : Int32) (b3 : Int32) (h : Heap) (X0 : Stand p l e room_1 (s.setVm vm0) m #[(.int len), (.int bits)] below meth c T0 locs 0 0)
    (hx : p.tables.exec = Jvm.exec) (hZ : Z.Warmed39 (s.setVm vm0).vm) (hby : c.code = code) (hml : c.maxLocals = 12) (hown : (s.setVm vm0).vm.findClass "com/example/claim/claim/model/VerificationResultAcceptedPinLaw" = some m.cls) (hret : meth.sig.returnType = ret) (hlk : meth.locks = false) (e0 : T0.heap = h) (N0 : Fr Z.heap.size locs) (O0 : Ext Z.heap h) (hS0 : s.Since vm0 k0) (hk0 : k0 ≤ h.size) (hb0 : b0.toInt8.toInt32 = b0) (hb1 : b1.toInt8.toInt32 = b1) (hb2 : b2.toInt8.toInt32 = b2) (hb3 : b3.toInt8.toInt32 = b3) :
    Go p e below (GOW s (Q_rm0 Z len bits w_EMPTY h0) room_1.cells room_1.slots) (T0.setTop (mkF m 31 #[.val (.int len), .val (.int bits), .val (.int (1 : Int32)), .val (.int b0), .val (.int b1), .val (.int b2), .val (.int b3), .unset, .unset, .unset, .unset, .unset] [])) := by
  show Go p e below _ (T0.setTop (mkF m 31 #[.val (.int len), .val (.int bits), .val (.int (1 : Int32)), .val (.int b0), .val (.int b1), .val (.int b2), .val (.int b3), .unset, .unset, .unset, .unset, .unset] []))
  refine Go.st (fun t' k' => XS.iloadN X0.here hx rfl (hb hby at_31) rfl k') ?_
  show Go p e below _ (T0.setTop (mkF m 32 #[.val (.int len), .val (.int bits), .val (.int (1 : Int32)), .val (.int b0), .val (.int b1), .val (.int b2), .val (.int b3), .unset, .unset, .unset, .unset, .unset] [(.int (1 : Int32))]))
  obtain ⟨T101, h101, k101, X101, e101, E101, A101, Q101, st101⟩ := newPE X0 hx hZ (hw _ (List.mem_of_getElem? (i := 1) rfl)) e0 (g := (mkF m 32 #[.val (.int len), .val (.int bits), .val (.int (1 : Int32)), .val (.int b0), .val (.int b1), .val (.int b2), .val (.int b3), .unset, .unset, .unset, .unset, .unset] [(.int (1 : Int32))])) rfl (hb hby at_32) rfl (by decide) (cap := 1) (by decide) (by decide) (by decide) (by decide) (ad := "[B") (by decide +kernel)
  obtain ⟨b101, g101⟩ : ∃ z, z = h.size := ⟨_, rfl⟩
  rw [← g101] at A101 st101 Q101
  refine Go.st st101 ?_
  have ne_w_EMPTY_b101 : w_EMPTY ≠ b101 := Nat.ne_of_lt (Nat.lt_of_lt_of_le (E_EMPTY.ext O0).lt (Nat.le_of_eq g101.symm))
  have g_b101 : Z.heap.size ≤ b101 := Nat.le_trans O0.1 (Nat.le_of_eq g101.symm)
  have hk101 := Nat.le_trans hk0 E101.1
  have O101 := own_ext_trans O0 E101
  have V_b101 : Arv Z h101 b101 k101 .byte (1 : Int32) [(.int (0 : Int32))] (.int (0 : Int32)) := (Arv.new A101 (by decide)).pad (pad_rep [] (.int (0 : Int32)) 1)
  show Go p e below _ (T101.setTop (mkF m 34 #[.val (.int len), .val (.int bits), .val (.int (1 : Int32)), .val (.int b0), .val (.int b1), .val (.int b2), .val (.int b3), .unset, .unset, .unset, .unset, .unset] [(.ref b101)]))
  refine Go.st (fun t' k' => XS.astore X101.here hx rfl (hb hby at_34) rfl rfl (l' := #[.val (.int len), .val (.int bits), .val (.int (1 : Int32)), .val (.int b0), .val (.int b1), .val (.int b2), .val (.int b3), .val (.ref b101), .unset, .unset, .unset, .unset]) rfl k') ?_
  show Go p e below _ (T101.setTop (mkF m 36 #[.val (.int len), .val (.int bits), .val (.int (1 : Int32)), .val (.int b0), .val (.int b1), .val (.int b2), .val (.int b3), .val (.ref b101), .unset, .unset, .unset, .unset] []))
  refine Go.st (fun t' k' => XS.iloadN X101.here hx rfl (hb hby at_36) rfl k') ?_
  show Go p e below _ (T101.setTop (mkF m 37 #[.val (.int len), .val (.int bits), .val (.int (1 : Int32)), .val (.int b0), .val (.int b1), .val (.int b2), .val (.int b3), .val (.ref b101), .unset, .unset, .unset, .unset] [(.int (1 : Int32))]))
  refine Go.st (fun t' k' => XS.ifNo X101.here hx rfl (hb hby at_37) rfl ((if0 _ _).trans (tlt (by decide : (0 : Int32) < (1 : Int32))).2.2.2) k') ?_
  show Go p e below _ (T101.setTop (mkF m 40 #[.val (.int len), .val (.int bits), .val (.int (1 : Int32)), .val (.int b0), .val (.int b1), .val (.int b2), .val (.int b3), .val (.ref b101), .unset, .unset, .unset, .unset] []))
  refine Go.st (fun t' k' => XS.aload X101.here hx rfl (hb hby at_40) rfl rfl k') ?_
  show Go p e below _ (T101.setTop (mkF m 42 #[.val (.int len), .val (.int bits), .val (.int (1 : Int32)), .val (.int b0), .val (.int b1), .val (.int b2), .val (.int b3), .val (.ref b101), .unset, .unset, .unset, .unset] [(.ref b101)]))
  refine Go.st (fun t' k' => XS.iconst X101.here hx rfl (hb hby at_42) k') ?_
  show Go p e below _ (T101.setTop (mkF m 43 #[.val (.int len), .val (.int bits), .val (.int (1 : Int32)), .val (.int b0), .val (.int b1), .val (.int b2), .val (.int b3), .val (.ref b101), .unset, .unset, .unset, .unset] [(.int (0 : Int32)), (.ref b101)]))
  refine Go.st (fun t' k' => XS.iloadN X101.here hx rfl (hb hby at_43) rfl k') ?_
  show Go p e below _ (T101.setTop (mkF m 44 #[.val (.int len), .val (.int bits), .val (.int (1 : Int32)), .val (.int b0), .val (.int b1), .val (.int b2), .val (.int b3), .val (.ref b101), .unset, .unset, .unset, .unset] [(.int b0), (.int (0 : Int32)), (.ref b101)]))
  obtain ⟨cls103, Ars103, qs103, Szs103, Nzs103, Hss103, Gss103⟩ := (id V_b101)
  have hins103 : ¬ ((0 : Int32) < 0 ∨ cls103.slots.size ≤ ((0 : Int32)).toNatClampNeg) := inb_of Szs103 ⟨by decide, by decide⟩
  obtain ⟨T104, h104, X104, e104, W104, st104⟩ := stB X101 hx hZ e101 Ars103 (j := (0 : Int32)) hins103 (g := (mkF m 44 #[.val (.int len), .val (.int bits), .val (.int (1 : Int32)), .val (.int b0), .val (.int b1), .val (.int b2), .val (.int b3), .val (.ref b101), .unset, .unset, .unset, .unset] [(.int b0), (.int (0 : Int32)), (.ref b101)])) rfl rfl (hb hby at_44)
  refine Go.st st104 ?_
  have V_b101_104 : Arv Z h104 b101 k101 .byte (1 : Int32) [(.int b0)] (.int (0 : Int32)) := own_set (vs := [(.int (0 : Int32))]) (v' := (.int b0)) Ars103 qs103 Szs103 Nzs103 Hss103 Gss103 (fits_nar_byte _) W104 0 rfl (Nat.le_of_ble_eq_true rfl) (congrArg Value.int (hb0)) rfl
  have Q101_h105 := Q101.wr W104
  have hk104 := Nat.le_trans hk101 (Keep.of_wr W104).1
  have O104 := own_ext_wr O101 W104 g_b101
  have N104 := Fr.snoc X104 N0 g_b101
  show Go p e below _ (T104.setTop (mkF m 45 #[.val (.int len), .val (.int bits), .val (.int (1 : Int32)), .val (.int b0), .val (.int b1), .val (.int b2), .val (.int b3), .val (.ref b101), .unset, .unset, .unset, .unset] []))
  refine Go.st (fun t' k' => XS.iloadN X104.here hx rfl (hb hby at_45) rfl k') ?_
  show Go p e below _ (T104.setTop (mkF m 46 #[.val (.int len), .val (.int bits), .val (.int (1 : Int32)), .val (.int b0), .val (.int b1), .val (.int b2), .val (.int b3), .val (.ref b101), .unset, .unset, .unset, .unset] [(.int (1 : Int32))]))
  refine Go.st (fun t' k' => XS.iconst X104.here hx rfl (hb hby at_46) k') ?_
  show Go p e below _ (T104.setTop (mkF m 47 #[.val (.int len), .val (.int bits), .val (.int (1 : Int32)), .val (.int b0), .val (.int b1), .val (.int b2), .val (.int b3), .val (.ref b101), .unset, .unset, .unset, .unset] [(.int (1 : Int32)), (.int (1 : Int32))]))
  refine Go.st (fun t' k' => XS.icmpYes X104.here hx rfl (pc0 := 47) (pc' := 56) rfl (hb hby at_47) rfl (flt (by decide : ¬ ((1 : Int32) < (1 : Int32)))).2.2.2 (by decide) (by decide) k') ?_
  show Go p e below _ (T104.setTop (mkF m 56 #[.val (.int len), .val (.int bits), .val (.int (1 : Int32)), .val (.int b0), .val (.int b1), .val (.int b2), .val (.int b3), .val (.ref b101), .unset, .unset, .unset, .unset] []))
  refine Go.st (fun t' k' => XS.iloadN X104.here hx rfl (hb hby at_56) rfl k') ?_
  show Go p e below _ (T104.setTop (mkF m 57 #[.val (.int len), .val (.int bits), .val (.int (1 : Int32)), .val (.int b0), .val (.int b1), .val (.int b2), .val (.int b3), .val (.ref b101), .unset, .unset, .unset, .unset] [(.int (1 : Int32))]))
  refine Go.st (fun t' k' => XS.iconst X104.here hx rfl (hb hby at_57) k') ?_
  show Go p e below _ (T104.setTop (mkF m 58 #[.val (.int len), .val (.int bits), .val (.int (1 : Int32)), .val (.int b0), .val (.int b1), .val (.int b2), .val (.int b3), .val (.ref b101), .unset, .unset, .unset, .unset] [(.int (2 : Int32)), (.int (1 : Int32))]))
  refine Go.st (fun t' k' => XS.icmpYes X104.here hx rfl (pc0 := 58) (pc' := 67) rfl (hb hby at_58) rfl (flt (by decide : ¬ ((2 : Int32) < (1 : Int32)))).2.2.2 (by decide) (by decide) k') ?_
  show Go p e below _ (T104.setTop (mkF m 67 #[.val (.int len), .val (.int bits), .val (.int (1 : Int32)), .val (.int b0), .val (.int b1), .val (.int b2), .val (.int b3), .val (.ref b101), .unset, .unset, .unset, .unset] []))
  refine Go.st (fun t' k' => XS.iloadN X104.here hx rfl (hb hby at_67) rfl k') ?_
  show Go p e below _ (T104.setTop (mkF m 68 #[.val (.int len), .val (.int bits), .val (.int (1 : Int32)), .val (.int b0), .val (.int b1), .val (.int b2), .val (.int b3), .val (.ref b101), .unset, .unset, .unset, .unset] [(.int (1 : Int32))]))
  refine Go.st (fun t' k' => XS.iconst X104.here hx rfl (hb hby at_68) k') ?_
  show Go p e below _ (T104.setTop (mkF m 69 #[.val (.int len), .val (.int bits), .val (.int (1 : Int32)), .val (.int b0), .val (.int b1), .val (.int b2), .val (.int b3), .val (.ref b101), .unset, .unset, .unset, .unset] [(.int (3 : Int32)), (.int (1 : Int32))]))
  refine Go.st (fun t' k' => XS.icmpYes X104.here hx rfl (pc0 := 69) (pc' := 78) rfl (hb hby at_69) rfl (flt (by decide : ¬ ((3 : Int32) < (1 : Int32)))).2.2.2 (by decide) (by decide) k') ?_
  show Go p e below _ (T104.setTop (mkF m 78 #[.val (.int len), .val (.int bits), .val (.int (1 : Int32)), .val (.int b0), .val (.int b1), .val (.int b2), .val (.int b3), .val (.ref b101), .unset, .unset, .unset, .unset] []))
  refine Go.st (fun t' k' => XS.aload X104.here hx rfl (hb hby at_78) rfl rfl k') ?_
  show Go p e below _ (T104.setTop (mkF m 80 #[.val (.int len), .val (.int bits), .val (.int (1 : Int32)), .val (.int b0), .val (.int b1), .val (.int b2), .val (.int b3), .val (.ref b101), .unset, .unset, .unset, .unset] [(.ref b101)]))
  obtain ⟨_, _, ⟨T106, L106, k106, n106⟩, -, X106, hs106, gr106, ⟨Lc106, hQ106, l106, y106, z106⟩, st106⟩ := Jvm.RoadKit.callSS X104 hx (y := (⟨"com/example/claim/claim/model/VerificationResult", "accepted", "([B)Lcom/example/claim/claim/model/VerificationResult;"⟩ : MethodName)) hown (mvT hZ (hw _ (List.mem_of_getElem? (i := 2) rfl))) (mvT hZ (hw _ (List.mem_of_getElem? (i := 3) rfl))) (mvT hZ (hw _ (List.mem_of_getElem? (i := 4) rfl))) (mvT hZ (hw _ (List.mem_of_getElem? (i := 5) rfl))) (by decide) (backOfS (W := 0) (rmAc l Z a0 hw [] b101 k101 ((1 : Int32)) ([(.int b0)]) h104 O104 Q101_h105 V_b101_104 (by decide)) hZ (hw _ (List.mem_of_getElem? (i := 5) rfl)) (hw _ (List.mem_of_getElem? (i := 4) rfl)) (by decide) (by decide)) (g := (mkF m 80 #[.val (.int len), .val (.int bits), .val (.int (1 : Int32)), .val (.int b0), .val (.int b1), .val (.int b2), .val (.int b3), .val (.ref b101), .unset, .unset, .unset, .unset] [(.ref b101)])) rfl (by rw [hml]; rfl) (argsL := [(.ref b101)]) (rest := []) (lenOf pd___B_Lcom_example_claim_claim_model_VerificationResult_ rfl) rfl (by show 2 * 0 + _ ≤ _; exact Nat.le_of_eq rfl) (hb hby at_80) (fun _ _ => ⟨rfl, e104, (by decide : 1 + 4 ≤ _), (by decide : 1 + 48 ≤ _)⟩)
  dsimp only [Pt.U, Pt.locs, Pt.cells, Pt.slots] at X106 l106 y106 z106 st106 hQ106 hs106 gr106
  subst y106 z106
  obtain ⟨b_106, q_106, rfl, N106q, O106, Kc106, Eb_106, Pp_106, Pq_106, Eq__106, Aq_106, Gb_106, Gq_106, Sb_106, Sq_106, Nbq_106⟩ := hQ106
  have N106 : Fr Z.heap.size L106 := by rw [l106]; exact Fr.app N104 N106q
  refine Go.tr st106 ?_
  obtain ⟨X106r, hS106, hZ106, hown106⟩ := rebS hS0 (by rw [e104]; exact hk104) X106 hs106 gr106 hZ hown
  have Q101_h107 := Q101_h105.keep Kc106
  have V_b101_104_h107 := V_b101_104.keep Kc106 nin0
  have ne_w_EMPTY_b_106 : w_EMPTY ≠ b_106 := Nat.ne_of_lt (Nat.lt_of_lt_of_le (E_EMPTY.ext O104).lt Sb_106)
  have ne_b101_b_106 : b101 ≠ b_106 := Nat.ne_of_lt (Nat.lt_of_lt_of_le Q101_h105.lt Sb_106)
  have ne_w_EMPTY_q_106 : w_EMPTY ≠ q_106 := Nat.ne_of_lt (Nat.lt_of_lt_of_le (E_EMPTY.ext O104).lt Sq_106)
  have ne_b101_q_106 : b101 ≠ q_106 := Nat.ne_of_lt (Nat.lt_of_lt_of_le Q101_h105.lt Sq_106)
  show Go p e below _ (T106.setTop (mkF m 83 #[.val (.int len), .val (.int bits), .val (.int (1 : Int32)), .val (.int b0), .val (.int b1), .val (.int b2), .val (.int b3), .val (.ref b101), .unset, .unset, .unset, .unset] [(.ref b_106)]))
  refine Go.st (fun t' k' => XS.astore X106r.here hx rfl (hb hby at_83) rfl rfl (l' := #[.val (.int len), .val (.int bits), .val (.int (1 : Int32)), .val (.int b0), .val (.int b1), .val (.int b2), .val (.int b3), .val (.ref b101), .val (.ref b_106), .unset, .unset, .unset]) rfl k') ?_
  show Go p e below _ (T106.setTop (mkF m 85 #[.val (.int len), .val (.int bits), .val (.int (1 : Int32)), .val (.int b0), .val (.int b1), .val (.int b2), .val (.int b3), .val (.ref b101), .val (.ref b_106), .unset, .unset, .unset] []))
  refine Go.st (fun t' k' => XS.iloadN X106r.here hx rfl (hb hby at_85) rfl k') ?_
  show Go p e below _ (T106.setTop (mkF m 86 #[.val (.int len), .val (.int bits), .val (.int (1 : Int32)), .val (.int b0), .val (.int b1), .val (.int b2), .val (.int b3), .val (.ref b101), .val (.ref b_106), .unset, .unset, .unset] [(.int (1 : Int32))]))
  refine Go.st (fun t' k' => XS.ifNo X106r.here hx rfl (hb hby at_86) rfl ((if0 _ _).trans (tlt (by decide : (0 : Int32) < (1 : Int32))).2.2.2) k') ?_
  show Go p e below _ (T106.setTop (mkF m 89 #[.val (.int len), .val (.int bits), .val (.int (1 : Int32)), .val (.int b0), .val (.int b1), .val (.int b2), .val (.int b3), .val (.ref b101), .val (.ref b_106), .unset, .unset, .unset] []))
  refine Go.st (fun t' k' => XS.aload X106r.here hx rfl (hb hby at_89) rfl rfl k') ?_
  show Go p e below _ (T106.setTop (mkF m 91 #[.val (.int len), .val (.int bits), .val (.int (1 : Int32)), .val (.int b0), .val (.int b1), .val (.int b2), .val (.int b3), .val (.ref b101), .val (.ref b_106), .unset, .unset, .unset] [(.ref b101)]))
  refine Go.st (fun t' k' => XS.iconst X106r.here hx rfl (hb hby at_91) k') ?_
  show Go p e below _ (T106.setTop (mkF m 92 #[.val (.int len), .val (.int bits), .val (.int (1 : Int32)), .val (.int b0), .val (.int b1), .val (.int b2), .val (.int b3), .val (.ref b101), .val (.ref b_106), .unset, .unset, .unset] [(.int (0 : Int32)), (.ref b101)]))
  refine Go.st (fun t' k' => XS.iloadN X106r.here hx rfl (hb hby at_92) rfl k') ?_
  show Go p e below _ (T106.setTop (mkF m 93 #[.val (.int len), .val (.int bits), .val (.int (1 : Int32)), .val (.int b0), .val (.int b1), .val (.int b2), .val (.int b3), .val (.ref b101), .val (.ref b_106), .unset, .unset, .unset] [(.int b0), (.int (0 : Int32)), (.ref b101)]))
  refine Go.st (fun t' k' => XS.iconst X106r.here hx rfl (hb hby at_93) k') ?_
  show Go p e below _ (T106.setTop (mkF m 94 #[.val (.int len), .val (.int bits), .val (.int (1 : Int32)), .val (.int b0), .val (.int b1), .val (.int b2), .val (.int b3), .val (.ref b101), .val (.ref b_106), .unset, .unset, .unset] [(.int (-1 : Int32)), (.int b0), (.int (0 : Int32)), (.ref b101)]))
  refine Go.st (fun t' k' => XS.ixor X106r.here hx rfl (hb hby at_94) rfl k') ?_
  show Go p e below _ (T106.setTop (mkF m 95 #[.val (.int len), .val (.int bits), .val (.int (1 : Int32)), .val (.int b0), .val (.int b1), .val (.int b2), .val (.int b3), .val (.ref b101), .val (.ref b_106), .unset, .unset, .unset] [(.int (b0 ^^^ (-1 : Int32))), (.int (0 : Int32)), (.ref b101)]))
  refine Go.st (fun t' k' => XS.i2b X106r.here hx rfl (hb hby at_95) rfl k') ?_
  show Go p e below _ (T106.setTop (mkF m 96 #[.val (.int len), .val (.int bits), .val (.int (1 : Int32)), .val (.int b0), .val (.int b1), .val (.int b2), .val (.int b3), .val (.ref b101), .val (.ref b_106), .unset, .unset, .unset] [(.int ((b0 ^^^ (-1 : Int32)).toInt8.toInt32)), (.int (0 : Int32)), (.ref b101)]))
  obtain ⟨cls108, Ars108, qs108, Szs108, Nzs108, Hss108, Gss108⟩ := (id V_b101_104_h107)
  have hins108 : ¬ ((0 : Int32) < 0 ∨ cls108.slots.size ≤ ((0 : Int32)).toNatClampNeg) := inb_of Szs108 ⟨by decide, by decide⟩
  obtain ⟨T109, h109, X109, e109, W109, st109⟩ := stB X106r hx hZ106 rfl Ars108 (j := (0 : Int32)) hins108 (g := (mkF m 96 #[.val (.int len), .val (.int bits), .val (.int (1 : Int32)), .val (.int b0), .val (.int b1), .val (.int b2), .val (.int b3), .val (.ref b101), .val (.ref b_106), .unset, .unset, .unset] [(.int ((b0 ^^^ (-1 : Int32)).toInt8.toInt32)), (.int (0 : Int32)), (.ref b101)])) rfl rfl (hb hby at_96)
  refine Go.st st109 ?_
  have V_b101_109 : Arv Z h109 b101 k101 .byte (1 : Int32) [(.int ((b0 ^^^ (-1 : Int32)).toInt8.toInt32).toInt8.toInt32)] (.int (0 : Int32)) := own_set (vs := [(.int b0)]) (v' := (.int ((b0 ^^^ (-1 : Int32)).toInt8.toInt32).toInt8.toInt32)) Ars108 qs108 Szs108 Nzs108 Hss108 Gss108 (fits_nar_byte _) W109 0 rfl (Nat.le_of_ble_eq_true rfl) rfl rfl
  have Q101_h110 := Q101_h107.wr W109
  have Eb_106_h110 := Eb_106.wr W109
  have Pp_106_h110 := Pp_106.other W109 (Or.inl (Ne.symm ne_b101_b_106))
  have Pq_106_h110 := Pq_106.other W109 (Or.inl (Ne.symm ne_b101_b_106))
  have Eq__106_h110 := Eq__106.wr W109
  have Aq_106_h110 := Aq_106.other W109 (Ne.symm ne_b101_q_106)
  have hk109 := Nat.le_trans (Nat.le_refl _) (Keep.of_wr W109).1
  have O109 := own_ext_wr O106 W109 g_b101
  have N109 := Fr.snoc X109 N106 g_b101
  show Go p e below _ (T109.setTop (mkF m 97 #[.val (.int len), .val (.int bits), .val (.int (1 : Int32)), .val (.int b0), .val (.int b1), .val (.int b2), .val (.int b3), .val (.ref b101), .val (.ref b_106), .unset, .unset, .unset] []))
  refine Go.st (fun t' k' => XS.iloadN X109.here hx rfl (hb hby at_97) rfl k') ?_
  show Go p e below _ (T109.setTop (mkF m 98 #[.val (.int len), .val (.int bits), .val (.int (1 : Int32)), .val (.int b0), .val (.int b1), .val (.int b2), .val (.int b3), .val (.ref b101), .val (.ref b_106), .unset, .unset, .unset] [(.int (1 : Int32))]))
  refine Go.st (fun t' k' => XS.iconst X109.here hx rfl (hb hby at_98) k') ?_
  show Go p e below _ (T109.setTop (mkF m 99 #[.val (.int len), .val (.int bits), .val (.int (1 : Int32)), .val (.int b0), .val (.int b1), .val (.int b2), .val (.int b3), .val (.ref b101), .val (.ref b_106), .unset, .unset, .unset] [(.int (1 : Int32)), (.int (1 : Int32))]))
  refine Go.st (fun t' k' => XS.icmpYes X109.here hx rfl (pc0 := 99) (pc' := 111) rfl (hb hby at_99) rfl (flt (by decide : ¬ ((1 : Int32) < (1 : Int32)))).2.2.2 (by decide) (by decide) k') ?_
  show Go p e below _ (T109.setTop (mkF m 111 #[.val (.int len), .val (.int bits), .val (.int (1 : Int32)), .val (.int b0), .val (.int b1), .val (.int b2), .val (.int b3), .val (.ref b101), .val (.ref b_106), .unset, .unset, .unset] []))
  refine Go.st (fun t' k' => XS.iloadN X109.here hx rfl (hb hby at_111) rfl k') ?_
  show Go p e below _ (T109.setTop (mkF m 112 #[.val (.int len), .val (.int bits), .val (.int (1 : Int32)), .val (.int b0), .val (.int b1), .val (.int b2), .val (.int b3), .val (.ref b101), .val (.ref b_106), .unset, .unset, .unset] [(.int (1 : Int32))]))
  refine Go.st (fun t' k' => XS.iconst X109.here hx rfl (hb hby at_112) k') ?_
  show Go p e below _ (T109.setTop (mkF m 113 #[.val (.int len), .val (.int bits), .val (.int (1 : Int32)), .val (.int b0), .val (.int b1), .val (.int b2), .val (.int b3), .val (.ref b101), .val (.ref b_106), .unset, .unset, .unset] [(.int (2 : Int32)), (.int (1 : Int32))]))
  refine Go.st (fun t' k' => XS.icmpYes X109.here hx rfl (pc0 := 113) (pc' := 125) rfl (hb hby at_113) rfl (flt (by decide : ¬ ((2 : Int32) < (1 : Int32)))).2.2.2 (by decide) (by decide) k') ?_
  show Go p e below _ (T109.setTop (mkF m 125 #[.val (.int len), .val (.int bits), .val (.int (1 : Int32)), .val (.int b0), .val (.int b1), .val (.int b2), .val (.int b3), .val (.ref b101), .val (.ref b_106), .unset, .unset, .unset] []))
  refine Go.st (fun t' k' => XS.iloadN X109.here hx rfl (hb hby at_125) rfl k') ?_
  show Go p e below _ (T109.setTop (mkF m 126 #[.val (.int len), .val (.int bits), .val (.int (1 : Int32)), .val (.int b0), .val (.int b1), .val (.int b2), .val (.int b3), .val (.ref b101), .val (.ref b_106), .unset, .unset, .unset] [(.int (1 : Int32))]))
  refine Go.st (fun t' k' => XS.iconst X109.here hx rfl (hb hby at_126) k') ?_
  show Go p e below _ (T109.setTop (mkF m 127 #[.val (.int len), .val (.int bits), .val (.int (1 : Int32)), .val (.int b0), .val (.int b1), .val (.int b2), .val (.int b3), .val (.ref b101), .val (.ref b_106), .unset, .unset, .unset] [(.int (3 : Int32)), (.int (1 : Int32))]))
  refine Go.st (fun t' k' => XS.icmpYes X109.here hx rfl (pc0 := 127) (pc' := 139) rfl (hb hby at_127) rfl (flt (by decide : ¬ ((3 : Int32) < (1 : Int32)))).2.2.2 (by decide) (by decide) k') ?_
  show Go p e below _ (T109.setTop (mkF m 139 #[.val (.int len), .val (.int bits), .val (.int (1 : Int32)), .val (.int b0), .val (.int b1), .val (.int b2), .val (.int b3), .val (.ref b101), .val (.ref b_106), .unset, .unset, .unset] []))
  refine Go.st (fun t' k' => XS.aload X109.here hx rfl (hb hby at_139) rfl rfl k') ?_
  show Go p e below _ (T109.setTop (mkF m 141 #[.val (.int len), .val (.int bits), .val (.int (1 : Int32)), .val (.int b0), .val (.int b1), .val (.int b2), .val (.int b3), .val (.ref b101), .val (.ref b_106), .unset, .unset, .unset] [(.ref b_106)]))
  obtain ⟨cq111, kq111, q111a, q111b, q111c⟩ := isOf hZ106 e109 Eb_106_h110
  obtain ⟨_, _, ⟨T111, L111, k111, n111⟩, -, X111, ⟨Lc111, hQ111, l111, y111, z111⟩, st111⟩ := X109.virtualBack hx (y := (⟨"com/example/claim/claim/model/VerificationResult", "isAccepted", "()Z"⟩ : MethodName)) (z := (⟨"com/example/claim/claim/model/VerificationResult", "isAccepted", "()Z"⟩ : MethodName)) hown106 (mvT hZ106 (hw _ (List.mem_of_getElem? (i := 38) rfl))) (mvT hZ106 (hw _ (List.mem_of_getElem? (i := 39) rfl))) (notFace_of_selects (args := #[]) (mvT hZ106 (hw _ (List.mem_of_getElem? (i := 41) rfl)))) (mvT hZ106 (hw _ (List.mem_of_getElem? (i := 41) rfl))) (mvT hZ106 (hw _ (List.mem_of_getElem? (i := 40) rfl))) (by decide) (backOf (W := 0) (rmIA l Z a0 hw [] b_106 q_106 h109 O109 Pp_106_h110) hZ106 (hw _ (List.mem_of_getElem? (i := 42) rfl)) (hw _ (List.mem_of_getElem? (i := 4) rfl)) (by decide) (by decide)) q111a q111c (g := (mkF m 141 #[.val (.int len), .val (.int bits), .val (.int (1 : Int32)), .val (.int b0), .val (.int b1), .val (.int b2), .val (.int b3), .val (.ref b101), .val (.ref b_106), .unset, .unset, .unset] [(.ref b_106)])) rfl (by rw [hml]; rfl) (Steps.refl _) (argsL := []) (rest := []) (lenOf pd___Z rfl) rfl (by show 2 * 0 + _ ≤ _; exact Nat.le_of_eq rfl) (hb hby at_141) (fun _ _ => ⟨rfl, e109, (by decide : 5 + 0 ≤ _), (by decide : 49 + 0 ≤ _)⟩)
  dsimp only [Pt.U, Pt.locs, Pt.cells, Pt.slots] at X111 l111 y111 z111 st111 hQ111
  subst y111 z111
  obtain ⟨rfl, rfl, e111⟩ := hQ111
  have N111 : Fr Z.heap.size L111 := by rw [l111]; exact Fr.app N109 (Fr.nil _)
  refine Go.tr st111 ?_
  show Go p e below _ (T111.setTop (mkF m 144 #[.val (.int len), .val (.int bits), .val (.int (1 : Int32)), .val (.int b0), .val (.int b1), .val (.int b2), .val (.int b3), .val (.ref b101), .val (.ref b_106), .unset, .unset, .unset] [(.int (1 : Int32))]))
  refine Go.st (fun t' k' => XS.ifYes X111.here hx rfl (pc0 := 144) (pc' := 149) rfl (hb hby at_144) rfl ((if0 _ _).trans (feq (by decide : ¬ ((1 : Int32) = (0 : Int32)))).2) (by decide) (by decide) k') ?_
  show Go p e below _ (T111.setTop (mkF m 149 #[.val (.int len), .val (.int bits), .val (.int (1 : Int32)), .val (.int b0), .val (.int b1), .val (.int b2), .val (.int b3), .val (.ref b101), .val (.ref b_106), .unset, .unset, .unset] []))
  refine Go.st (fun t' k' => XS.aload X111.here hx rfl (hb hby at_149) rfl rfl k') ?_
  show Go p e below _ (T111.setTop (mkF m 151 #[.val (.int len), .val (.int bits), .val (.int (1 : Int32)), .val (.int b0), .val (.int b1), .val (.int b2), .val (.int b3), .val (.ref b101), .val (.ref b_106), .unset, .unset, .unset] [(.ref b_106)]))
  obtain ⟨cq112, kq112, q112a, q112b, q112c⟩ := isOf hZ106 e111 Eb_106_h110
  obtain ⟨_, _, ⟨T112, L112, k112, n112⟩, -, X112, ⟨Lc112, hQ112, l112, y112, z112⟩, st112⟩ := X111.virtualBack hx (y := (⟨"com/example/claim/claim/model/VerificationResult", "refusal", "()Ljava/util/Optional;"⟩ : MethodName)) (z := (⟨"com/example/claim/claim/model/VerificationResult", "refusal", "()Ljava/util/Optional;"⟩ : MethodName)) hown106 (mvT hZ106 (hw _ (List.mem_of_getElem? (i := 43) rfl))) (mvT hZ106 (hw _ (List.mem_of_getElem? (i := 44) rfl))) (notFace_of_selects (args := #[]) (mvT hZ106 (hw _ (List.mem_of_getElem? (i := 46) rfl)))) (mvT hZ106 (hw _ (List.mem_of_getElem? (i := 46) rfl))) (mvT hZ106 (hw _ (List.mem_of_getElem? (i := 45) rfl))) (by decide) (backOf (W := 0) (rmRq l Z a0 hw [] b_106 w_EMPTY h109 O109 S_EMPTY Pq_106_h110) hZ106 (hw _ (List.mem_of_getElem? (i := 47) rfl)) (hw _ (List.mem_of_getElem? (i := 4) rfl)) (by decide) (by decide)) q112a q112c (g := (mkF m 151 #[.val (.int len), .val (.int bits), .val (.int (1 : Int32)), .val (.int b0), .val (.int b1), .val (.int b2), .val (.int b3), .val (.ref b101), .val (.ref b_106), .unset, .unset, .unset] [(.ref b_106)])) rfl (by rw [hml]; rfl) (Steps.refl _) (argsL := []) (rest := []) (lenOf pd___Ljava_util_Optional_ rfl) rfl (by show 2 * 0 + _ ≤ _; exact Nat.le_of_eq rfl) (hb hby at_151) (fun _ _ => ⟨rfl, e111, (by decide : 5 + 0 ≤ _), (by decide : 49 + 0 ≤ _)⟩)
  dsimp only [Pt.U, Pt.locs, Pt.cells, Pt.slots] at X112 l112 y112 z112 st112 hQ112
  subst y112 z112
  obtain ⟨rfl, rfl, e112⟩ := hQ112
  have N112 : Fr Z.heap.size L112 := by rw [l112]; exact Fr.app N111 (Fr.nil _)
  refine Go.tr st112 ?_
  show Go p e below _ (T112.setTop (mkF m 154 #[.val (.int len), .val (.int bits), .val (.int (1 : Int32)), .val (.int b0), .val (.int b1), .val (.int b2), .val (.int b3), .val (.ref b101), .val (.ref b_106), .unset, .unset, .unset] [(.ref w_EMPTY)]))
  obtain ⟨cq113, kq113, q113a, q113b, q113c⟩ := isOf hZ106 e112 (E_EMPTY.ext O109)
  obtain ⟨_, _, ⟨T113, L113, k113, n113⟩, -, X113, ⟨Lc113, hQ113, l113, y113, z113⟩, st113⟩ := X112.virtualBack hx (y := (⟨"java/util/Optional", "isPresent", "()Z"⟩ : MethodName)) (z := (⟨"java/util/Optional", "isPresent", "()Z"⟩ : MethodName)) hown106 (mvT hZ106 (hw _ (List.mem_of_getElem? (i := 53) rfl))) (mvT hZ106 (hw _ (List.mem_of_getElem? (i := 54) rfl))) (notFace_of_selects (args := #[]) (mvT hZ106 (hw _ (List.mem_of_getElem? (i := 56) rfl)))) (mvT hZ106 (hw _ (List.mem_of_getElem? (i := 56) rfl))) (mvT hZ106 (hw _ (List.mem_of_getElem? (i := 55) rfl))) (by decide) (backOf (W := 0) (rmIs0 l Z a0 hw [] w_EMPTY h109 O109 (F_EMPTY_value.ext O109)) hZ106 (hw _ (List.mem_of_getElem? (i := 57) rfl)) (hw _ (List.mem_of_getElem? (i := 50) rfl)) (by decide) (by decide)) q113a q113c (g := (mkF m 154 #[.val (.int len), .val (.int bits), .val (.int (1 : Int32)), .val (.int b0), .val (.int b1), .val (.int b2), .val (.int b3), .val (.ref b101), .val (.ref b_106), .unset, .unset, .unset] [(.ref w_EMPTY)])) rfl (by rw [hml]; rfl) (Steps.refl _) (argsL := []) (rest := []) (lenOf pd___Z rfl) rfl (by show 2 * 0 + _ ≤ _; exact Nat.le_of_eq rfl) (hb hby at_154) (fun _ _ => ⟨rfl, e112, (by decide : 5 + 0 ≤ _), (by decide : 49 + 0 ≤ _)⟩)
  dsimp only [Pt.U, Pt.locs, Pt.cells, Pt.slots] at X113 l113 y113 z113 st113 hQ113
  subst y113 z113
  obtain ⟨rfl, rfl, e113⟩ := hQ113
  have N113 : Fr Z.heap.size L113 := by rw [l113]; exact Fr.app N112 (Fr.nil _)
  refine Go.tr st113 ?_
  show Go p e below _ (T113.setTop (mkF m 157 #[.val (.int len), .val (.int bits), .val (.int (1 : Int32)), .val (.int b0), .val (.int b1), .val (.int b2), .val (.int b3), .val (.ref b101), .val (.ref b_106), .unset, .unset, .unset] [(.int (0 : Int32))]))
  refine Go.st (fun t' k' => XS.ifYes X113.here hx rfl (pc0 := 157) (pc' := 162) rfl (hb hby at_157) rfl ((if0 _ _).trans (teq (by decide : (0 : Int32) = (0 : Int32))).1) (by decide) (by decide) k') ?_
  show Go p e below _ (T113.setTop (mkF m 162 #[.val (.int len), .val (.int bits), .val (.int (1 : Int32)), .val (.int b0), .val (.int b1), .val (.int b2), .val (.int b3), .val (.ref b101), .val (.ref b_106), .unset, .unset, .unset] []))
  refine Go.st (fun t' k' => XS.aload X113.here hx rfl (hb hby at_162) rfl rfl k') ?_
  show Go p e below _ (T113.setTop (mkF m 164 #[.val (.int len), .val (.int bits), .val (.int (1 : Int32)), .val (.int b0), .val (.int b1), .val (.int b2), .val (.int b3), .val (.ref b101), .val (.ref b_106), .unset, .unset, .unset] [(.ref b_106)]))
  obtain ⟨cq114, kq114, q114a, q114b, q114c⟩ := isOf hZ106 e113 Eb_106_h110
  obtain ⟨_, _, ⟨T114, L114, k114, n114⟩, -, X114, ⟨Lc114, hQ114, l114, y114, z114⟩, st114⟩ := X113.virtualBack hx (y := (⟨"com/example/claim/claim/model/VerificationResult", "payload", "()Ljava/util/Optional;"⟩ : MethodName)) (z := (⟨"com/example/claim/claim/model/VerificationResult", "payload", "()Ljava/util/Optional;"⟩ : MethodName)) hown106 (mvT hZ106 (hw _ (List.mem_of_getElem? (i := 60) rfl))) (mvT hZ106 (hw _ (List.mem_of_getElem? (i := 61) rfl))) (notFace_of_selects (args := #[]) (mvT hZ106 (hw _ (List.mem_of_getElem? (i := 63) rfl)))) (mvT hZ106 (hw _ (List.mem_of_getElem? (i := 63) rfl))) (mvT hZ106 (hw _ (List.mem_of_getElem? (i := 62) rfl))) (by decide) (backOf (W := 0) (rmPl l Z a0 hw [] b_106 q_106 k101 ((1 : Int32)) ([(.int b0)]) h109 O109 Pp_106_h110 Eq__106_h110 Aq_106_h110 (by decide)) hZ106 (hw _ (List.mem_of_getElem? (i := 64) rfl)) (hw _ (List.mem_of_getElem? (i := 4) rfl)) (by decide) (by decide)) q114a q114c (g := (mkF m 164 #[.val (.int len), .val (.int bits), .val (.int (1 : Int32)), .val (.int b0), .val (.int b1), .val (.int b2), .val (.int b3), .val (.ref b101), .val (.ref b_106), .unset, .unset, .unset] [(.ref b_106)])) rfl (by rw [hml]; rfl) (Steps.refl _) (argsL := []) (rest := []) (lenOf pd___Ljava_util_Optional_ rfl) rfl (by show 2 * 0 + _ ≤ _; exact Nat.le_of_eq rfl) (hb hby at_164) (fun _ _ => ⟨rfl, e113, (by decide : 5 + 3 ≤ _), (by decide : 49 + 6 ≤ _)⟩)
  dsimp only [Pt.U, Pt.locs, Pt.cells, Pt.slots] at X114 l114 y114 z114 st114 hQ114
  subst y114 z114
  obtain ⟨b_114, u_114, rfl, N114q, O114, Kc114, Eb_114, Pv_114, Eu_114, Au_114, Gb_114, Gu_114, Sb_114, Su_114, Nbu_114⟩ := hQ114
  have N114 : Fr Z.heap.size L114 := by rw [l114]; exact Fr.app N113 N114q
  refine Go.tr st114 ?_
  have hk114 := Nat.le_trans hk109 Kc114.1
  have Q101_h115 := Q101_h110.keep Kc114
  have Eb_106_h115 := Eb_106_h110.keep Kc114
  have Pp_106_h115 := Pp_106_h110.keep Kc114 nin0
  have Pq_106_h115 := Pq_106_h110.keep Kc114 nin0
  have Eq__106_h115 := Eq__106_h110.keep Kc114
  have Aq_106_h115 := Aq_106_h110.keep Kc114 nin0
  have V_b101_109_h115 := V_b101_109.keep Kc114 nin0
  have ne_w_EMPTY_b_114 : w_EMPTY ≠ b_114 := Nat.ne_of_lt (Nat.lt_of_lt_of_le (E_EMPTY.ext O109).lt Sb_114)
  have ne_b101_b_114 : b101 ≠ b_114 := Nat.ne_of_lt (Nat.lt_of_lt_of_le Q101_h110.lt Sb_114)
  have ne_b_106_b_114 : b_106 ≠ b_114 := Nat.ne_of_lt (Nat.lt_of_lt_of_le Eb_106_h110.lt Sb_114)
  have ne_q_106_b_114 : q_106 ≠ b_114 := Nat.ne_of_lt (Nat.lt_of_lt_of_le Eq__106_h110.lt Sb_114)
  have ne_w_EMPTY_u_114 : w_EMPTY ≠ u_114 := Nat.ne_of_lt (Nat.lt_of_lt_of_le (E_EMPTY.ext O109).lt Su_114)
  have ne_b101_u_114 : b101 ≠ u_114 := Nat.ne_of_lt (Nat.lt_of_lt_of_le Q101_h110.lt Su_114)
  have ne_b_106_u_114 : b_106 ≠ u_114 := Nat.ne_of_lt (Nat.lt_of_lt_of_le Eb_106_h110.lt Su_114)
  have ne_q_106_u_114 : q_106 ≠ u_114 := Nat.ne_of_lt (Nat.lt_of_lt_of_le Eq__106_h110.lt Su_114)
  show Go p e below _ (T114.setTop (mkF m 167 #[.val (.int len), .val (.int bits), .val (.int (1 : Int32)), .val (.int b0), .val (.int b1), .val (.int b2), .val (.int b3), .val (.ref b101), .val (.ref b_106), .unset, .unset, .unset] [(.ref b_114)]))
  refine Go.st (fun t' k' => XS.astore X114.here hx rfl (hb hby at_167) rfl rfl (l' := #[.val (.int len), .val (.int bits), .val (.int (1 : Int32)), .val (.int b0), .val (.int b1), .val (.int b2), .val (.int b3), .val (.ref b101), .val (.ref b_106), .val (.ref b_114), .unset, .unset]) rfl k') ?_
  show Go p e below _ (T114.setTop (mkF m 169 #[.val (.int len), .val (.int bits), .val (.int (1 : Int32)), .val (.int b0), .val (.int b1), .val (.int b2), .val (.int b3), .val (.ref b101), .val (.ref b_106), .val (.ref b_114), .unset, .unset] []))
  refine Go.st (fun t' k' => XS.aload X114.here hx rfl (hb hby at_169) rfl rfl k') ?_
  show Go p e below _ (T114.setTop (mkF m 171 #[.val (.int len), .val (.int bits), .val (.int (1 : Int32)), .val (.int b0), .val (.int b1), .val (.int b2), .val (.int b3), .val (.ref b101), .val (.ref b_106), .val (.ref b_114), .unset, .unset] [(.ref b_114)]))
  obtain ⟨cq116, kq116, q116a, q116b, q116c⟩ := isOf hZ106 rfl Eb_114
  obtain ⟨_, _, ⟨T116, L116, k116, n116⟩, -, X116, ⟨Lc116, hQ116, l116, y116, z116⟩, st116⟩ := X114.virtualBack hx (y := (⟨"java/util/Optional", "isPresent", "()Z"⟩ : MethodName)) (z := (⟨"java/util/Optional", "isPresent", "()Z"⟩ : MethodName)) hown106 (mvT hZ106 (hw _ (List.mem_of_getElem? (i := 53) rfl))) (mvT hZ106 (hw _ (List.mem_of_getElem? (i := 54) rfl))) (notFace_of_selects (args := #[]) (mvT hZ106 (hw _ (List.mem_of_getElem? (i := 56) rfl)))) (mvT hZ106 (hw _ (List.mem_of_getElem? (i := 56) rfl))) (mvT hZ106 (hw _ (List.mem_of_getElem? (i := 55) rfl))) (by decide) (backOf (W := 0) (rmIs1 l Z a0 hw [] b_114 u_114 T114.heap O114 Pv_114) hZ106 (hw _ (List.mem_of_getElem? (i := 57) rfl)) (hw _ (List.mem_of_getElem? (i := 50) rfl)) (by decide) (by decide)) q116a q116c (g := (mkF m 171 #[.val (.int len), .val (.int bits), .val (.int (1 : Int32)), .val (.int b0), .val (.int b1), .val (.int b2), .val (.int b3), .val (.ref b101), .val (.ref b_106), .val (.ref b_114), .unset, .unset] [(.ref b_114)])) rfl (by rw [hml]; rfl) (Steps.refl _) (argsL := []) (rest := []) (lenOf pd___Z rfl) rfl (by show 2 * 0 + _ ≤ _; exact Nat.le_of_eq rfl) (hb hby at_171) (fun _ _ => ⟨rfl, rfl, (by decide : 8 + 0 ≤ _), (by decide : 55 + 0 ≤ _)⟩)
  dsimp only [Pt.U, Pt.locs, Pt.cells, Pt.slots] at X116 l116 y116 z116 st116 hQ116
  subst y116 z116
  obtain ⟨rfl, rfl, e116⟩ := hQ116
  have N116 : Fr Z.heap.size L116 := by rw [l116]; exact Fr.app N114 (Fr.nil _)
  refine Go.tr st116 ?_
  show Go p e below _ (T116.setTop (mkF m 174 #[.val (.int len), .val (.int bits), .val (.int (1 : Int32)), .val (.int b0), .val (.int b1), .val (.int b2), .val (.int b3), .val (.ref b101), .val (.ref b_106), .val (.ref b_114), .unset, .unset] [(.int (1 : Int32))]))
  refine Go.st (fun t' k' => XS.ifYes X116.here hx rfl (pc0 := 174) (pc' := 179) rfl (hb hby at_174) rfl ((if0 _ _).trans (feq (by decide : ¬ ((1 : Int32) = (0 : Int32)))).2) (by decide) (by decide) k') ?_
  show Go p e below _ (T116.setTop (mkF m 179 #[.val (.int len), .val (.int bits), .val (.int (1 : Int32)), .val (.int b0), .val (.int b1), .val (.int b2), .val (.int b3), .val (.ref b101), .val (.ref b_106), .val (.ref b_114), .unset, .unset] []))
  refine Go.st (fun t' k' => XS.aload X116.here hx rfl (hb hby at_179) rfl rfl k') ?_
  show Go p e below _ (T116.setTop (mkF m 181 #[.val (.int len), .val (.int bits), .val (.int (1 : Int32)), .val (.int b0), .val (.int b1), .val (.int b2), .val (.int b3), .val (.ref b101), .val (.ref b_106), .val (.ref b_114), .unset, .unset] [(.ref b_114)]))
  obtain ⟨cq117, kq117, q117a, q117b, q117c⟩ := isOf hZ106 e116 Eb_114
  obtain ⟨_, _, ⟨T117, L117, k117, n117⟩, -, X117, ⟨Lc117, hQ117, l117, y117, z117⟩, st117⟩ := X116.virtualBack hx (y := (⟨"java/util/Optional", "get", "()Ljava/lang/Object;"⟩ : MethodName)) (z := (⟨"java/util/Optional", "get", "()Ljava/lang/Object;"⟩ : MethodName)) hown106 (mvT hZ106 (hw _ (List.mem_of_getElem? (i := 94) rfl))) (mvT hZ106 (hw _ (List.mem_of_getElem? (i := 95) rfl))) (notFace_of_selects (args := #[]) (mvT hZ106 (hw _ (List.mem_of_getElem? (i := 97) rfl)))) (mvT hZ106 (hw _ (List.mem_of_getElem? (i := 97) rfl))) (mvT hZ106 (hw _ (List.mem_of_getElem? (i := 96) rfl))) (by decide) (backOf (W := 0) (rmGet l Z a0 hw [] b_114 u_114 T114.heap O114 Pv_114) hZ106 (hw _ (List.mem_of_getElem? (i := 98) rfl)) (hw _ (List.mem_of_getElem? (i := 50) rfl)) (by decide) (by decide)) q117a q117c (g := (mkF m 181 #[.val (.int len), .val (.int bits), .val (.int (1 : Int32)), .val (.int b0), .val (.int b1), .val (.int b2), .val (.int b3), .val (.ref b101), .val (.ref b_106), .val (.ref b_114), .unset, .unset] [(.ref b_114)])) rfl (by rw [hml]; rfl) (Steps.refl _) (argsL := []) (rest := []) (lenOf pd___Ljava_lang_Object_ rfl) rfl (by show 2 * 0 + _ ≤ _; exact Nat.le_of_eq rfl) (hb hby at_181) (fun _ _ => ⟨rfl, e116, (by decide : 8 + 0 ≤ _), (by decide : 55 + 0 ≤ _)⟩)
  dsimp only [Pt.U, Pt.locs, Pt.cells, Pt.slots] at X117 l117 y117 z117 st117 hQ117
  subst y117 z117
  obtain ⟨rfl, rfl, e117⟩ := hQ117
  have N117 : Fr Z.heap.size L117 := by rw [l117]; exact Fr.app N116 (Fr.nil _)
  refine Go.tr st117 ?_
  show Go p e below _ (T117.setTop (mkF m 184 #[.val (.int len), .val (.int bits), .val (.int (1 : Int32)), .val (.int b0), .val (.int b1), .val (.int b2), .val (.int b3), .val (.ref b101), .val (.ref b_106), .val (.ref b_114), .unset, .unset] [(.ref u_114)]))
  obtain ⟨T118, X118, e118, st118⟩ := castY X117 hx hZ106 hown106 (hw _ (List.mem_of_getElem? (i := 99) rfl)) e117 (Ins.self Eu_114) (g := (mkF m 184 #[.val (.int len), .val (.int bits), .val (.int (1 : Int32)), .val (.int b0), .val (.int b1), .val (.int b2), .val (.int b3), .val (.ref b101), .val (.ref b_106), .val (.ref b_114), .unset, .unset] [(.ref u_114)])) rfl rfl (hb hby at_184)
  refine Go.st st118 ?_
  show Go p e below _ (T118.setTop (mkF m 187 #[.val (.int len), .val (.int bits), .val (.int (1 : Int32)), .val (.int b0), .val (.int b1), .val (.int b2), .val (.int b3), .val (.ref b101), .val (.ref b_106), .val (.ref b_114), .unset, .unset] [(.ref u_114)]))
  refine Go.st (fun t' k' => XS.astore X118.here hx rfl (hb hby at_187) rfl rfl (l' := #[.val (.int len), .val (.int bits), .val (.int (1 : Int32)), .val (.int b0), .val (.int b1), .val (.int b2), .val (.int b3), .val (.ref b101), .val (.ref b_106), .val (.ref b_114), .val (.ref u_114), .unset]) rfl k') ?_
  show Go p e below _ (T118.setTop (mkF m 189 #[.val (.int len), .val (.int bits), .val (.int (1 : Int32)), .val (.int b0), .val (.int b1), .val (.int b2), .val (.int b3), .val (.ref b101), .val (.ref b_106), .val (.ref b_114), .val (.ref u_114), .unset] []))
  refine Go.st (fun t' k' => XS.aload X118.here hx rfl (hb hby at_189) rfl rfl k') ?_
  show Go p e below _ (T118.setTop (mkF m 191 #[.val (.int len), .val (.int bits), .val (.int (1 : Int32)), .val (.int b0), .val (.int b1), .val (.int b2), .val (.int b3), .val (.ref b101), .val (.ref b_106), .val (.ref b_114), .val (.ref u_114), .unset] [(.ref u_114)]))
  refine Go.st (fun t' k' => XS.aload X118.here hx rfl (hb hby at_191) rfl rfl k') ?_
  show Go p e below _ (T118.setTop (mkF m 193 #[.val (.int len), .val (.int bits), .val (.int (1 : Int32)), .val (.int b0), .val (.int b1), .val (.int b2), .val (.int b3), .val (.ref b101), .val (.ref b_106), .val (.ref b_114), .val (.ref u_114), .unset] [(.ref b101), (.ref u_114)]))
  refine Go.st (fun t' k' => Jvm.RoadKit.acmp (g := (mkF m 193 #[.val (.int len), .val (.int bits), .val (.int (1 : Int32)), .val (.int b0), .val (.int b1), .val (.int b2), .val (.int b3), .val (.ref b101), .val (.ref b_106), .val (.ref b_114), .val (.ref u_114), .unset] [(.ref b101), (.ref u_114)])) X118 hx rfl rfl rfl (pc0 := 193) (pc' := 198) (same := false) rfl (hb hby at_193) rfl (decide_eq_false fun q => (Ne.symm ne_b101_u_114) (Value.ref.inj q)) (by decide) (by decide) k') ?_
  show Go p e below _ (T118.setTop (mkF m 198 #[.val (.int len), .val (.int bits), .val (.int (1 : Int32)), .val (.int b0), .val (.int b1), .val (.int b2), .val (.int b3), .val (.ref b101), .val (.ref b_106), .val (.ref b_114), .val (.ref u_114), .unset] []))
  refine Go.st (fun t' k' => XS.aload X118.here hx rfl (hb hby at_198) rfl rfl k') ?_
  show Go p e below _ (T118.setTop (mkF m 200 #[.val (.int len), .val (.int bits), .val (.int (1 : Int32)), .val (.int b0), .val (.int b1), .val (.int b2), .val (.int b3), .val (.ref b101), .val (.ref b_106), .val (.ref b_114), .val (.ref u_114), .unset] [(.ref u_114)]))
  refine Go.st (fun t' k' => XS.iloadN X118.here hx rfl (hb hby at_200) rfl k') ?_
  show Go p e below _ (T118.setTop (mkF m 201 #[.val (.int len), .val (.int bits), .val (.int (1 : Int32)), .val (.int b0), .val (.int b1), .val (.int b2), .val (.int b3), .val (.ref b101), .val (.ref b_106), .val (.ref b_114), .val (.ref u_114), .unset] [(.int (1 : Int32)), (.ref u_114)]))
  refine Go.st (fun t' k' => XS.iloadN X118.here hx rfl (hb hby at_201) rfl k') ?_
  show Go p e below _ (T118.setTop (mkF m 202 #[.val (.int len), .val (.int bits), .val (.int (1 : Int32)), .val (.int b0), .val (.int b1), .val (.int b2), .val (.int b3), .val (.ref b101), .val (.ref b_106), .val (.ref b_114), .val (.ref u_114), .unset] [(.int b0), (.int (1 : Int32)), (.ref u_114)]))
  refine Go.st (fun t' k' => XS.iload X118.here hx rfl (hb hby at_202) rfl k') ?_
  show Go p e below _ (T118.setTop (mkF m 204 #[.val (.int len), .val (.int bits), .val (.int (1 : Int32)), .val (.int b0), .val (.int b1), .val (.int b2), .val (.int b3), .val (.ref b101), .val (.ref b_106), .val (.ref b_114), .val (.ref u_114), .unset] [(.int b1), (.int b0), (.int (1 : Int32)), (.ref u_114)]))
  refine Go.st (fun t' k' => XS.iload X118.here hx rfl (hb hby at_204) rfl k') ?_
  show Go p e below _ (T118.setTop (mkF m 206 #[.val (.int len), .val (.int bits), .val (.int (1 : Int32)), .val (.int b0), .val (.int b1), .val (.int b2), .val (.int b3), .val (.ref b101), .val (.ref b_106), .val (.ref b_114), .val (.ref u_114), .unset] [(.int b2), (.int b1), (.int b0), (.int (1 : Int32)), (.ref u_114)]))
  refine Go.st (fun t' k' => XS.iload X118.here hx rfl (hb hby at_206) rfl k') ?_
  show Go p e below _ (T118.setTop (mkF m 208 #[.val (.int len), .val (.int bits), .val (.int (1 : Int32)), .val (.int b0), .val (.int b1), .val (.int b2), .val (.int b3), .val (.ref b101), .val (.ref b_106), .val (.ref b_114), .val (.ref u_114), .unset] [(.int b3), (.int b2), (.int b1), (.int b0), (.int (1 : Int32)), (.ref u_114)]))
  obtain ⟨_, _, ⟨T119, L119, k119, n119⟩, -, X119, ⟨Lc119, hQ119, l119, y119, z119⟩, st119⟩ := Jvm.LawKit.callS X118 hx (y := (⟨"com/example/claim/claim/model/VerificationResultAcceptedPinLaw", "same", "([BIBBBB)Z"⟩ : MethodName)) hown106 (mvT hZ106 (hw _ (List.mem_of_getElem? (i := 100) rfl))) (mvT hZ106 (hw _ (List.mem_of_getElem? (i := 101) rfl))) (mvT hZ106 (hw _ (List.mem_of_getElem? (i := 102) rfl))) (mvT hZ106 (hw _ (List.mem_of_getElem? (i := 103) rfl))) (by decide) (backOf (W := 0) (rmSm1 l Z a0 hw [] u_114 b0 b1 b2 b3 k101 T114.heap O114 Au_114) hZ106 (hw _ (List.mem_of_getElem? (i := 103) rfl)) (hw _ (List.mem_of_getElem? (i := 102) rfl)) (by decide) (by decide)) (g := (mkF m 208 #[.val (.int len), .val (.int bits), .val (.int (1 : Int32)), .val (.int b0), .val (.int b1), .val (.int b2), .val (.int b3), .val (.ref b101), .val (.ref b_106), .val (.ref b_114), .val (.ref u_114), .unset] [(.int b3), (.int b2), (.int b1), (.int b0), (.int (1 : Int32)), (.ref u_114)])) rfl (by rw [hml]; rfl) (argsL := [(.ref u_114), (.int (1 : Int32)), (.int b0), (.int b1), (.int b2), (.int b3)]) (rest := []) (lenOf pd___BIBBBB_Z rfl) rfl (by show 2 * 0 + _ ≤ _; exact Nat.le_of_eq rfl) (hb hby at_208) (fun _ _ => ⟨rfl, e118, (by decide : 8 + 0 ≤ _), (by decide : 55 + 0 ≤ _)⟩)
  dsimp only [Pt.U, Pt.locs, Pt.cells, Pt.slots] at X119 l119 y119 z119 st119 hQ119
  subst y119 z119
  obtain ⟨rfl, rfl, e119⟩ := hQ119
  have N119 : Fr Z.heap.size L119 := by rw [l119]; exact Fr.app N117 (Fr.nil _)
  refine Go.st st119 ?_
  show Go p e below _ (T119.setTop (mkF m 211 #[.val (.int len), .val (.int bits), .val (.int (1 : Int32)), .val (.int b0), .val (.int b1), .val (.int b2), .val (.int b3), .val (.ref b101), .val (.ref b_106), .val (.ref b_114), .val (.ref u_114), .unset] [(.int (1 : Int32))]))
  refine Go.st (fun t' k' => XS.ifYes X119.here hx rfl (pc0 := 211) (pc' := 216) rfl (hb hby at_211) rfl ((if0 _ _).trans (feq (by decide : ¬ ((1 : Int32) = (0 : Int32)))).2) (by decide) (by decide) k') ?_
  show Go p e below _ (T119.setTop (mkF m 216 #[.val (.int len), .val (.int bits), .val (.int (1 : Int32)), .val (.int b0), .val (.int b1), .val (.int b2), .val (.int b3), .val (.ref b101), .val (.ref b_106), .val (.ref b_114), .val (.ref u_114), .unset] []))
  refine Go.st (fun t' k' => XS.iloadN X119.here hx rfl (hb hby at_216) rfl k') ?_
  show Go p e below _ (T119.setTop (mkF m 217 #[.val (.int len), .val (.int bits), .val (.int (1 : Int32)), .val (.int b0), .val (.int b1), .val (.int b2), .val (.int b3), .val (.ref b101), .val (.ref b_106), .val (.ref b_114), .val (.ref u_114), .unset] [(.int (1 : Int32))]))
  refine Go.st (fun t' k' => XS.ifNo X119.here hx rfl (hb hby at_217) rfl ((if0 _ _).trans (tlt (by decide : (0 : Int32) < (1 : Int32))).2.2.2) k') ?_
  show Go p e below _ (T119.setTop (mkF m 220 #[.val (.int len), .val (.int bits), .val (.int (1 : Int32)), .val (.int b0), .val (.int b1), .val (.int b2), .val (.int b3), .val (.ref b101), .val (.ref b_106), .val (.ref b_114), .val (.ref u_114), .unset] []))
  refine Go.st (fun t' k' => XS.aload X119.here hx rfl (hb hby at_220) rfl rfl k') ?_
  show Go p e below _ (T119.setTop (mkF m 222 #[.val (.int len), .val (.int bits), .val (.int (1 : Int32)), .val (.int b0), .val (.int b1), .val (.int b2), .val (.int b3), .val (.ref b101), .val (.ref b_106), .val (.ref b_114), .val (.ref u_114), .unset] [(.ref u_114)]))
  refine Go.st (fun t' k' => XS.iconst X119.here hx rfl (hb hby at_222) k') ?_
  show Go p e below _ (T119.setTop (mkF m 223 #[.val (.int len), .val (.int bits), .val (.int (1 : Int32)), .val (.int b0), .val (.int b1), .val (.int b2), .val (.int b3), .val (.ref b101), .val (.ref b_106), .val (.ref b_114), .val (.ref u_114), .unset] [(.int (0 : Int32)), (.ref u_114)]))
  refine Go.st (fun t' k' => XS.iloadN X119.here hx rfl (hb hby at_223) rfl k') ?_
  show Go p e below _ (T119.setTop (mkF m 224 #[.val (.int len), .val (.int bits), .val (.int (1 : Int32)), .val (.int b0), .val (.int b1), .val (.int b2), .val (.int b3), .val (.ref b101), .val (.ref b_106), .val (.ref b_114), .val (.ref u_114), .unset] [(.int b0), (.int (0 : Int32)), (.ref u_114)]))
  refine Go.st (fun t' k' => XS.iconst X119.here hx rfl (hb hby at_224) k') ?_
  show Go p e below _ (T119.setTop (mkF m 225 #[.val (.int len), .val (.int bits), .val (.int (1 : Int32)), .val (.int b0), .val (.int b1), .val (.int b2), .val (.int b3), .val (.ref b101), .val (.ref b_106), .val (.ref b_114), .val (.ref u_114), .unset] [(.int (-1 : Int32)), (.int b0), (.int (0 : Int32)), (.ref u_114)]))
  refine Go.st (fun t' k' => XS.ixor X119.here hx rfl (hb hby at_225) rfl k') ?_
  show Go p e below _ (T119.setTop (mkF m 226 #[.val (.int len), .val (.int bits), .val (.int (1 : Int32)), .val (.int b0), .val (.int b1), .val (.int b2), .val (.int b3), .val (.ref b101), .val (.ref b_106), .val (.ref b_114), .val (.ref u_114), .unset] [(.int (b0 ^^^ (-1 : Int32))), (.int (0 : Int32)), (.ref u_114)]))
  refine Go.st (fun t' k' => XS.i2b X119.here hx rfl (hb hby at_226) rfl k') ?_
  show Go p e below _ (T119.setTop (mkF m 227 #[.val (.int len), .val (.int bits), .val (.int (1 : Int32)), .val (.int b0), .val (.int b1), .val (.int b2), .val (.int b3), .val (.ref b101), .val (.ref b_106), .val (.ref b_114), .val (.ref u_114), .unset] [(.int ((b0 ^^^ (-1 : Int32)).toInt8.toInt32)), (.int (0 : Int32)), (.ref u_114)]))
  obtain ⟨cls120, Ars120, qs120, Szs120, Nzs120, Hss120, Gss120⟩ := (id Au_114)
  have hins120 : ¬ ((0 : Int32) < 0 ∨ cls120.slots.size ≤ ((0 : Int32)).toNatClampNeg) := inb_of Szs120 ⟨by decide, by decide⟩
  obtain ⟨T121, h121, X121, e121, W121, st121⟩ := stB X119 hx hZ106 e119 Ars120 (j := (0 : Int32)) hins120 (g := (mkF m 227 #[.val (.int len), .val (.int bits), .val (.int (1 : Int32)), .val (.int b0), .val (.int b1), .val (.int b2), .val (.int b3), .val (.ref b101), .val (.ref b_106), .val (.ref b_114), .val (.ref u_114), .unset] [(.int ((b0 ^^^ (-1 : Int32)).toInt8.toInt32)), (.int (0 : Int32)), (.ref u_114)])) rfl rfl (hb hby at_227)
  refine Go.st st121 ?_
  have V_u_114_121 : Arv Z h121 u_114 k101 .byte (1 : Int32) [(.int ((b0 ^^^ (-1 : Int32)).toInt8.toInt32).toInt8.toInt32)] (.int (0 : Int32)) := own_set (vs := [(.int b0)]) (v' := (.int ((b0 ^^^ (-1 : Int32)).toInt8.toInt32).toInt8.toInt32)) Ars120 qs120 Szs120 Nzs120 Hss120 Gss120 (fits_nar_byte _) W121 0 rfl (Nat.le_of_ble_eq_true rfl) rfl rfl
  have Q101_h122 := Q101_h115.wr W121
  have Eb_106_h122 := Eb_106_h115.wr W121
  have Pp_106_h122 := Pp_106_h115.other W121 (Or.inl ne_b_106_u_114)
  have Pq_106_h122 := Pq_106_h115.other W121 (Or.inl ne_b_106_u_114)
  have Eq__106_h122 := Eq__106_h115.wr W121
  have Aq_106_h122 := Aq_106_h115.other W121 ne_q_106_u_114
  have V_b101_109_h122 := V_b101_109_h115.other W121 ne_b101_u_114
  have Eb_114_h122 := Eb_114.wr W121
  have Pv_114_h122 := Pv_114.other W121 (Or.inl Nbu_114)
  have Eu_114_h122 := Eu_114.wr W121
  have hk121 := Nat.le_trans hk114 (Keep.of_wr W121).1
  have O121 := own_ext_wr O114 W121 Gu_114
  have N121 := Fr.snoc X121 N119 Gu_114
  show Go p e below _ (T121.setTop (mkF m 228 #[.val (.int len), .val (.int bits), .val (.int (1 : Int32)), .val (.int b0), .val (.int b1), .val (.int b2), .val (.int b3), .val (.ref b101), .val (.ref b_106), .val (.ref b_114), .val (.ref u_114), .unset] []))
  refine Go.st (fun t' k' => XS.iloadN X121.here hx rfl (hb hby at_228) rfl k') ?_
  show Go p e below _ (T121.setTop (mkF m 229 #[.val (.int len), .val (.int bits), .val (.int (1 : Int32)), .val (.int b0), .val (.int b1), .val (.int b2), .val (.int b3), .val (.ref b101), .val (.ref b_106), .val (.ref b_114), .val (.ref u_114), .unset] [(.int (1 : Int32))]))
  refine Go.st (fun t' k' => XS.iconst X121.here hx rfl (hb hby at_229) k') ?_
  show Go p e below _ (T121.setTop (mkF m 230 #[.val (.int len), .val (.int bits), .val (.int (1 : Int32)), .val (.int b0), .val (.int b1), .val (.int b2), .val (.int b3), .val (.ref b101), .val (.ref b_106), .val (.ref b_114), .val (.ref u_114), .unset] [(.int (1 : Int32)), (.int (1 : Int32))]))
  refine Go.st (fun t' k' => XS.icmpYes X121.here hx rfl (pc0 := 230) (pc' := 242) rfl (hb hby at_230) rfl (flt (by decide : ¬ ((1 : Int32) < (1 : Int32)))).2.2.2 (by decide) (by decide) k') ?_
  show Go p e below _ (T121.setTop (mkF m 242 #[.val (.int len), .val (.int bits), .val (.int (1 : Int32)), .val (.int b0), .val (.int b1), .val (.int b2), .val (.int b3), .val (.ref b101), .val (.ref b_106), .val (.ref b_114), .val (.ref u_114), .unset] []))
  refine Go.st (fun t' k' => XS.iloadN X121.here hx rfl (hb hby at_242) rfl k') ?_
  show Go p e below _ (T121.setTop (mkF m 243 #[.val (.int len), .val (.int bits), .val (.int (1 : Int32)), .val (.int b0), .val (.int b1), .val (.int b2), .val (.int b3), .val (.ref b101), .val (.ref b_106), .val (.ref b_114), .val (.ref u_114), .unset] [(.int (1 : Int32))]))
  refine Go.st (fun t' k' => XS.iconst X121.here hx rfl (hb hby at_243) k') ?_
  show Go p e below _ (T121.setTop (mkF m 244 #[.val (.int len), .val (.int bits), .val (.int (1 : Int32)), .val (.int b0), .val (.int b1), .val (.int b2), .val (.int b3), .val (.ref b101), .val (.ref b_106), .val (.ref b_114), .val (.ref u_114), .unset] [(.int (2 : Int32)), (.int (1 : Int32))]))
  refine Go.st (fun t' k' => XS.icmpYes X121.here hx rfl (pc0 := 244) (pc' := 256) rfl (hb hby at_244) rfl (flt (by decide : ¬ ((2 : Int32) < (1 : Int32)))).2.2.2 (by decide) (by decide) k') ?_
  show Go p e below _ (T121.setTop (mkF m 256 #[.val (.int len), .val (.int bits), .val (.int (1 : Int32)), .val (.int b0), .val (.int b1), .val (.int b2), .val (.int b3), .val (.ref b101), .val (.ref b_106), .val (.ref b_114), .val (.ref u_114), .unset] []))
  refine Go.st (fun t' k' => XS.iloadN X121.here hx rfl (hb hby at_256) rfl k') ?_
  show Go p e below _ (T121.setTop (mkF m 257 #[.val (.int len), .val (.int bits), .val (.int (1 : Int32)), .val (.int b0), .val (.int b1), .val (.int b2), .val (.int b3), .val (.ref b101), .val (.ref b_106), .val (.ref b_114), .val (.ref u_114), .unset] [(.int (1 : Int32))]))
  refine Go.st (fun t' k' => XS.iconst X121.here hx rfl (hb hby at_257) k') ?_
  show Go p e below _ (T121.setTop (mkF m 258 #[.val (.int len), .val (.int bits), .val (.int (1 : Int32)), .val (.int b0), .val (.int b1), .val (.int b2), .val (.int b3), .val (.ref b101), .val (.ref b_106), .val (.ref b_114), .val (.ref u_114), .unset] [(.int (3 : Int32)), (.int (1 : Int32))]))
  refine Go.st (fun t' k' => XS.icmpYes X121.here hx rfl (pc0 := 258) (pc' := 270) rfl (hb hby at_258) rfl (flt (by decide : ¬ ((3 : Int32) < (1 : Int32)))).2.2.2 (by decide) (by decide) k') ?_
  show Go p e below _ (T121.setTop (mkF m 270 #[.val (.int len), .val (.int bits), .val (.int (1 : Int32)), .val (.int b0), .val (.int b1), .val (.int b2), .val (.int b3), .val (.ref b101), .val (.ref b_106), .val (.ref b_114), .val (.ref u_114), .unset] []))
  refine Go.st (fun t' k' => XS.aload X121.here hx rfl (hb hby at_270) rfl rfl k') ?_
  show Go p e below _ (T121.setTop (mkF m 272 #[.val (.int len), .val (.int bits), .val (.int (1 : Int32)), .val (.int b0), .val (.int b1), .val (.int b2), .val (.int b3), .val (.ref b101), .val (.ref b_106), .val (.ref b_114), .val (.ref u_114), .unset] [(.ref b_106)]))
  obtain ⟨cq123, kq123, q123a, q123b, q123c⟩ := isOf hZ106 e121 Eb_106_h122
  obtain ⟨_, _, ⟨T123, L123, k123, n123⟩, -, X123, ⟨Lc123, hQ123, l123, y123, z123⟩, st123⟩ := X121.virtualBack hx (y := (⟨"com/example/claim/claim/model/VerificationResult", "payload", "()Ljava/util/Optional;"⟩ : MethodName)) (z := (⟨"com/example/claim/claim/model/VerificationResult", "payload", "()Ljava/util/Optional;"⟩ : MethodName)) hown106 (mvT hZ106 (hw _ (List.mem_of_getElem? (i := 60) rfl))) (mvT hZ106 (hw _ (List.mem_of_getElem? (i := 61) rfl))) (notFace_of_selects (args := #[]) (mvT hZ106 (hw _ (List.mem_of_getElem? (i := 63) rfl)))) (mvT hZ106 (hw _ (List.mem_of_getElem? (i := 63) rfl))) (mvT hZ106 (hw _ (List.mem_of_getElem? (i := 62) rfl))) (by decide) (backOf (W := 0) (rmPl l Z a0 hw [] b_106 q_106 k101 ((1 : Int32)) ([(.int b0)]) h121 O121 Pp_106_h122 Eq__106_h122 Aq_106_h122 (by decide)) hZ106 (hw _ (List.mem_of_getElem? (i := 64) rfl)) (hw _ (List.mem_of_getElem? (i := 4) rfl)) (by decide) (by decide)) q123a q123c (g := (mkF m 272 #[.val (.int len), .val (.int bits), .val (.int (1 : Int32)), .val (.int b0), .val (.int b1), .val (.int b2), .val (.int b3), .val (.ref b101), .val (.ref b_106), .val (.ref b_114), .val (.ref u_114), .unset] [(.ref b_106)])) rfl (by rw [hml]; rfl) (Steps.refl _) (argsL := []) (rest := []) (lenOf pd___Ljava_util_Optional_ rfl) rfl (by show 2 * 0 + _ ≤ _; exact Nat.le_of_eq rfl) (hb hby at_272) (fun _ _ => ⟨rfl, e121, (by decide : 8 + 3 ≤ _), (by decide : 55 + 6 ≤ _)⟩)
  dsimp only [Pt.U, Pt.locs, Pt.cells, Pt.slots] at X123 l123 y123 z123 st123 hQ123
  subst y123 z123
  obtain ⟨b_123, u_123, rfl, N123q, O123, Kc123, Eb_123, Pv_123, Eu_123, Au_123, Gb_123, Gu_123, Sb_123, Su_123, Nbu_123⟩ := hQ123
  have N123 : Fr Z.heap.size L123 := by rw [l123]; exact Fr.app N121 N123q
  refine Go.tr st123 ?_
  have hk123 := Nat.le_trans hk121 Kc123.1
  have Q101_h124 := Q101_h122.keep Kc123
  have Eb_106_h124 := Eb_106_h122.keep Kc123
  have Pp_106_h124 := Pp_106_h122.keep Kc123 nin0
  have Pq_106_h124 := Pq_106_h122.keep Kc123 nin0
  have Eq__106_h124 := Eq__106_h122.keep Kc123
  have Aq_106_h124 := Aq_106_h122.keep Kc123 nin0
  have V_b101_109_h124 := V_b101_109_h122.keep Kc123 nin0
  have Eb_114_h124 := Eb_114_h122.keep Kc123
  have Pv_114_h124 := Pv_114_h122.keep Kc123 nin0
  have Eu_114_h124 := Eu_114_h122.keep Kc123
  have V_u_114_121_h124 := V_u_114_121.keep Kc123 nin0
  have ne_w_EMPTY_b_123 : w_EMPTY ≠ b_123 := Nat.ne_of_lt (Nat.lt_of_lt_of_le (E_EMPTY.ext O121).lt Sb_123)
  have ne_b101_b_123 : b101 ≠ b_123 := Nat.ne_of_lt (Nat.lt_of_lt_of_le Q101_h122.lt Sb_123)
  have ne_b_106_b_123 : b_106 ≠ b_123 := Nat.ne_of_lt (Nat.lt_of_lt_of_le Eb_106_h122.lt Sb_123)
  have ne_q_106_b_123 : q_106 ≠ b_123 := Nat.ne_of_lt (Nat.lt_of_lt_of_le Eq__106_h122.lt Sb_123)
  have ne_b_114_b_123 : b_114 ≠ b_123 := Nat.ne_of_lt (Nat.lt_of_lt_of_le Eb_114_h122.lt Sb_123)
  have ne_u_114_b_123 : u_114 ≠ b_123 := Nat.ne_of_lt (Nat.lt_of_lt_of_le Eu_114_h122.lt Sb_123)
  have ne_w_EMPTY_u_123 : w_EMPTY ≠ u_123 := Nat.ne_of_lt (Nat.lt_of_lt_of_le (E_EMPTY.ext O121).lt Su_123)
  have ne_b101_u_123 : b101 ≠ u_123 := Nat.ne_of_lt (Nat.lt_of_lt_of_le Q101_h122.lt Su_123)
  have ne_b_106_u_123 : b_106 ≠ u_123 := Nat.ne_of_lt (Nat.lt_of_lt_of_le Eb_106_h122.lt Su_123)
  have ne_q_106_u_123 : q_106 ≠ u_123 := Nat.ne_of_lt (Nat.lt_of_lt_of_le Eq__106_h122.lt Su_123)
  have ne_b_114_u_123 : b_114 ≠ u_123 := Nat.ne_of_lt (Nat.lt_of_lt_of_le Eb_114_h122.lt Su_123)
  have ne_u_114_u_123 : u_114 ≠ u_123 := Nat.ne_of_lt (Nat.lt_of_lt_of_le Eu_114_h122.lt Su_123)
  show Go p e below _ (T123.setTop (mkF m 275 #[.val (.int len), .val (.int bits), .val (.int (1 : Int32)), .val (.int b0), .val (.int b1), .val (.int b2), .val (.int b3), .val (.ref b101), .val (.ref b_106), .val (.ref b_114), .val (.ref u_114), .unset] [(.ref b_123)]))
  refine Go.st (fun t' k' => XS.astore X123.here hx rfl (hb hby at_275) rfl rfl (l' := #[.val (.int len), .val (.int bits), .val (.int (1 : Int32)), .val (.int b0), .val (.int b1), .val (.int b2), .val (.int b3), .val (.ref b101), .val (.ref b_106), .val (.ref b_114), .val (.ref u_114), .val (.ref b_123)]) rfl k') ?_
  show Go p e below _ (T123.setTop (mkF m 277 #[.val (.int len), .val (.int bits), .val (.int (1 : Int32)), .val (.int b0), .val (.int b1), .val (.int b2), .val (.int b3), .val (.ref b101), .val (.ref b_106), .val (.ref b_114), .val (.ref u_114), .val (.ref b_123)] []))
  refine Go.st (fun t' k' => XS.aload X123.here hx rfl (hb hby at_277) rfl rfl k') ?_
  show Go p e below _ (T123.setTop (mkF m 279 #[.val (.int len), .val (.int bits), .val (.int (1 : Int32)), .val (.int b0), .val (.int b1), .val (.int b2), .val (.int b3), .val (.ref b101), .val (.ref b_106), .val (.ref b_114), .val (.ref u_114), .val (.ref b_123)] [(.ref b_123)]))
  obtain ⟨cq125, kq125, q125a, q125b, q125c⟩ := isOf hZ106 rfl Eb_123
  obtain ⟨_, _, ⟨T125, L125, k125, n125⟩, -, X125, ⟨Lc125, hQ125, l125, y125, z125⟩, st125⟩ := X123.virtualBack hx (y := (⟨"java/util/Optional", "isPresent", "()Z"⟩ : MethodName)) (z := (⟨"java/util/Optional", "isPresent", "()Z"⟩ : MethodName)) hown106 (mvT hZ106 (hw _ (List.mem_of_getElem? (i := 53) rfl))) (mvT hZ106 (hw _ (List.mem_of_getElem? (i := 54) rfl))) (notFace_of_selects (args := #[]) (mvT hZ106 (hw _ (List.mem_of_getElem? (i := 56) rfl)))) (mvT hZ106 (hw _ (List.mem_of_getElem? (i := 56) rfl))) (mvT hZ106 (hw _ (List.mem_of_getElem? (i := 55) rfl))) (by decide) (backOf (W := 0) (rmIs1 l Z a0 hw [] b_123 u_123 T123.heap O123 Pv_123) hZ106 (hw _ (List.mem_of_getElem? (i := 57) rfl)) (hw _ (List.mem_of_getElem? (i := 50) rfl)) (by decide) (by decide)) q125a q125c (g := (mkF m 279 #[.val (.int len), .val (.int bits), .val (.int (1 : Int32)), .val (.int b0), .val (.int b1), .val (.int b2), .val (.int b3), .val (.ref b101), .val (.ref b_106), .val (.ref b_114), .val (.ref u_114), .val (.ref b_123)] [(.ref b_123)])) rfl (by rw [hml]; rfl) (Steps.refl _) (argsL := []) (rest := []) (lenOf pd___Z rfl) rfl (by show 2 * 0 + _ ≤ _; exact Nat.le_of_eq rfl) (hb hby at_279) (fun _ _ => ⟨rfl, rfl, (by decide : 11 + 0 ≤ _), (by decide : 61 + 0 ≤ _)⟩)
  dsimp only [Pt.U, Pt.locs, Pt.cells, Pt.slots] at X125 l125 y125 z125 st125 hQ125
  subst y125 z125
  obtain ⟨rfl, rfl, e125⟩ := hQ125
  have N125 : Fr Z.heap.size L125 := by rw [l125]; exact Fr.app N123 (Fr.nil _)
  refine Go.tr st125 ?_
  show Go p e below _ (T125.setTop (mkF m 282 #[.val (.int len), .val (.int bits), .val (.int (1 : Int32)), .val (.int b0), .val (.int b1), .val (.int b2), .val (.int b3), .val (.ref b101), .val (.ref b_106), .val (.ref b_114), .val (.ref u_114), .val (.ref b_123)] [(.int (1 : Int32))]))
  refine Go.st (fun t' k' => XS.ifYes X125.here hx rfl (pc0 := 282) (pc' := 287) rfl (hb hby at_282) rfl ((if0 _ _).trans (feq (by decide : ¬ ((1 : Int32) = (0 : Int32)))).2) (by decide) (by decide) k') ?_
  show Go p e below _ (T125.setTop (mkF m 287 #[.val (.int len), .val (.int bits), .val (.int (1 : Int32)), .val (.int b0), .val (.int b1), .val (.int b2), .val (.int b3), .val (.ref b101), .val (.ref b_106), .val (.ref b_114), .val (.ref u_114), .val (.ref b_123)] []))
  refine Go.st (fun t' k' => XS.aload X125.here hx rfl (hb hby at_287) rfl rfl k') ?_
  show Go p e below _ (T125.setTop (mkF m 289 #[.val (.int len), .val (.int bits), .val (.int (1 : Int32)), .val (.int b0), .val (.int b1), .val (.int b2), .val (.int b3), .val (.ref b101), .val (.ref b_106), .val (.ref b_114), .val (.ref u_114), .val (.ref b_123)] [(.ref b_123)]))
  obtain ⟨cq126, kq126, q126a, q126b, q126c⟩ := isOf hZ106 e125 Eb_123
  obtain ⟨_, _, ⟨T126, L126, k126, n126⟩, -, X126, ⟨Lc126, hQ126, l126, y126, z126⟩, st126⟩ := X125.virtualBack hx (y := (⟨"java/util/Optional", "get", "()Ljava/lang/Object;"⟩ : MethodName)) (z := (⟨"java/util/Optional", "get", "()Ljava/lang/Object;"⟩ : MethodName)) hown106 (mvT hZ106 (hw _ (List.mem_of_getElem? (i := 94) rfl))) (mvT hZ106 (hw _ (List.mem_of_getElem? (i := 95) rfl))) (notFace_of_selects (args := #[]) (mvT hZ106 (hw _ (List.mem_of_getElem? (i := 97) rfl)))) (mvT hZ106 (hw _ (List.mem_of_getElem? (i := 97) rfl))) (mvT hZ106 (hw _ (List.mem_of_getElem? (i := 96) rfl))) (by decide) (backOf (W := 0) (rmGet l Z a0 hw [] b_123 u_123 T123.heap O123 Pv_123) hZ106 (hw _ (List.mem_of_getElem? (i := 98) rfl)) (hw _ (List.mem_of_getElem? (i := 50) rfl)) (by decide) (by decide)) q126a q126c (g := (mkF m 289 #[.val (.int len), .val (.int bits), .val (.int (1 : Int32)), .val (.int b0), .val (.int b1), .val (.int b2), .val (.int b3), .val (.ref b101), .val (.ref b_106), .val (.ref b_114), .val (.ref u_114), .val (.ref b_123)] [(.ref b_123)])) rfl (by rw [hml]; rfl) (Steps.refl _) (argsL := []) (rest := []) (lenOf pd___Ljava_lang_Object_ rfl) rfl (by show 2 * 0 + _ ≤ _; exact Nat.le_of_eq rfl) (hb hby at_289) (fun _ _ => ⟨rfl, e125, (by decide : 11 + 0 ≤ _), (by decide : 61 + 0 ≤ _)⟩)
  dsimp only [Pt.U, Pt.locs, Pt.cells, Pt.slots] at X126 l126 y126 z126 st126 hQ126
  subst y126 z126
  obtain ⟨rfl, rfl, e126⟩ := hQ126
  have N126 : Fr Z.heap.size L126 := by rw [l126]; exact Fr.app N125 (Fr.nil _)
  refine Go.tr st126 ?_
  show Go p e below _ (T126.setTop (mkF m 292 #[.val (.int len), .val (.int bits), .val (.int (1 : Int32)), .val (.int b0), .val (.int b1), .val (.int b2), .val (.int b3), .val (.ref b101), .val (.ref b_106), .val (.ref b_114), .val (.ref u_114), .val (.ref b_123)] [(.ref u_123)]))
  obtain ⟨T127, X127, e127, st127⟩ := castY X126 hx hZ106 hown106 (hw _ (List.mem_of_getElem? (i := 99) rfl)) e126 (Ins.self Eu_123) (g := (mkF m 292 #[.val (.int len), .val (.int bits), .val (.int (1 : Int32)), .val (.int b0), .val (.int b1), .val (.int b2), .val (.int b3), .val (.ref b101), .val (.ref b_106), .val (.ref b_114), .val (.ref u_114), .val (.ref b_123)] [(.ref u_123)])) rfl rfl (hb hby at_292)
  refine Go.st st127 ?_
  show Go p e below _ (T127.setTop (mkF m 295 #[.val (.int len), .val (.int bits), .val (.int (1 : Int32)), .val (.int b0), .val (.int b1), .val (.int b2), .val (.int b3), .val (.ref b101), .val (.ref b_106), .val (.ref b_114), .val (.ref u_114), .val (.ref b_123)] [(.ref u_123)]))
  refine Go.st (fun t' k' => XS.iloadN X127.here hx rfl (hb hby at_295) rfl k') ?_
  show Go p e below _ (T127.setTop (mkF m 296 #[.val (.int len), .val (.int bits), .val (.int (1 : Int32)), .val (.int b0), .val (.int b1), .val (.int b2), .val (.int b3), .val (.ref b101), .val (.ref b_106), .val (.ref b_114), .val (.ref u_114), .val (.ref b_123)] [(.int (1 : Int32)), (.ref u_123)]))
  refine Go.st (fun t' k' => XS.iloadN X127.here hx rfl (hb hby at_296) rfl k') ?_
  show Go p e below _ (T127.setTop (mkF m 297 #[.val (.int len), .val (.int bits), .val (.int (1 : Int32)), .val (.int b0), .val (.int b1), .val (.int b2), .val (.int b3), .val (.ref b101), .val (.ref b_106), .val (.ref b_114), .val (.ref u_114), .val (.ref b_123)] [(.int b0), (.int (1 : Int32)), (.ref u_123)]))
  refine Go.st (fun t' k' => XS.iload X127.here hx rfl (hb hby at_297) rfl k') ?_
  show Go p e below _ (T127.setTop (mkF m 299 #[.val (.int len), .val (.int bits), .val (.int (1 : Int32)), .val (.int b0), .val (.int b1), .val (.int b2), .val (.int b3), .val (.ref b101), .val (.ref b_106), .val (.ref b_114), .val (.ref u_114), .val (.ref b_123)] [(.int b1), (.int b0), (.int (1 : Int32)), (.ref u_123)]))
  refine Go.st (fun t' k' => XS.iload X127.here hx rfl (hb hby at_299) rfl k') ?_
  show Go p e below _ (T127.setTop (mkF m 301 #[.val (.int len), .val (.int bits), .val (.int (1 : Int32)), .val (.int b0), .val (.int b1), .val (.int b2), .val (.int b3), .val (.ref b101), .val (.ref b_106), .val (.ref b_114), .val (.ref u_114), .val (.ref b_123)] [(.int b2), (.int b1), (.int b0), (.int (1 : Int32)), (.ref u_123)]))
  refine Go.st (fun t' k' => XS.iload X127.here hx rfl (hb hby at_301) rfl k') ?_
  show Go p e below _ (T127.setTop (mkF m 303 #[.val (.int len), .val (.int bits), .val (.int (1 : Int32)), .val (.int b0), .val (.int b1), .val (.int b2), .val (.int b3), .val (.ref b101), .val (.ref b_106), .val (.ref b_114), .val (.ref u_114), .val (.ref b_123)] [(.int b3), (.int b2), (.int b1), (.int b0), (.int (1 : Int32)), (.ref u_123)]))
  obtain ⟨_, _, ⟨T128, L128, k128, n128⟩, -, X128, ⟨Lc128, hQ128, l128, y128, z128⟩, st128⟩ := Jvm.LawKit.callS X127 hx (y := (⟨"com/example/claim/claim/model/VerificationResultAcceptedPinLaw", "same", "([BIBBBB)Z"⟩ : MethodName)) hown106 (mvT hZ106 (hw _ (List.mem_of_getElem? (i := 100) rfl))) (mvT hZ106 (hw _ (List.mem_of_getElem? (i := 101) rfl))) (mvT hZ106 (hw _ (List.mem_of_getElem? (i := 102) rfl))) (mvT hZ106 (hw _ (List.mem_of_getElem? (i := 103) rfl))) (by decide) (backOf (W := 0) (rmSm1 l Z a0 hw [] u_123 b0 b1 b2 b3 k101 T123.heap O123 Au_123) hZ106 (hw _ (List.mem_of_getElem? (i := 103) rfl)) (hw _ (List.mem_of_getElem? (i := 102) rfl)) (by decide) (by decide)) (g := (mkF m 303 #[.val (.int len), .val (.int bits), .val (.int (1 : Int32)), .val (.int b0), .val (.int b1), .val (.int b2), .val (.int b3), .val (.ref b101), .val (.ref b_106), .val (.ref b_114), .val (.ref u_114), .val (.ref b_123)] [(.int b3), (.int b2), (.int b1), (.int b0), (.int (1 : Int32)), (.ref u_123)])) rfl (by rw [hml]; rfl) (argsL := [(.ref u_123), (.int (1 : Int32)), (.int b0), (.int b1), (.int b2), (.int b3)]) (rest := []) (lenOf pd___BIBBBB_Z rfl) rfl (by show 2 * 0 + _ ≤ _; exact Nat.le_of_eq rfl) (hb hby at_303) (fun _ _ => ⟨rfl, e127, (by decide : 11 + 0 ≤ _), (by decide : 61 + 0 ≤ _)⟩)
  dsimp only [Pt.U, Pt.locs, Pt.cells, Pt.slots] at X128 l128 y128 z128 st128 hQ128
  subst y128 z128
  obtain ⟨rfl, rfl, e128⟩ := hQ128
  have N128 : Fr Z.heap.size L128 := by rw [l128]; exact Fr.app N126 (Fr.nil _)
  refine Go.st st128 ?_
  show Go p e below _ (T128.setTop (mkF m 306 #[.val (.int len), .val (.int bits), .val (.int (1 : Int32)), .val (.int b0), .val (.int b1), .val (.int b2), .val (.int b3), .val (.ref b101), .val (.ref b_106), .val (.ref b_114), .val (.ref u_114), .val (.ref b_123)] [(.int (1 : Int32))]))
  exact Go.outW X128 hS106 (by rw [e128]; exact hk123) (v := (some (.int (1 : Int32)))) (fun h => by rw [hret] at h; cases h) hlk (fun fs hr => retN X128 hx (t := .boolean) hret (by simp) (hb hby at_306) hr) (Q := Q_rm0 Z len bits w_EMPTY h0) (by rw [e128]; exact ⟨rfl, N128⟩) (by decide) (by decide)
set_option maxRecDepth 65536 in
set_option maxHeartbeats 40000000 in
theorem blk2 {p : Program} {l : Launch} {e : Env} {s : State} {m : MethodId} {below : List Frame} {meth : Method} {c : Code} {T0 : State} {locs : List Loc} {vm0 : Vm} {k0 : Nat} (Z : State) (a0 : Array Value) (hw : ∀ d ∈ tables_1, d.before a0 Z = true) (len : Int32) (bits : Int32) (w_EMPTY : Addr) (h0 : Heap) (S_EMPTY : Sta Z Z.heap "java/util/Optional" "EMPTY" "Ljava/util/Optional;" (.ref w_EMPTY)) (E_EMPTY : Exa Z Z.heap w_EMPTY "java/util/Optional") (F_EMPTY_value : Fld Z Z.heap w_EMPTY "java/util/Optional" "value" "Ljava/lang/Object;" .null) (b0 : Int32) (b1 : Int32) (b2 : Int32) (b3 : Int32) (h : Heap) (X0 : Stand p l e room_1 (s.setVm vm0) m #[(.int len), (.int bits)] below meth c T0 locs 0 0)
    (hx : p.tables.exec = Jvm.exec) (hZ : Z.Warmed39 (s.setVm vm0).vm) (hby : c.code = code) (hml : c.maxLocals = 12) (hown : (s.setVm vm0).vm.findClass "com/example/claim/claim/model/VerificationResultAcceptedPinLaw" = some m.cls) (hret : meth.sig.returnType = ret) (hlk : meth.locks = false) (e0 : T0.heap = h) (N0 : Fr Z.heap.size locs) (O0 : Ext Z.heap h) (hS0 : s.Since vm0 k0) (hk0 : k0 ≤ h.size) (hb0 : b0.toInt8.toInt32 = b0) (hb1 : b1.toInt8.toInt32 = b1) (hb2 : b2.toInt8.toInt32 = b2) (hb3 : b3.toInt8.toInt32 = b3) :
    Go p e below (GOW s (Q_rm0 Z len bits w_EMPTY h0) room_1.cells room_1.slots) (T0.setTop (mkF m 31 #[.val (.int len), .val (.int bits), .val (.int (2 : Int32)), .val (.int b0), .val (.int b1), .val (.int b2), .val (.int b3), .unset, .unset, .unset, .unset, .unset] [])) := by
  show Go p e below _ (T0.setTop (mkF m 31 #[.val (.int len), .val (.int bits), .val (.int (2 : Int32)), .val (.int b0), .val (.int b1), .val (.int b2), .val (.int b3), .unset, .unset, .unset, .unset, .unset] []))
  refine Go.st (fun t' k' => XS.iloadN X0.here hx rfl (hb hby at_31) rfl k') ?_
  show Go p e below _ (T0.setTop (mkF m 32 #[.val (.int len), .val (.int bits), .val (.int (2 : Int32)), .val (.int b0), .val (.int b1), .val (.int b2), .val (.int b3), .unset, .unset, .unset, .unset, .unset] [(.int (2 : Int32))]))
  obtain ⟨T101, h101, k101, X101, e101, E101, A101, Q101, st101⟩ := newPE X0 hx hZ (hw _ (List.mem_of_getElem? (i := 1) rfl)) e0 (g := (mkF m 32 #[.val (.int len), .val (.int bits), .val (.int (2 : Int32)), .val (.int b0), .val (.int b1), .val (.int b2), .val (.int b3), .unset, .unset, .unset, .unset, .unset] [(.int (2 : Int32))])) rfl (hb hby at_32) rfl (by decide) (cap := 2) (by decide) (by decide) (by decide) (by decide) (ad := "[B") (by decide +kernel)
  obtain ⟨b101, g101⟩ : ∃ z, z = h.size := ⟨_, rfl⟩
  rw [← g101] at A101 st101 Q101
  refine Go.st st101 ?_
  have ne_w_EMPTY_b101 : w_EMPTY ≠ b101 := Nat.ne_of_lt (Nat.lt_of_lt_of_le (E_EMPTY.ext O0).lt (Nat.le_of_eq g101.symm))
  have g_b101 : Z.heap.size ≤ b101 := Nat.le_trans O0.1 (Nat.le_of_eq g101.symm)
  have hk101 := Nat.le_trans hk0 E101.1
  have O101 := own_ext_trans O0 E101
  have V_b101 : Arv Z h101 b101 k101 .byte (2 : Int32) [(.int (0 : Int32)), (.int (0 : Int32))] (.int (0 : Int32)) := (Arv.new A101 (by decide)).pad (pad_rep [] (.int (0 : Int32)) 2)
  show Go p e below _ (T101.setTop (mkF m 34 #[.val (.int len), .val (.int bits), .val (.int (2 : Int32)), .val (.int b0), .val (.int b1), .val (.int b2), .val (.int b3), .unset, .unset, .unset, .unset, .unset] [(.ref b101)]))
  refine Go.st (fun t' k' => XS.astore X101.here hx rfl (hb hby at_34) rfl rfl (l' := #[.val (.int len), .val (.int bits), .val (.int (2 : Int32)), .val (.int b0), .val (.int b1), .val (.int b2), .val (.int b3), .val (.ref b101), .unset, .unset, .unset, .unset]) rfl k') ?_
  show Go p e below _ (T101.setTop (mkF m 36 #[.val (.int len), .val (.int bits), .val (.int (2 : Int32)), .val (.int b0), .val (.int b1), .val (.int b2), .val (.int b3), .val (.ref b101), .unset, .unset, .unset, .unset] []))
  refine Go.st (fun t' k' => XS.iloadN X101.here hx rfl (hb hby at_36) rfl k') ?_
  show Go p e below _ (T101.setTop (mkF m 37 #[.val (.int len), .val (.int bits), .val (.int (2 : Int32)), .val (.int b0), .val (.int b1), .val (.int b2), .val (.int b3), .val (.ref b101), .unset, .unset, .unset, .unset] [(.int (2 : Int32))]))
  refine Go.st (fun t' k' => XS.ifNo X101.here hx rfl (hb hby at_37) rfl ((if0 _ _).trans (tlt (by decide : (0 : Int32) < (2 : Int32))).2.2.2) k') ?_
  show Go p e below _ (T101.setTop (mkF m 40 #[.val (.int len), .val (.int bits), .val (.int (2 : Int32)), .val (.int b0), .val (.int b1), .val (.int b2), .val (.int b3), .val (.ref b101), .unset, .unset, .unset, .unset] []))
  refine Go.st (fun t' k' => XS.aload X101.here hx rfl (hb hby at_40) rfl rfl k') ?_
  show Go p e below _ (T101.setTop (mkF m 42 #[.val (.int len), .val (.int bits), .val (.int (2 : Int32)), .val (.int b0), .val (.int b1), .val (.int b2), .val (.int b3), .val (.ref b101), .unset, .unset, .unset, .unset] [(.ref b101)]))
  refine Go.st (fun t' k' => XS.iconst X101.here hx rfl (hb hby at_42) k') ?_
  show Go p e below _ (T101.setTop (mkF m 43 #[.val (.int len), .val (.int bits), .val (.int (2 : Int32)), .val (.int b0), .val (.int b1), .val (.int b2), .val (.int b3), .val (.ref b101), .unset, .unset, .unset, .unset] [(.int (0 : Int32)), (.ref b101)]))
  refine Go.st (fun t' k' => XS.iloadN X101.here hx rfl (hb hby at_43) rfl k') ?_
  show Go p e below _ (T101.setTop (mkF m 44 #[.val (.int len), .val (.int bits), .val (.int (2 : Int32)), .val (.int b0), .val (.int b1), .val (.int b2), .val (.int b3), .val (.ref b101), .unset, .unset, .unset, .unset] [(.int b0), (.int (0 : Int32)), (.ref b101)]))
  obtain ⟨cls103, Ars103, qs103, Szs103, Nzs103, Hss103, Gss103⟩ := (id V_b101)
  have hins103 : ¬ ((0 : Int32) < 0 ∨ cls103.slots.size ≤ ((0 : Int32)).toNatClampNeg) := inb_of Szs103 ⟨by decide, by decide⟩
  obtain ⟨T104, h104, X104, e104, W104, st104⟩ := stB X101 hx hZ e101 Ars103 (j := (0 : Int32)) hins103 (g := (mkF m 44 #[.val (.int len), .val (.int bits), .val (.int (2 : Int32)), .val (.int b0), .val (.int b1), .val (.int b2), .val (.int b3), .val (.ref b101), .unset, .unset, .unset, .unset] [(.int b0), (.int (0 : Int32)), (.ref b101)])) rfl rfl (hb hby at_44)
  refine Go.st st104 ?_
  have V_b101_104 : Arv Z h104 b101 k101 .byte (2 : Int32) [(.int b0), (.int (0 : Int32))] (.int (0 : Int32)) := own_set (vs := [(.int (0 : Int32)), (.int (0 : Int32))]) (v' := (.int b0)) Ars103 qs103 Szs103 Nzs103 Hss103 Gss103 (fits_nar_byte _) W104 0 rfl (Nat.le_of_ble_eq_true rfl) (congrArg Value.int (hb0)) rfl
  have Q101_h105 := Q101.wr W104
  have hk104 := Nat.le_trans hk101 (Keep.of_wr W104).1
  have O104 := own_ext_wr O101 W104 g_b101
  have N104 := Fr.snoc X104 N0 g_b101
  show Go p e below _ (T104.setTop (mkF m 45 #[.val (.int len), .val (.int bits), .val (.int (2 : Int32)), .val (.int b0), .val (.int b1), .val (.int b2), .val (.int b3), .val (.ref b101), .unset, .unset, .unset, .unset] []))
  refine Go.st (fun t' k' => XS.iloadN X104.here hx rfl (hb hby at_45) rfl k') ?_
  show Go p e below _ (T104.setTop (mkF m 46 #[.val (.int len), .val (.int bits), .val (.int (2 : Int32)), .val (.int b0), .val (.int b1), .val (.int b2), .val (.int b3), .val (.ref b101), .unset, .unset, .unset, .unset] [(.int (2 : Int32))]))
  refine Go.st (fun t' k' => XS.iconst X104.here hx rfl (hb hby at_46) k') ?_
  show Go p e below _ (T104.setTop (mkF m 47 #[.val (.int len), .val (.int bits), .val (.int (2 : Int32)), .val (.int b0), .val (.int b1), .val (.int b2), .val (.int b3), .val (.ref b101), .unset, .unset, .unset, .unset] [(.int (1 : Int32)), (.int (2 : Int32))]))
  refine Go.st (fun t' k' => XS.icmpNo X104.here hx rfl (hb hby at_47) rfl (tlt (by decide : (1 : Int32) < (2 : Int32))).2.2.2 k') ?_
  show Go p e below _ (T104.setTop (mkF m 50 #[.val (.int len), .val (.int bits), .val (.int (2 : Int32)), .val (.int b0), .val (.int b1), .val (.int b2), .val (.int b3), .val (.ref b101), .unset, .unset, .unset, .unset] []))
  refine Go.st (fun t' k' => XS.aload X104.here hx rfl (hb hby at_50) rfl rfl k') ?_
  show Go p e below _ (T104.setTop (mkF m 52 #[.val (.int len), .val (.int bits), .val (.int (2 : Int32)), .val (.int b0), .val (.int b1), .val (.int b2), .val (.int b3), .val (.ref b101), .unset, .unset, .unset, .unset] [(.ref b101)]))
  refine Go.st (fun t' k' => XS.iconst X104.here hx rfl (hb hby at_52) k') ?_
  show Go p e below _ (T104.setTop (mkF m 53 #[.val (.int len), .val (.int bits), .val (.int (2 : Int32)), .val (.int b0), .val (.int b1), .val (.int b2), .val (.int b3), .val (.ref b101), .unset, .unset, .unset, .unset] [(.int (1 : Int32)), (.ref b101)]))
  refine Go.st (fun t' k' => XS.iload X104.here hx rfl (hb hby at_53) rfl k') ?_
  show Go p e below _ (T104.setTop (mkF m 55 #[.val (.int len), .val (.int bits), .val (.int (2 : Int32)), .val (.int b0), .val (.int b1), .val (.int b2), .val (.int b3), .val (.ref b101), .unset, .unset, .unset, .unset] [(.int b1), (.int (1 : Int32)), (.ref b101)]))
  obtain ⟨cls106, Ars106, qs106, Szs106, Nzs106, Hss106, Gss106⟩ := (id V_b101_104)
  have hins106 : ¬ ((1 : Int32) < 0 ∨ cls106.slots.size ≤ ((1 : Int32)).toNatClampNeg) := inb_of Szs106 ⟨by decide, by decide⟩
  obtain ⟨T107, h107, X107, e107, W107, st107⟩ := stB X104 hx hZ e104 Ars106 (j := (1 : Int32)) hins106 (g := (mkF m 55 #[.val (.int len), .val (.int bits), .val (.int (2 : Int32)), .val (.int b0), .val (.int b1), .val (.int b2), .val (.int b3), .val (.ref b101), .unset, .unset, .unset, .unset] [(.int b1), (.int (1 : Int32)), (.ref b101)])) rfl rfl (hb hby at_55)
  refine Go.st st107 ?_
  have V_b101_107 : Arv Z h107 b101 k101 .byte (2 : Int32) [(.int b0), (.int b1)] (.int (0 : Int32)) := own_set (vs := [(.int b0), (.int (0 : Int32))]) (v' := (.int b1)) Ars106 qs106 Szs106 Nzs106 Hss106 Gss106 (fits_nar_byte _) W107 1 rfl (Nat.le_of_ble_eq_true rfl) (congrArg Value.int (hb1)) rfl
  have Q101_h108 := Q101_h105.wr W107
  have hk107 := Nat.le_trans hk104 (Keep.of_wr W107).1
  have O107 := own_ext_wr O104 W107 g_b101
  have N107 := Fr.snoc X107 N104 g_b101
  show Go p e below _ (T107.setTop (mkF m 56 #[.val (.int len), .val (.int bits), .val (.int (2 : Int32)), .val (.int b0), .val (.int b1), .val (.int b2), .val (.int b3), .val (.ref b101), .unset, .unset, .unset, .unset] []))
  refine Go.st (fun t' k' => XS.iloadN X107.here hx rfl (hb hby at_56) rfl k') ?_
  show Go p e below _ (T107.setTop (mkF m 57 #[.val (.int len), .val (.int bits), .val (.int (2 : Int32)), .val (.int b0), .val (.int b1), .val (.int b2), .val (.int b3), .val (.ref b101), .unset, .unset, .unset, .unset] [(.int (2 : Int32))]))
  refine Go.st (fun t' k' => XS.iconst X107.here hx rfl (hb hby at_57) k') ?_
  show Go p e below _ (T107.setTop (mkF m 58 #[.val (.int len), .val (.int bits), .val (.int (2 : Int32)), .val (.int b0), .val (.int b1), .val (.int b2), .val (.int b3), .val (.ref b101), .unset, .unset, .unset, .unset] [(.int (2 : Int32)), (.int (2 : Int32))]))
  refine Go.st (fun t' k' => XS.icmpYes X107.here hx rfl (pc0 := 58) (pc' := 67) rfl (hb hby at_58) rfl (flt (by decide : ¬ ((2 : Int32) < (2 : Int32)))).2.2.2 (by decide) (by decide) k') ?_
  show Go p e below _ (T107.setTop (mkF m 67 #[.val (.int len), .val (.int bits), .val (.int (2 : Int32)), .val (.int b0), .val (.int b1), .val (.int b2), .val (.int b3), .val (.ref b101), .unset, .unset, .unset, .unset] []))
  refine Go.st (fun t' k' => XS.iloadN X107.here hx rfl (hb hby at_67) rfl k') ?_
  show Go p e below _ (T107.setTop (mkF m 68 #[.val (.int len), .val (.int bits), .val (.int (2 : Int32)), .val (.int b0), .val (.int b1), .val (.int b2), .val (.int b3), .val (.ref b101), .unset, .unset, .unset, .unset] [(.int (2 : Int32))]))
  refine Go.st (fun t' k' => XS.iconst X107.here hx rfl (hb hby at_68) k') ?_
  show Go p e below _ (T107.setTop (mkF m 69 #[.val (.int len), .val (.int bits), .val (.int (2 : Int32)), .val (.int b0), .val (.int b1), .val (.int b2), .val (.int b3), .val (.ref b101), .unset, .unset, .unset, .unset] [(.int (3 : Int32)), (.int (2 : Int32))]))
  refine Go.st (fun t' k' => XS.icmpYes X107.here hx rfl (pc0 := 69) (pc' := 78) rfl (hb hby at_69) rfl (flt (by decide : ¬ ((3 : Int32) < (2 : Int32)))).2.2.2 (by decide) (by decide) k') ?_
  show Go p e below _ (T107.setTop (mkF m 78 #[.val (.int len), .val (.int bits), .val (.int (2 : Int32)), .val (.int b0), .val (.int b1), .val (.int b2), .val (.int b3), .val (.ref b101), .unset, .unset, .unset, .unset] []))
  refine Go.st (fun t' k' => XS.aload X107.here hx rfl (hb hby at_78) rfl rfl k') ?_
  show Go p e below _ (T107.setTop (mkF m 80 #[.val (.int len), .val (.int bits), .val (.int (2 : Int32)), .val (.int b0), .val (.int b1), .val (.int b2), .val (.int b3), .val (.ref b101), .unset, .unset, .unset, .unset] [(.ref b101)]))
  obtain ⟨_, _, ⟨T109, L109, k109, n109⟩, -, X109, hs109, gr109, ⟨Lc109, hQ109, l109, y109, z109⟩, st109⟩ := Jvm.RoadKit.callSS X107 hx (y := (⟨"com/example/claim/claim/model/VerificationResult", "accepted", "([B)Lcom/example/claim/claim/model/VerificationResult;"⟩ : MethodName)) hown (mvT hZ (hw _ (List.mem_of_getElem? (i := 2) rfl))) (mvT hZ (hw _ (List.mem_of_getElem? (i := 3) rfl))) (mvT hZ (hw _ (List.mem_of_getElem? (i := 4) rfl))) (mvT hZ (hw _ (List.mem_of_getElem? (i := 5) rfl))) (by decide) (backOfS (W := 0) (rmAc l Z a0 hw [] b101 k101 ((2 : Int32)) ([(.int b0), (.int b1)]) h107 O107 Q101_h108 V_b101_107 (by decide)) hZ (hw _ (List.mem_of_getElem? (i := 5) rfl)) (hw _ (List.mem_of_getElem? (i := 4) rfl)) (by decide) (by decide)) (g := (mkF m 80 #[.val (.int len), .val (.int bits), .val (.int (2 : Int32)), .val (.int b0), .val (.int b1), .val (.int b2), .val (.int b3), .val (.ref b101), .unset, .unset, .unset, .unset] [(.ref b101)])) rfl (by rw [hml]; rfl) (argsL := [(.ref b101)]) (rest := []) (lenOf pd___B_Lcom_example_claim_claim_model_VerificationResult_ rfl) rfl (by show 2 * 0 + _ ≤ _; exact Nat.le_of_eq rfl) (hb hby at_80) (fun _ _ => ⟨rfl, e107, (by decide : 1 + 4 ≤ _), (by decide : 2 + 48 ≤ _)⟩)
  dsimp only [Pt.U, Pt.locs, Pt.cells, Pt.slots] at X109 l109 y109 z109 st109 hQ109 hs109 gr109
  subst y109 z109
  obtain ⟨b_109, q_109, rfl, N109q, O109, Kc109, Eb_109, Pp_109, Pq_109, Eq__109, Aq_109, Gb_109, Gq_109, Sb_109, Sq_109, Nbq_109⟩ := hQ109
  have N109 : Fr Z.heap.size L109 := by rw [l109]; exact Fr.app N107 N109q
  refine Go.tr st109 ?_
  obtain ⟨X109r, hS109, hZ109, hown109⟩ := rebS hS0 (by rw [e107]; exact hk107) X109 hs109 gr109 hZ hown
  have Q101_h110 := Q101_h108.keep Kc109
  have V_b101_107_h110 := V_b101_107.keep Kc109 nin0
  have ne_w_EMPTY_b_109 : w_EMPTY ≠ b_109 := Nat.ne_of_lt (Nat.lt_of_lt_of_le (E_EMPTY.ext O107).lt Sb_109)
  have ne_b101_b_109 : b101 ≠ b_109 := Nat.ne_of_lt (Nat.lt_of_lt_of_le Q101_h108.lt Sb_109)
  have ne_w_EMPTY_q_109 : w_EMPTY ≠ q_109 := Nat.ne_of_lt (Nat.lt_of_lt_of_le (E_EMPTY.ext O107).lt Sq_109)
  have ne_b101_q_109 : b101 ≠ q_109 := Nat.ne_of_lt (Nat.lt_of_lt_of_le Q101_h108.lt Sq_109)
  show Go p e below _ (T109.setTop (mkF m 83 #[.val (.int len), .val (.int bits), .val (.int (2 : Int32)), .val (.int b0), .val (.int b1), .val (.int b2), .val (.int b3), .val (.ref b101), .unset, .unset, .unset, .unset] [(.ref b_109)]))
  refine Go.st (fun t' k' => XS.astore X109r.here hx rfl (hb hby at_83) rfl rfl (l' := #[.val (.int len), .val (.int bits), .val (.int (2 : Int32)), .val (.int b0), .val (.int b1), .val (.int b2), .val (.int b3), .val (.ref b101), .val (.ref b_109), .unset, .unset, .unset]) rfl k') ?_
  show Go p e below _ (T109.setTop (mkF m 85 #[.val (.int len), .val (.int bits), .val (.int (2 : Int32)), .val (.int b0), .val (.int b1), .val (.int b2), .val (.int b3), .val (.ref b101), .val (.ref b_109), .unset, .unset, .unset] []))
  refine Go.st (fun t' k' => XS.iloadN X109r.here hx rfl (hb hby at_85) rfl k') ?_
  show Go p e below _ (T109.setTop (mkF m 86 #[.val (.int len), .val (.int bits), .val (.int (2 : Int32)), .val (.int b0), .val (.int b1), .val (.int b2), .val (.int b3), .val (.ref b101), .val (.ref b_109), .unset, .unset, .unset] [(.int (2 : Int32))]))
  refine Go.st (fun t' k' => XS.ifNo X109r.here hx rfl (hb hby at_86) rfl ((if0 _ _).trans (tlt (by decide : (0 : Int32) < (2 : Int32))).2.2.2) k') ?_
  show Go p e below _ (T109.setTop (mkF m 89 #[.val (.int len), .val (.int bits), .val (.int (2 : Int32)), .val (.int b0), .val (.int b1), .val (.int b2), .val (.int b3), .val (.ref b101), .val (.ref b_109), .unset, .unset, .unset] []))
  refine Go.st (fun t' k' => XS.aload X109r.here hx rfl (hb hby at_89) rfl rfl k') ?_
  show Go p e below _ (T109.setTop (mkF m 91 #[.val (.int len), .val (.int bits), .val (.int (2 : Int32)), .val (.int b0), .val (.int b1), .val (.int b2), .val (.int b3), .val (.ref b101), .val (.ref b_109), .unset, .unset, .unset] [(.ref b101)]))
  refine Go.st (fun t' k' => XS.iconst X109r.here hx rfl (hb hby at_91) k') ?_
  show Go p e below _ (T109.setTop (mkF m 92 #[.val (.int len), .val (.int bits), .val (.int (2 : Int32)), .val (.int b0), .val (.int b1), .val (.int b2), .val (.int b3), .val (.ref b101), .val (.ref b_109), .unset, .unset, .unset] [(.int (0 : Int32)), (.ref b101)]))
  refine Go.st (fun t' k' => XS.iloadN X109r.here hx rfl (hb hby at_92) rfl k') ?_
  show Go p e below _ (T109.setTop (mkF m 93 #[.val (.int len), .val (.int bits), .val (.int (2 : Int32)), .val (.int b0), .val (.int b1), .val (.int b2), .val (.int b3), .val (.ref b101), .val (.ref b_109), .unset, .unset, .unset] [(.int b0), (.int (0 : Int32)), (.ref b101)]))
  refine Go.st (fun t' k' => XS.iconst X109r.here hx rfl (hb hby at_93) k') ?_
  show Go p e below _ (T109.setTop (mkF m 94 #[.val (.int len), .val (.int bits), .val (.int (2 : Int32)), .val (.int b0), .val (.int b1), .val (.int b2), .val (.int b3), .val (.ref b101), .val (.ref b_109), .unset, .unset, .unset] [(.int (-1 : Int32)), (.int b0), (.int (0 : Int32)), (.ref b101)]))
  refine Go.st (fun t' k' => XS.ixor X109r.here hx rfl (hb hby at_94) rfl k') ?_
  show Go p e below _ (T109.setTop (mkF m 95 #[.val (.int len), .val (.int bits), .val (.int (2 : Int32)), .val (.int b0), .val (.int b1), .val (.int b2), .val (.int b3), .val (.ref b101), .val (.ref b_109), .unset, .unset, .unset] [(.int (b0 ^^^ (-1 : Int32))), (.int (0 : Int32)), (.ref b101)]))
  refine Go.st (fun t' k' => XS.i2b X109r.here hx rfl (hb hby at_95) rfl k') ?_
  show Go p e below _ (T109.setTop (mkF m 96 #[.val (.int len), .val (.int bits), .val (.int (2 : Int32)), .val (.int b0), .val (.int b1), .val (.int b2), .val (.int b3), .val (.ref b101), .val (.ref b_109), .unset, .unset, .unset] [(.int ((b0 ^^^ (-1 : Int32)).toInt8.toInt32)), (.int (0 : Int32)), (.ref b101)]))
  obtain ⟨cls111, Ars111, qs111, Szs111, Nzs111, Hss111, Gss111⟩ := (id V_b101_107_h110)
  have hins111 : ¬ ((0 : Int32) < 0 ∨ cls111.slots.size ≤ ((0 : Int32)).toNatClampNeg) := inb_of Szs111 ⟨by decide, by decide⟩
  obtain ⟨T112, h112, X112, e112, W112, st112⟩ := stB X109r hx hZ109 rfl Ars111 (j := (0 : Int32)) hins111 (g := (mkF m 96 #[.val (.int len), .val (.int bits), .val (.int (2 : Int32)), .val (.int b0), .val (.int b1), .val (.int b2), .val (.int b3), .val (.ref b101), .val (.ref b_109), .unset, .unset, .unset] [(.int ((b0 ^^^ (-1 : Int32)).toInt8.toInt32)), (.int (0 : Int32)), (.ref b101)])) rfl rfl (hb hby at_96)
  refine Go.st st112 ?_
  have V_b101_112 : Arv Z h112 b101 k101 .byte (2 : Int32) [(.int ((b0 ^^^ (-1 : Int32)).toInt8.toInt32).toInt8.toInt32), (.int b1)] (.int (0 : Int32)) := own_set (vs := [(.int b0), (.int b1)]) (v' := (.int ((b0 ^^^ (-1 : Int32)).toInt8.toInt32).toInt8.toInt32)) Ars111 qs111 Szs111 Nzs111 Hss111 Gss111 (fits_nar_byte _) W112 0 rfl (Nat.le_of_ble_eq_true rfl) rfl rfl
  have Q101_h113 := Q101_h110.wr W112
  have Eb_109_h113 := Eb_109.wr W112
  have Pp_109_h113 := Pp_109.other W112 (Or.inl (Ne.symm ne_b101_b_109))
  have Pq_109_h113 := Pq_109.other W112 (Or.inl (Ne.symm ne_b101_b_109))
  have Eq__109_h113 := Eq__109.wr W112
  have Aq_109_h113 := Aq_109.other W112 (Ne.symm ne_b101_q_109)
  have hk112 := Nat.le_trans (Nat.le_refl _) (Keep.of_wr W112).1
  have O112 := own_ext_wr O109 W112 g_b101
  have N112 := Fr.snoc X112 N109 g_b101
  show Go p e below _ (T112.setTop (mkF m 97 #[.val (.int len), .val (.int bits), .val (.int (2 : Int32)), .val (.int b0), .val (.int b1), .val (.int b2), .val (.int b3), .val (.ref b101), .val (.ref b_109), .unset, .unset, .unset] []))
  refine Go.st (fun t' k' => XS.iloadN X112.here hx rfl (hb hby at_97) rfl k') ?_
  show Go p e below _ (T112.setTop (mkF m 98 #[.val (.int len), .val (.int bits), .val (.int (2 : Int32)), .val (.int b0), .val (.int b1), .val (.int b2), .val (.int b3), .val (.ref b101), .val (.ref b_109), .unset, .unset, .unset] [(.int (2 : Int32))]))
  refine Go.st (fun t' k' => XS.iconst X112.here hx rfl (hb hby at_98) k') ?_
  show Go p e below _ (T112.setTop (mkF m 99 #[.val (.int len), .val (.int bits), .val (.int (2 : Int32)), .val (.int b0), .val (.int b1), .val (.int b2), .val (.int b3), .val (.ref b101), .val (.ref b_109), .unset, .unset, .unset] [(.int (1 : Int32)), (.int (2 : Int32))]))
  refine Go.st (fun t' k' => XS.icmpNo X112.here hx rfl (hb hby at_99) rfl (tlt (by decide : (1 : Int32) < (2 : Int32))).2.2.2 k') ?_
  show Go p e below _ (T112.setTop (mkF m 102 #[.val (.int len), .val (.int bits), .val (.int (2 : Int32)), .val (.int b0), .val (.int b1), .val (.int b2), .val (.int b3), .val (.ref b101), .val (.ref b_109), .unset, .unset, .unset] []))
  refine Go.st (fun t' k' => XS.aload X112.here hx rfl (hb hby at_102) rfl rfl k') ?_
  show Go p e below _ (T112.setTop (mkF m 104 #[.val (.int len), .val (.int bits), .val (.int (2 : Int32)), .val (.int b0), .val (.int b1), .val (.int b2), .val (.int b3), .val (.ref b101), .val (.ref b_109), .unset, .unset, .unset] [(.ref b101)]))
  refine Go.st (fun t' k' => XS.iconst X112.here hx rfl (hb hby at_104) k') ?_
  show Go p e below _ (T112.setTop (mkF m 105 #[.val (.int len), .val (.int bits), .val (.int (2 : Int32)), .val (.int b0), .val (.int b1), .val (.int b2), .val (.int b3), .val (.ref b101), .val (.ref b_109), .unset, .unset, .unset] [(.int (1 : Int32)), (.ref b101)]))
  refine Go.st (fun t' k' => XS.iload X112.here hx rfl (hb hby at_105) rfl k') ?_
  show Go p e below _ (T112.setTop (mkF m 107 #[.val (.int len), .val (.int bits), .val (.int (2 : Int32)), .val (.int b0), .val (.int b1), .val (.int b2), .val (.int b3), .val (.ref b101), .val (.ref b_109), .unset, .unset, .unset] [(.int b1), (.int (1 : Int32)), (.ref b101)]))
  refine Go.st (fun t' k' => XS.iconst X112.here hx rfl (hb hby at_107) k') ?_
  show Go p e below _ (T112.setTop (mkF m 108 #[.val (.int len), .val (.int bits), .val (.int (2 : Int32)), .val (.int b0), .val (.int b1), .val (.int b2), .val (.int b3), .val (.ref b101), .val (.ref b_109), .unset, .unset, .unset] [(.int (-1 : Int32)), (.int b1), (.int (1 : Int32)), (.ref b101)]))
  refine Go.st (fun t' k' => XS.ixor X112.here hx rfl (hb hby at_108) rfl k') ?_
  show Go p e below _ (T112.setTop (mkF m 109 #[.val (.int len), .val (.int bits), .val (.int (2 : Int32)), .val (.int b0), .val (.int b1), .val (.int b2), .val (.int b3), .val (.ref b101), .val (.ref b_109), .unset, .unset, .unset] [(.int (b1 ^^^ (-1 : Int32))), (.int (1 : Int32)), (.ref b101)]))
  refine Go.st (fun t' k' => XS.i2b X112.here hx rfl (hb hby at_109) rfl k') ?_
  show Go p e below _ (T112.setTop (mkF m 110 #[.val (.int len), .val (.int bits), .val (.int (2 : Int32)), .val (.int b0), .val (.int b1), .val (.int b2), .val (.int b3), .val (.ref b101), .val (.ref b_109), .unset, .unset, .unset] [(.int ((b1 ^^^ (-1 : Int32)).toInt8.toInt32)), (.int (1 : Int32)), (.ref b101)]))
  obtain ⟨cls114, Ars114, qs114, Szs114, Nzs114, Hss114, Gss114⟩ := (id V_b101_112)
  have hins114 : ¬ ((1 : Int32) < 0 ∨ cls114.slots.size ≤ ((1 : Int32)).toNatClampNeg) := inb_of Szs114 ⟨by decide, by decide⟩
  obtain ⟨T115, h115, X115, e115, W115, st115⟩ := stB X112 hx hZ109 e112 Ars114 (j := (1 : Int32)) hins114 (g := (mkF m 110 #[.val (.int len), .val (.int bits), .val (.int (2 : Int32)), .val (.int b0), .val (.int b1), .val (.int b2), .val (.int b3), .val (.ref b101), .val (.ref b_109), .unset, .unset, .unset] [(.int ((b1 ^^^ (-1 : Int32)).toInt8.toInt32)), (.int (1 : Int32)), (.ref b101)])) rfl rfl (hb hby at_110)
  refine Go.st st115 ?_
  have V_b101_115 : Arv Z h115 b101 k101 .byte (2 : Int32) [(.int ((b0 ^^^ (-1 : Int32)).toInt8.toInt32).toInt8.toInt32), (.int ((b1 ^^^ (-1 : Int32)).toInt8.toInt32).toInt8.toInt32)] (.int (0 : Int32)) := own_set (vs := [(.int ((b0 ^^^ (-1 : Int32)).toInt8.toInt32).toInt8.toInt32), (.int b1)]) (v' := (.int ((b1 ^^^ (-1 : Int32)).toInt8.toInt32).toInt8.toInt32)) Ars114 qs114 Szs114 Nzs114 Hss114 Gss114 (fits_nar_byte _) W115 1 rfl (Nat.le_of_ble_eq_true rfl) rfl rfl
  have Q101_h116 := Q101_h113.wr W115
  have Eb_109_h116 := Eb_109_h113.wr W115
  have Pp_109_h116 := Pp_109_h113.other W115 (Or.inl (Ne.symm ne_b101_b_109))
  have Pq_109_h116 := Pq_109_h113.other W115 (Or.inl (Ne.symm ne_b101_b_109))
  have Eq__109_h116 := Eq__109_h113.wr W115
  have Aq_109_h116 := Aq_109_h113.other W115 (Ne.symm ne_b101_q_109)
  have hk115 := Nat.le_trans hk112 (Keep.of_wr W115).1
  have O115 := own_ext_wr O112 W115 g_b101
  have N115 := Fr.snoc X115 N112 g_b101
  show Go p e below _ (T115.setTop (mkF m 111 #[.val (.int len), .val (.int bits), .val (.int (2 : Int32)), .val (.int b0), .val (.int b1), .val (.int b2), .val (.int b3), .val (.ref b101), .val (.ref b_109), .unset, .unset, .unset] []))
  refine Go.st (fun t' k' => XS.iloadN X115.here hx rfl (hb hby at_111) rfl k') ?_
  show Go p e below _ (T115.setTop (mkF m 112 #[.val (.int len), .val (.int bits), .val (.int (2 : Int32)), .val (.int b0), .val (.int b1), .val (.int b2), .val (.int b3), .val (.ref b101), .val (.ref b_109), .unset, .unset, .unset] [(.int (2 : Int32))]))
  refine Go.st (fun t' k' => XS.iconst X115.here hx rfl (hb hby at_112) k') ?_
  show Go p e below _ (T115.setTop (mkF m 113 #[.val (.int len), .val (.int bits), .val (.int (2 : Int32)), .val (.int b0), .val (.int b1), .val (.int b2), .val (.int b3), .val (.ref b101), .val (.ref b_109), .unset, .unset, .unset] [(.int (2 : Int32)), (.int (2 : Int32))]))
  refine Go.st (fun t' k' => XS.icmpYes X115.here hx rfl (pc0 := 113) (pc' := 125) rfl (hb hby at_113) rfl (flt (by decide : ¬ ((2 : Int32) < (2 : Int32)))).2.2.2 (by decide) (by decide) k') ?_
  show Go p e below _ (T115.setTop (mkF m 125 #[.val (.int len), .val (.int bits), .val (.int (2 : Int32)), .val (.int b0), .val (.int b1), .val (.int b2), .val (.int b3), .val (.ref b101), .val (.ref b_109), .unset, .unset, .unset] []))
  refine Go.st (fun t' k' => XS.iloadN X115.here hx rfl (hb hby at_125) rfl k') ?_
  show Go p e below _ (T115.setTop (mkF m 126 #[.val (.int len), .val (.int bits), .val (.int (2 : Int32)), .val (.int b0), .val (.int b1), .val (.int b2), .val (.int b3), .val (.ref b101), .val (.ref b_109), .unset, .unset, .unset] [(.int (2 : Int32))]))
  refine Go.st (fun t' k' => XS.iconst X115.here hx rfl (hb hby at_126) k') ?_
  show Go p e below _ (T115.setTop (mkF m 127 #[.val (.int len), .val (.int bits), .val (.int (2 : Int32)), .val (.int b0), .val (.int b1), .val (.int b2), .val (.int b3), .val (.ref b101), .val (.ref b_109), .unset, .unset, .unset] [(.int (3 : Int32)), (.int (2 : Int32))]))
  refine Go.st (fun t' k' => XS.icmpYes X115.here hx rfl (pc0 := 127) (pc' := 139) rfl (hb hby at_127) rfl (flt (by decide : ¬ ((3 : Int32) < (2 : Int32)))).2.2.2 (by decide) (by decide) k') ?_
  show Go p e below _ (T115.setTop (mkF m 139 #[.val (.int len), .val (.int bits), .val (.int (2 : Int32)), .val (.int b0), .val (.int b1), .val (.int b2), .val (.int b3), .val (.ref b101), .val (.ref b_109), .unset, .unset, .unset] []))
  refine Go.st (fun t' k' => XS.aload X115.here hx rfl (hb hby at_139) rfl rfl k') ?_
  show Go p e below _ (T115.setTop (mkF m 141 #[.val (.int len), .val (.int bits), .val (.int (2 : Int32)), .val (.int b0), .val (.int b1), .val (.int b2), .val (.int b3), .val (.ref b101), .val (.ref b_109), .unset, .unset, .unset] [(.ref b_109)]))
  obtain ⟨cq117, kq117, q117a, q117b, q117c⟩ := isOf hZ109 e115 Eb_109_h116
  obtain ⟨_, _, ⟨T117, L117, k117, n117⟩, -, X117, ⟨Lc117, hQ117, l117, y117, z117⟩, st117⟩ := X115.virtualBack hx (y := (⟨"com/example/claim/claim/model/VerificationResult", "isAccepted", "()Z"⟩ : MethodName)) (z := (⟨"com/example/claim/claim/model/VerificationResult", "isAccepted", "()Z"⟩ : MethodName)) hown109 (mvT hZ109 (hw _ (List.mem_of_getElem? (i := 38) rfl))) (mvT hZ109 (hw _ (List.mem_of_getElem? (i := 39) rfl))) (notFace_of_selects (args := #[]) (mvT hZ109 (hw _ (List.mem_of_getElem? (i := 41) rfl)))) (mvT hZ109 (hw _ (List.mem_of_getElem? (i := 41) rfl))) (mvT hZ109 (hw _ (List.mem_of_getElem? (i := 40) rfl))) (by decide) (backOf (W := 0) (rmIA l Z a0 hw [] b_109 q_109 h115 O115 Pp_109_h116) hZ109 (hw _ (List.mem_of_getElem? (i := 42) rfl)) (hw _ (List.mem_of_getElem? (i := 4) rfl)) (by decide) (by decide)) q117a q117c (g := (mkF m 141 #[.val (.int len), .val (.int bits), .val (.int (2 : Int32)), .val (.int b0), .val (.int b1), .val (.int b2), .val (.int b3), .val (.ref b101), .val (.ref b_109), .unset, .unset, .unset] [(.ref b_109)])) rfl (by rw [hml]; rfl) (Steps.refl _) (argsL := []) (rest := []) (lenOf pd___Z rfl) rfl (by show 2 * 0 + _ ≤ _; exact Nat.le_of_eq rfl) (hb hby at_141) (fun _ _ => ⟨rfl, e115, (by decide : 5 + 0 ≤ _), (by decide : 50 + 0 ≤ _)⟩)
  dsimp only [Pt.U, Pt.locs, Pt.cells, Pt.slots] at X117 l117 y117 z117 st117 hQ117
  subst y117 z117
  obtain ⟨rfl, rfl, e117⟩ := hQ117
  have N117 : Fr Z.heap.size L117 := by rw [l117]; exact Fr.app N115 (Fr.nil _)
  refine Go.tr st117 ?_
  show Go p e below _ (T117.setTop (mkF m 144 #[.val (.int len), .val (.int bits), .val (.int (2 : Int32)), .val (.int b0), .val (.int b1), .val (.int b2), .val (.int b3), .val (.ref b101), .val (.ref b_109), .unset, .unset, .unset] [(.int (1 : Int32))]))
  refine Go.st (fun t' k' => XS.ifYes X117.here hx rfl (pc0 := 144) (pc' := 149) rfl (hb hby at_144) rfl ((if0 _ _).trans (feq (by decide : ¬ ((1 : Int32) = (0 : Int32)))).2) (by decide) (by decide) k') ?_
  show Go p e below _ (T117.setTop (mkF m 149 #[.val (.int len), .val (.int bits), .val (.int (2 : Int32)), .val (.int b0), .val (.int b1), .val (.int b2), .val (.int b3), .val (.ref b101), .val (.ref b_109), .unset, .unset, .unset] []))
  refine Go.st (fun t' k' => XS.aload X117.here hx rfl (hb hby at_149) rfl rfl k') ?_
  show Go p e below _ (T117.setTop (mkF m 151 #[.val (.int len), .val (.int bits), .val (.int (2 : Int32)), .val (.int b0), .val (.int b1), .val (.int b2), .val (.int b3), .val (.ref b101), .val (.ref b_109), .unset, .unset, .unset] [(.ref b_109)]))
  obtain ⟨cq118, kq118, q118a, q118b, q118c⟩ := isOf hZ109 e117 Eb_109_h116
  obtain ⟨_, _, ⟨T118, L118, k118, n118⟩, -, X118, ⟨Lc118, hQ118, l118, y118, z118⟩, st118⟩ := X117.virtualBack hx (y := (⟨"com/example/claim/claim/model/VerificationResult", "refusal", "()Ljava/util/Optional;"⟩ : MethodName)) (z := (⟨"com/example/claim/claim/model/VerificationResult", "refusal", "()Ljava/util/Optional;"⟩ : MethodName)) hown109 (mvT hZ109 (hw _ (List.mem_of_getElem? (i := 43) rfl))) (mvT hZ109 (hw _ (List.mem_of_getElem? (i := 44) rfl))) (notFace_of_selects (args := #[]) (mvT hZ109 (hw _ (List.mem_of_getElem? (i := 46) rfl)))) (mvT hZ109 (hw _ (List.mem_of_getElem? (i := 46) rfl))) (mvT hZ109 (hw _ (List.mem_of_getElem? (i := 45) rfl))) (by decide) (backOf (W := 0) (rmRq l Z a0 hw [] b_109 w_EMPTY h115 O115 S_EMPTY Pq_109_h116) hZ109 (hw _ (List.mem_of_getElem? (i := 47) rfl)) (hw _ (List.mem_of_getElem? (i := 4) rfl)) (by decide) (by decide)) q118a q118c (g := (mkF m 151 #[.val (.int len), .val (.int bits), .val (.int (2 : Int32)), .val (.int b0), .val (.int b1), .val (.int b2), .val (.int b3), .val (.ref b101), .val (.ref b_109), .unset, .unset, .unset] [(.ref b_109)])) rfl (by rw [hml]; rfl) (Steps.refl _) (argsL := []) (rest := []) (lenOf pd___Ljava_util_Optional_ rfl) rfl (by show 2 * 0 + _ ≤ _; exact Nat.le_of_eq rfl) (hb hby at_151) (fun _ _ => ⟨rfl, e117, (by decide : 5 + 0 ≤ _), (by decide : 50 + 0 ≤ _)⟩)
  dsimp only [Pt.U, Pt.locs, Pt.cells, Pt.slots] at X118 l118 y118 z118 st118 hQ118
  subst y118 z118
  obtain ⟨rfl, rfl, e118⟩ := hQ118
  have N118 : Fr Z.heap.size L118 := by rw [l118]; exact Fr.app N117 (Fr.nil _)
  refine Go.tr st118 ?_
  show Go p e below _ (T118.setTop (mkF m 154 #[.val (.int len), .val (.int bits), .val (.int (2 : Int32)), .val (.int b0), .val (.int b1), .val (.int b2), .val (.int b3), .val (.ref b101), .val (.ref b_109), .unset, .unset, .unset] [(.ref w_EMPTY)]))
  obtain ⟨cq119, kq119, q119a, q119b, q119c⟩ := isOf hZ109 e118 (E_EMPTY.ext O115)
  obtain ⟨_, _, ⟨T119, L119, k119, n119⟩, -, X119, ⟨Lc119, hQ119, l119, y119, z119⟩, st119⟩ := X118.virtualBack hx (y := (⟨"java/util/Optional", "isPresent", "()Z"⟩ : MethodName)) (z := (⟨"java/util/Optional", "isPresent", "()Z"⟩ : MethodName)) hown109 (mvT hZ109 (hw _ (List.mem_of_getElem? (i := 53) rfl))) (mvT hZ109 (hw _ (List.mem_of_getElem? (i := 54) rfl))) (notFace_of_selects (args := #[]) (mvT hZ109 (hw _ (List.mem_of_getElem? (i := 56) rfl)))) (mvT hZ109 (hw _ (List.mem_of_getElem? (i := 56) rfl))) (mvT hZ109 (hw _ (List.mem_of_getElem? (i := 55) rfl))) (by decide) (backOf (W := 0) (rmIs0 l Z a0 hw [] w_EMPTY h115 O115 (F_EMPTY_value.ext O115)) hZ109 (hw _ (List.mem_of_getElem? (i := 57) rfl)) (hw _ (List.mem_of_getElem? (i := 50) rfl)) (by decide) (by decide)) q119a q119c (g := (mkF m 154 #[.val (.int len), .val (.int bits), .val (.int (2 : Int32)), .val (.int b0), .val (.int b1), .val (.int b2), .val (.int b3), .val (.ref b101), .val (.ref b_109), .unset, .unset, .unset] [(.ref w_EMPTY)])) rfl (by rw [hml]; rfl) (Steps.refl _) (argsL := []) (rest := []) (lenOf pd___Z rfl) rfl (by show 2 * 0 + _ ≤ _; exact Nat.le_of_eq rfl) (hb hby at_154) (fun _ _ => ⟨rfl, e118, (by decide : 5 + 0 ≤ _), (by decide : 50 + 0 ≤ _)⟩)
  dsimp only [Pt.U, Pt.locs, Pt.cells, Pt.slots] at X119 l119 y119 z119 st119 hQ119
  subst y119 z119
  obtain ⟨rfl, rfl, e119⟩ := hQ119
  have N119 : Fr Z.heap.size L119 := by rw [l119]; exact Fr.app N118 (Fr.nil _)
  refine Go.tr st119 ?_
  show Go p e below _ (T119.setTop (mkF m 157 #[.val (.int len), .val (.int bits), .val (.int (2 : Int32)), .val (.int b0), .val (.int b1), .val (.int b2), .val (.int b3), .val (.ref b101), .val (.ref b_109), .unset, .unset, .unset] [(.int (0 : Int32))]))
  refine Go.st (fun t' k' => XS.ifYes X119.here hx rfl (pc0 := 157) (pc' := 162) rfl (hb hby at_157) rfl ((if0 _ _).trans (teq (by decide : (0 : Int32) = (0 : Int32))).1) (by decide) (by decide) k') ?_
  show Go p e below _ (T119.setTop (mkF m 162 #[.val (.int len), .val (.int bits), .val (.int (2 : Int32)), .val (.int b0), .val (.int b1), .val (.int b2), .val (.int b3), .val (.ref b101), .val (.ref b_109), .unset, .unset, .unset] []))
  refine Go.st (fun t' k' => XS.aload X119.here hx rfl (hb hby at_162) rfl rfl k') ?_
  show Go p e below _ (T119.setTop (mkF m 164 #[.val (.int len), .val (.int bits), .val (.int (2 : Int32)), .val (.int b0), .val (.int b1), .val (.int b2), .val (.int b3), .val (.ref b101), .val (.ref b_109), .unset, .unset, .unset] [(.ref b_109)]))
  obtain ⟨cq120, kq120, q120a, q120b, q120c⟩ := isOf hZ109 e119 Eb_109_h116
  obtain ⟨_, _, ⟨T120, L120, k120, n120⟩, -, X120, ⟨Lc120, hQ120, l120, y120, z120⟩, st120⟩ := X119.virtualBack hx (y := (⟨"com/example/claim/claim/model/VerificationResult", "payload", "()Ljava/util/Optional;"⟩ : MethodName)) (z := (⟨"com/example/claim/claim/model/VerificationResult", "payload", "()Ljava/util/Optional;"⟩ : MethodName)) hown109 (mvT hZ109 (hw _ (List.mem_of_getElem? (i := 60) rfl))) (mvT hZ109 (hw _ (List.mem_of_getElem? (i := 61) rfl))) (notFace_of_selects (args := #[]) (mvT hZ109 (hw _ (List.mem_of_getElem? (i := 63) rfl)))) (mvT hZ109 (hw _ (List.mem_of_getElem? (i := 63) rfl))) (mvT hZ109 (hw _ (List.mem_of_getElem? (i := 62) rfl))) (by decide) (backOf (W := 0) (rmPl l Z a0 hw [] b_109 q_109 k101 ((2 : Int32)) ([(.int b0), (.int b1)]) h115 O115 Pp_109_h116 Eq__109_h116 Aq_109_h116 (by decide)) hZ109 (hw _ (List.mem_of_getElem? (i := 64) rfl)) (hw _ (List.mem_of_getElem? (i := 4) rfl)) (by decide) (by decide)) q120a q120c (g := (mkF m 164 #[.val (.int len), .val (.int bits), .val (.int (2 : Int32)), .val (.int b0), .val (.int b1), .val (.int b2), .val (.int b3), .val (.ref b101), .val (.ref b_109), .unset, .unset, .unset] [(.ref b_109)])) rfl (by rw [hml]; rfl) (Steps.refl _) (argsL := []) (rest := []) (lenOf pd___Ljava_util_Optional_ rfl) rfl (by show 2 * 0 + _ ≤ _; exact Nat.le_of_eq rfl) (hb hby at_164) (fun _ _ => ⟨rfl, e119, (by decide : 5 + 3 ≤ _), (by decide : 50 + 6 ≤ _)⟩)
  dsimp only [Pt.U, Pt.locs, Pt.cells, Pt.slots] at X120 l120 y120 z120 st120 hQ120
  subst y120 z120
  obtain ⟨b_120, u_120, rfl, N120q, O120, Kc120, Eb_120, Pv_120, Eu_120, Au_120, Gb_120, Gu_120, Sb_120, Su_120, Nbu_120⟩ := hQ120
  have N120 : Fr Z.heap.size L120 := by rw [l120]; exact Fr.app N119 N120q
  refine Go.tr st120 ?_
  have hk120 := Nat.le_trans hk115 Kc120.1
  have Q101_h121 := Q101_h116.keep Kc120
  have Eb_109_h121 := Eb_109_h116.keep Kc120
  have Pp_109_h121 := Pp_109_h116.keep Kc120 nin0
  have Pq_109_h121 := Pq_109_h116.keep Kc120 nin0
  have Eq__109_h121 := Eq__109_h116.keep Kc120
  have Aq_109_h121 := Aq_109_h116.keep Kc120 nin0
  have V_b101_115_h121 := V_b101_115.keep Kc120 nin0
  have ne_w_EMPTY_b_120 : w_EMPTY ≠ b_120 := Nat.ne_of_lt (Nat.lt_of_lt_of_le (E_EMPTY.ext O115).lt Sb_120)
  have ne_b101_b_120 : b101 ≠ b_120 := Nat.ne_of_lt (Nat.lt_of_lt_of_le Q101_h116.lt Sb_120)
  have ne_b_109_b_120 : b_109 ≠ b_120 := Nat.ne_of_lt (Nat.lt_of_lt_of_le Eb_109_h116.lt Sb_120)
  have ne_q_109_b_120 : q_109 ≠ b_120 := Nat.ne_of_lt (Nat.lt_of_lt_of_le Eq__109_h116.lt Sb_120)
  have ne_w_EMPTY_u_120 : w_EMPTY ≠ u_120 := Nat.ne_of_lt (Nat.lt_of_lt_of_le (E_EMPTY.ext O115).lt Su_120)
  have ne_b101_u_120 : b101 ≠ u_120 := Nat.ne_of_lt (Nat.lt_of_lt_of_le Q101_h116.lt Su_120)
  have ne_b_109_u_120 : b_109 ≠ u_120 := Nat.ne_of_lt (Nat.lt_of_lt_of_le Eb_109_h116.lt Su_120)
  have ne_q_109_u_120 : q_109 ≠ u_120 := Nat.ne_of_lt (Nat.lt_of_lt_of_le Eq__109_h116.lt Su_120)
  show Go p e below _ (T120.setTop (mkF m 167 #[.val (.int len), .val (.int bits), .val (.int (2 : Int32)), .val (.int b0), .val (.int b1), .val (.int b2), .val (.int b3), .val (.ref b101), .val (.ref b_109), .unset, .unset, .unset] [(.ref b_120)]))
  refine Go.st (fun t' k' => XS.astore X120.here hx rfl (hb hby at_167) rfl rfl (l' := #[.val (.int len), .val (.int bits), .val (.int (2 : Int32)), .val (.int b0), .val (.int b1), .val (.int b2), .val (.int b3), .val (.ref b101), .val (.ref b_109), .val (.ref b_120), .unset, .unset]) rfl k') ?_
  show Go p e below _ (T120.setTop (mkF m 169 #[.val (.int len), .val (.int bits), .val (.int (2 : Int32)), .val (.int b0), .val (.int b1), .val (.int b2), .val (.int b3), .val (.ref b101), .val (.ref b_109), .val (.ref b_120), .unset, .unset] []))
  refine Go.st (fun t' k' => XS.aload X120.here hx rfl (hb hby at_169) rfl rfl k') ?_
  show Go p e below _ (T120.setTop (mkF m 171 #[.val (.int len), .val (.int bits), .val (.int (2 : Int32)), .val (.int b0), .val (.int b1), .val (.int b2), .val (.int b3), .val (.ref b101), .val (.ref b_109), .val (.ref b_120), .unset, .unset] [(.ref b_120)]))
  obtain ⟨cq122, kq122, q122a, q122b, q122c⟩ := isOf hZ109 rfl Eb_120
  obtain ⟨_, _, ⟨T122, L122, k122, n122⟩, -, X122, ⟨Lc122, hQ122, l122, y122, z122⟩, st122⟩ := X120.virtualBack hx (y := (⟨"java/util/Optional", "isPresent", "()Z"⟩ : MethodName)) (z := (⟨"java/util/Optional", "isPresent", "()Z"⟩ : MethodName)) hown109 (mvT hZ109 (hw _ (List.mem_of_getElem? (i := 53) rfl))) (mvT hZ109 (hw _ (List.mem_of_getElem? (i := 54) rfl))) (notFace_of_selects (args := #[]) (mvT hZ109 (hw _ (List.mem_of_getElem? (i := 56) rfl)))) (mvT hZ109 (hw _ (List.mem_of_getElem? (i := 56) rfl))) (mvT hZ109 (hw _ (List.mem_of_getElem? (i := 55) rfl))) (by decide) (backOf (W := 0) (rmIs1 l Z a0 hw [] b_120 u_120 T120.heap O120 Pv_120) hZ109 (hw _ (List.mem_of_getElem? (i := 57) rfl)) (hw _ (List.mem_of_getElem? (i := 50) rfl)) (by decide) (by decide)) q122a q122c (g := (mkF m 171 #[.val (.int len), .val (.int bits), .val (.int (2 : Int32)), .val (.int b0), .val (.int b1), .val (.int b2), .val (.int b3), .val (.ref b101), .val (.ref b_109), .val (.ref b_120), .unset, .unset] [(.ref b_120)])) rfl (by rw [hml]; rfl) (Steps.refl _) (argsL := []) (rest := []) (lenOf pd___Z rfl) rfl (by show 2 * 0 + _ ≤ _; exact Nat.le_of_eq rfl) (hb hby at_171) (fun _ _ => ⟨rfl, rfl, (by decide : 8 + 0 ≤ _), (by decide : 56 + 0 ≤ _)⟩)
  dsimp only [Pt.U, Pt.locs, Pt.cells, Pt.slots] at X122 l122 y122 z122 st122 hQ122
  subst y122 z122
  obtain ⟨rfl, rfl, e122⟩ := hQ122
  have N122 : Fr Z.heap.size L122 := by rw [l122]; exact Fr.app N120 (Fr.nil _)
  refine Go.tr st122 ?_
  show Go p e below _ (T122.setTop (mkF m 174 #[.val (.int len), .val (.int bits), .val (.int (2 : Int32)), .val (.int b0), .val (.int b1), .val (.int b2), .val (.int b3), .val (.ref b101), .val (.ref b_109), .val (.ref b_120), .unset, .unset] [(.int (1 : Int32))]))
  refine Go.st (fun t' k' => XS.ifYes X122.here hx rfl (pc0 := 174) (pc' := 179) rfl (hb hby at_174) rfl ((if0 _ _).trans (feq (by decide : ¬ ((1 : Int32) = (0 : Int32)))).2) (by decide) (by decide) k') ?_
  show Go p e below _ (T122.setTop (mkF m 179 #[.val (.int len), .val (.int bits), .val (.int (2 : Int32)), .val (.int b0), .val (.int b1), .val (.int b2), .val (.int b3), .val (.ref b101), .val (.ref b_109), .val (.ref b_120), .unset, .unset] []))
  refine Go.st (fun t' k' => XS.aload X122.here hx rfl (hb hby at_179) rfl rfl k') ?_
  show Go p e below _ (T122.setTop (mkF m 181 #[.val (.int len), .val (.int bits), .val (.int (2 : Int32)), .val (.int b0), .val (.int b1), .val (.int b2), .val (.int b3), .val (.ref b101), .val (.ref b_109), .val (.ref b_120), .unset, .unset] [(.ref b_120)]))
  obtain ⟨cq123, kq123, q123a, q123b, q123c⟩ := isOf hZ109 e122 Eb_120
  obtain ⟨_, _, ⟨T123, L123, k123, n123⟩, -, X123, ⟨Lc123, hQ123, l123, y123, z123⟩, st123⟩ := X122.virtualBack hx (y := (⟨"java/util/Optional", "get", "()Ljava/lang/Object;"⟩ : MethodName)) (z := (⟨"java/util/Optional", "get", "()Ljava/lang/Object;"⟩ : MethodName)) hown109 (mvT hZ109 (hw _ (List.mem_of_getElem? (i := 94) rfl))) (mvT hZ109 (hw _ (List.mem_of_getElem? (i := 95) rfl))) (notFace_of_selects (args := #[]) (mvT hZ109 (hw _ (List.mem_of_getElem? (i := 97) rfl)))) (mvT hZ109 (hw _ (List.mem_of_getElem? (i := 97) rfl))) (mvT hZ109 (hw _ (List.mem_of_getElem? (i := 96) rfl))) (by decide) (backOf (W := 0) (rmGet l Z a0 hw [] b_120 u_120 T120.heap O120 Pv_120) hZ109 (hw _ (List.mem_of_getElem? (i := 98) rfl)) (hw _ (List.mem_of_getElem? (i := 50) rfl)) (by decide) (by decide)) q123a q123c (g := (mkF m 181 #[.val (.int len), .val (.int bits), .val (.int (2 : Int32)), .val (.int b0), .val (.int b1), .val (.int b2), .val (.int b3), .val (.ref b101), .val (.ref b_109), .val (.ref b_120), .unset, .unset] [(.ref b_120)])) rfl (by rw [hml]; rfl) (Steps.refl _) (argsL := []) (rest := []) (lenOf pd___Ljava_lang_Object_ rfl) rfl (by show 2 * 0 + _ ≤ _; exact Nat.le_of_eq rfl) (hb hby at_181) (fun _ _ => ⟨rfl, e122, (by decide : 8 + 0 ≤ _), (by decide : 56 + 0 ≤ _)⟩)
  dsimp only [Pt.U, Pt.locs, Pt.cells, Pt.slots] at X123 l123 y123 z123 st123 hQ123
  subst y123 z123
  obtain ⟨rfl, rfl, e123⟩ := hQ123
  have N123 : Fr Z.heap.size L123 := by rw [l123]; exact Fr.app N122 (Fr.nil _)
  refine Go.tr st123 ?_
  show Go p e below _ (T123.setTop (mkF m 184 #[.val (.int len), .val (.int bits), .val (.int (2 : Int32)), .val (.int b0), .val (.int b1), .val (.int b2), .val (.int b3), .val (.ref b101), .val (.ref b_109), .val (.ref b_120), .unset, .unset] [(.ref u_120)]))
  obtain ⟨T124, X124, e124, st124⟩ := castY X123 hx hZ109 hown109 (hw _ (List.mem_of_getElem? (i := 99) rfl)) e123 (Ins.self Eu_120) (g := (mkF m 184 #[.val (.int len), .val (.int bits), .val (.int (2 : Int32)), .val (.int b0), .val (.int b1), .val (.int b2), .val (.int b3), .val (.ref b101), .val (.ref b_109), .val (.ref b_120), .unset, .unset] [(.ref u_120)])) rfl rfl (hb hby at_184)
  refine Go.st st124 ?_
  show Go p e below _ (T124.setTop (mkF m 187 #[.val (.int len), .val (.int bits), .val (.int (2 : Int32)), .val (.int b0), .val (.int b1), .val (.int b2), .val (.int b3), .val (.ref b101), .val (.ref b_109), .val (.ref b_120), .unset, .unset] [(.ref u_120)]))
  refine Go.st (fun t' k' => XS.astore X124.here hx rfl (hb hby at_187) rfl rfl (l' := #[.val (.int len), .val (.int bits), .val (.int (2 : Int32)), .val (.int b0), .val (.int b1), .val (.int b2), .val (.int b3), .val (.ref b101), .val (.ref b_109), .val (.ref b_120), .val (.ref u_120), .unset]) rfl k') ?_
  show Go p e below _ (T124.setTop (mkF m 189 #[.val (.int len), .val (.int bits), .val (.int (2 : Int32)), .val (.int b0), .val (.int b1), .val (.int b2), .val (.int b3), .val (.ref b101), .val (.ref b_109), .val (.ref b_120), .val (.ref u_120), .unset] []))
  refine Go.st (fun t' k' => XS.aload X124.here hx rfl (hb hby at_189) rfl rfl k') ?_
  show Go p e below _ (T124.setTop (mkF m 191 #[.val (.int len), .val (.int bits), .val (.int (2 : Int32)), .val (.int b0), .val (.int b1), .val (.int b2), .val (.int b3), .val (.ref b101), .val (.ref b_109), .val (.ref b_120), .val (.ref u_120), .unset] [(.ref u_120)]))
  refine Go.st (fun t' k' => XS.aload X124.here hx rfl (hb hby at_191) rfl rfl k') ?_
  show Go p e below _ (T124.setTop (mkF m 193 #[.val (.int len), .val (.int bits), .val (.int (2 : Int32)), .val (.int b0), .val (.int b1), .val (.int b2), .val (.int b3), .val (.ref b101), .val (.ref b_109), .val (.ref b_120), .val (.ref u_120), .unset] [(.ref b101), (.ref u_120)]))
  refine Go.st (fun t' k' => Jvm.RoadKit.acmp (g := (mkF m 193 #[.val (.int len), .val (.int bits), .val (.int (2 : Int32)), .val (.int b0), .val (.int b1), .val (.int b2), .val (.int b3), .val (.ref b101), .val (.ref b_109), .val (.ref b_120), .val (.ref u_120), .unset] [(.ref b101), (.ref u_120)])) X124 hx rfl rfl rfl (pc0 := 193) (pc' := 198) (same := false) rfl (hb hby at_193) rfl (decide_eq_false fun q => (Ne.symm ne_b101_u_120) (Value.ref.inj q)) (by decide) (by decide) k') ?_
  show Go p e below _ (T124.setTop (mkF m 198 #[.val (.int len), .val (.int bits), .val (.int (2 : Int32)), .val (.int b0), .val (.int b1), .val (.int b2), .val (.int b3), .val (.ref b101), .val (.ref b_109), .val (.ref b_120), .val (.ref u_120), .unset] []))
  refine Go.st (fun t' k' => XS.aload X124.here hx rfl (hb hby at_198) rfl rfl k') ?_
  show Go p e below _ (T124.setTop (mkF m 200 #[.val (.int len), .val (.int bits), .val (.int (2 : Int32)), .val (.int b0), .val (.int b1), .val (.int b2), .val (.int b3), .val (.ref b101), .val (.ref b_109), .val (.ref b_120), .val (.ref u_120), .unset] [(.ref u_120)]))
  refine Go.st (fun t' k' => XS.iloadN X124.here hx rfl (hb hby at_200) rfl k') ?_
  show Go p e below _ (T124.setTop (mkF m 201 #[.val (.int len), .val (.int bits), .val (.int (2 : Int32)), .val (.int b0), .val (.int b1), .val (.int b2), .val (.int b3), .val (.ref b101), .val (.ref b_109), .val (.ref b_120), .val (.ref u_120), .unset] [(.int (2 : Int32)), (.ref u_120)]))
  refine Go.st (fun t' k' => XS.iloadN X124.here hx rfl (hb hby at_201) rfl k') ?_
  show Go p e below _ (T124.setTop (mkF m 202 #[.val (.int len), .val (.int bits), .val (.int (2 : Int32)), .val (.int b0), .val (.int b1), .val (.int b2), .val (.int b3), .val (.ref b101), .val (.ref b_109), .val (.ref b_120), .val (.ref u_120), .unset] [(.int b0), (.int (2 : Int32)), (.ref u_120)]))
  refine Go.st (fun t' k' => XS.iload X124.here hx rfl (hb hby at_202) rfl k') ?_
  show Go p e below _ (T124.setTop (mkF m 204 #[.val (.int len), .val (.int bits), .val (.int (2 : Int32)), .val (.int b0), .val (.int b1), .val (.int b2), .val (.int b3), .val (.ref b101), .val (.ref b_109), .val (.ref b_120), .val (.ref u_120), .unset] [(.int b1), (.int b0), (.int (2 : Int32)), (.ref u_120)]))
  refine Go.st (fun t' k' => XS.iload X124.here hx rfl (hb hby at_204) rfl k') ?_
  show Go p e below _ (T124.setTop (mkF m 206 #[.val (.int len), .val (.int bits), .val (.int (2 : Int32)), .val (.int b0), .val (.int b1), .val (.int b2), .val (.int b3), .val (.ref b101), .val (.ref b_109), .val (.ref b_120), .val (.ref u_120), .unset] [(.int b2), (.int b1), (.int b0), (.int (2 : Int32)), (.ref u_120)]))
  refine Go.st (fun t' k' => XS.iload X124.here hx rfl (hb hby at_206) rfl k') ?_
  show Go p e below _ (T124.setTop (mkF m 208 #[.val (.int len), .val (.int bits), .val (.int (2 : Int32)), .val (.int b0), .val (.int b1), .val (.int b2), .val (.int b3), .val (.ref b101), .val (.ref b_109), .val (.ref b_120), .val (.ref u_120), .unset] [(.int b3), (.int b2), (.int b1), (.int b0), (.int (2 : Int32)), (.ref u_120)]))
  obtain ⟨_, _, ⟨T125, L125, k125, n125⟩, -, X125, ⟨Lc125, hQ125, l125, y125, z125⟩, st125⟩ := Jvm.LawKit.callS X124 hx (y := (⟨"com/example/claim/claim/model/VerificationResultAcceptedPinLaw", "same", "([BIBBBB)Z"⟩ : MethodName)) hown109 (mvT hZ109 (hw _ (List.mem_of_getElem? (i := 100) rfl))) (mvT hZ109 (hw _ (List.mem_of_getElem? (i := 101) rfl))) (mvT hZ109 (hw _ (List.mem_of_getElem? (i := 102) rfl))) (mvT hZ109 (hw _ (List.mem_of_getElem? (i := 103) rfl))) (by decide) (backOf (W := 0) (rmSm2 l Z a0 hw [] u_120 b0 b1 b2 b3 k101 T120.heap O120 Au_120) hZ109 (hw _ (List.mem_of_getElem? (i := 103) rfl)) (hw _ (List.mem_of_getElem? (i := 102) rfl)) (by decide) (by decide)) (g := (mkF m 208 #[.val (.int len), .val (.int bits), .val (.int (2 : Int32)), .val (.int b0), .val (.int b1), .val (.int b2), .val (.int b3), .val (.ref b101), .val (.ref b_109), .val (.ref b_120), .val (.ref u_120), .unset] [(.int b3), (.int b2), (.int b1), (.int b0), (.int (2 : Int32)), (.ref u_120)])) rfl (by rw [hml]; rfl) (argsL := [(.ref u_120), (.int (2 : Int32)), (.int b0), (.int b1), (.int b2), (.int b3)]) (rest := []) (lenOf pd___BIBBBB_Z rfl) rfl (by show 2 * 0 + _ ≤ _; exact Nat.le_of_eq rfl) (hb hby at_208) (fun _ _ => ⟨rfl, e124, (by decide : 8 + 0 ≤ _), (by decide : 56 + 0 ≤ _)⟩)
  dsimp only [Pt.U, Pt.locs, Pt.cells, Pt.slots] at X125 l125 y125 z125 st125 hQ125
  subst y125 z125
  obtain ⟨rfl, rfl, e125⟩ := hQ125
  have N125 : Fr Z.heap.size L125 := by rw [l125]; exact Fr.app N123 (Fr.nil _)
  refine Go.st st125 ?_
  show Go p e below _ (T125.setTop (mkF m 211 #[.val (.int len), .val (.int bits), .val (.int (2 : Int32)), .val (.int b0), .val (.int b1), .val (.int b2), .val (.int b3), .val (.ref b101), .val (.ref b_109), .val (.ref b_120), .val (.ref u_120), .unset] [(.int (1 : Int32))]))
  refine Go.st (fun t' k' => XS.ifYes X125.here hx rfl (pc0 := 211) (pc' := 216) rfl (hb hby at_211) rfl ((if0 _ _).trans (feq (by decide : ¬ ((1 : Int32) = (0 : Int32)))).2) (by decide) (by decide) k') ?_
  show Go p e below _ (T125.setTop (mkF m 216 #[.val (.int len), .val (.int bits), .val (.int (2 : Int32)), .val (.int b0), .val (.int b1), .val (.int b2), .val (.int b3), .val (.ref b101), .val (.ref b_109), .val (.ref b_120), .val (.ref u_120), .unset] []))
  refine Go.st (fun t' k' => XS.iloadN X125.here hx rfl (hb hby at_216) rfl k') ?_
  show Go p e below _ (T125.setTop (mkF m 217 #[.val (.int len), .val (.int bits), .val (.int (2 : Int32)), .val (.int b0), .val (.int b1), .val (.int b2), .val (.int b3), .val (.ref b101), .val (.ref b_109), .val (.ref b_120), .val (.ref u_120), .unset] [(.int (2 : Int32))]))
  refine Go.st (fun t' k' => XS.ifNo X125.here hx rfl (hb hby at_217) rfl ((if0 _ _).trans (tlt (by decide : (0 : Int32) < (2 : Int32))).2.2.2) k') ?_
  show Go p e below _ (T125.setTop (mkF m 220 #[.val (.int len), .val (.int bits), .val (.int (2 : Int32)), .val (.int b0), .val (.int b1), .val (.int b2), .val (.int b3), .val (.ref b101), .val (.ref b_109), .val (.ref b_120), .val (.ref u_120), .unset] []))
  refine Go.st (fun t' k' => XS.aload X125.here hx rfl (hb hby at_220) rfl rfl k') ?_
  show Go p e below _ (T125.setTop (mkF m 222 #[.val (.int len), .val (.int bits), .val (.int (2 : Int32)), .val (.int b0), .val (.int b1), .val (.int b2), .val (.int b3), .val (.ref b101), .val (.ref b_109), .val (.ref b_120), .val (.ref u_120), .unset] [(.ref u_120)]))
  refine Go.st (fun t' k' => XS.iconst X125.here hx rfl (hb hby at_222) k') ?_
  show Go p e below _ (T125.setTop (mkF m 223 #[.val (.int len), .val (.int bits), .val (.int (2 : Int32)), .val (.int b0), .val (.int b1), .val (.int b2), .val (.int b3), .val (.ref b101), .val (.ref b_109), .val (.ref b_120), .val (.ref u_120), .unset] [(.int (0 : Int32)), (.ref u_120)]))
  refine Go.st (fun t' k' => XS.iloadN X125.here hx rfl (hb hby at_223) rfl k') ?_
  show Go p e below _ (T125.setTop (mkF m 224 #[.val (.int len), .val (.int bits), .val (.int (2 : Int32)), .val (.int b0), .val (.int b1), .val (.int b2), .val (.int b3), .val (.ref b101), .val (.ref b_109), .val (.ref b_120), .val (.ref u_120), .unset] [(.int b0), (.int (0 : Int32)), (.ref u_120)]))
  refine Go.st (fun t' k' => XS.iconst X125.here hx rfl (hb hby at_224) k') ?_
  show Go p e below _ (T125.setTop (mkF m 225 #[.val (.int len), .val (.int bits), .val (.int (2 : Int32)), .val (.int b0), .val (.int b1), .val (.int b2), .val (.int b3), .val (.ref b101), .val (.ref b_109), .val (.ref b_120), .val (.ref u_120), .unset] [(.int (-1 : Int32)), (.int b0), (.int (0 : Int32)), (.ref u_120)]))
  refine Go.st (fun t' k' => XS.ixor X125.here hx rfl (hb hby at_225) rfl k') ?_
  show Go p e below _ (T125.setTop (mkF m 226 #[.val (.int len), .val (.int bits), .val (.int (2 : Int32)), .val (.int b0), .val (.int b1), .val (.int b2), .val (.int b3), .val (.ref b101), .val (.ref b_109), .val (.ref b_120), .val (.ref u_120), .unset] [(.int (b0 ^^^ (-1 : Int32))), (.int (0 : Int32)), (.ref u_120)]))
  refine Go.st (fun t' k' => XS.i2b X125.here hx rfl (hb hby at_226) rfl k') ?_
  show Go p e below _ (T125.setTop (mkF m 227 #[.val (.int len), .val (.int bits), .val (.int (2 : Int32)), .val (.int b0), .val (.int b1), .val (.int b2), .val (.int b3), .val (.ref b101), .val (.ref b_109), .val (.ref b_120), .val (.ref u_120), .unset] [(.int ((b0 ^^^ (-1 : Int32)).toInt8.toInt32)), (.int (0 : Int32)), (.ref u_120)]))
  obtain ⟨cls126, Ars126, qs126, Szs126, Nzs126, Hss126, Gss126⟩ := (id Au_120)
  have hins126 : ¬ ((0 : Int32) < 0 ∨ cls126.slots.size ≤ ((0 : Int32)).toNatClampNeg) := inb_of Szs126 ⟨by decide, by decide⟩
  obtain ⟨T127, h127, X127, e127, W127, st127⟩ := stB X125 hx hZ109 e125 Ars126 (j := (0 : Int32)) hins126 (g := (mkF m 227 #[.val (.int len), .val (.int bits), .val (.int (2 : Int32)), .val (.int b0), .val (.int b1), .val (.int b2), .val (.int b3), .val (.ref b101), .val (.ref b_109), .val (.ref b_120), .val (.ref u_120), .unset] [(.int ((b0 ^^^ (-1 : Int32)).toInt8.toInt32)), (.int (0 : Int32)), (.ref u_120)])) rfl rfl (hb hby at_227)
  refine Go.st st127 ?_
  have V_u_120_127 : Arv Z h127 u_120 k101 .byte (2 : Int32) [(.int ((b0 ^^^ (-1 : Int32)).toInt8.toInt32).toInt8.toInt32), (.int b1)] (.int (0 : Int32)) := own_set (vs := [(.int b0), (.int b1)]) (v' := (.int ((b0 ^^^ (-1 : Int32)).toInt8.toInt32).toInt8.toInt32)) Ars126 qs126 Szs126 Nzs126 Hss126 Gss126 (fits_nar_byte _) W127 0 rfl (Nat.le_of_ble_eq_true rfl) rfl rfl
  have Q101_h128 := Q101_h121.wr W127
  have Eb_109_h128 := Eb_109_h121.wr W127
  have Pp_109_h128 := Pp_109_h121.other W127 (Or.inl ne_b_109_u_120)
  have Pq_109_h128 := Pq_109_h121.other W127 (Or.inl ne_b_109_u_120)
  have Eq__109_h128 := Eq__109_h121.wr W127
  have Aq_109_h128 := Aq_109_h121.other W127 ne_q_109_u_120
  have V_b101_115_h128 := V_b101_115_h121.other W127 ne_b101_u_120
  have Eb_120_h128 := Eb_120.wr W127
  have Pv_120_h128 := Pv_120.other W127 (Or.inl Nbu_120)
  have Eu_120_h128 := Eu_120.wr W127
  have hk127 := Nat.le_trans hk120 (Keep.of_wr W127).1
  have O127 := own_ext_wr O120 W127 Gu_120
  have N127 := Fr.snoc X127 N125 Gu_120
  show Go p e below _ (T127.setTop (mkF m 228 #[.val (.int len), .val (.int bits), .val (.int (2 : Int32)), .val (.int b0), .val (.int b1), .val (.int b2), .val (.int b3), .val (.ref b101), .val (.ref b_109), .val (.ref b_120), .val (.ref u_120), .unset] []))
  refine Go.st (fun t' k' => XS.iloadN X127.here hx rfl (hb hby at_228) rfl k') ?_
  show Go p e below _ (T127.setTop (mkF m 229 #[.val (.int len), .val (.int bits), .val (.int (2 : Int32)), .val (.int b0), .val (.int b1), .val (.int b2), .val (.int b3), .val (.ref b101), .val (.ref b_109), .val (.ref b_120), .val (.ref u_120), .unset] [(.int (2 : Int32))]))
  refine Go.st (fun t' k' => XS.iconst X127.here hx rfl (hb hby at_229) k') ?_
  show Go p e below _ (T127.setTop (mkF m 230 #[.val (.int len), .val (.int bits), .val (.int (2 : Int32)), .val (.int b0), .val (.int b1), .val (.int b2), .val (.int b3), .val (.ref b101), .val (.ref b_109), .val (.ref b_120), .val (.ref u_120), .unset] [(.int (1 : Int32)), (.int (2 : Int32))]))
  refine Go.st (fun t' k' => XS.icmpNo X127.here hx rfl (hb hby at_230) rfl (tlt (by decide : (1 : Int32) < (2 : Int32))).2.2.2 k') ?_
  show Go p e below _ (T127.setTop (mkF m 233 #[.val (.int len), .val (.int bits), .val (.int (2 : Int32)), .val (.int b0), .val (.int b1), .val (.int b2), .val (.int b3), .val (.ref b101), .val (.ref b_109), .val (.ref b_120), .val (.ref u_120), .unset] []))
  refine Go.st (fun t' k' => XS.aload X127.here hx rfl (hb hby at_233) rfl rfl k') ?_
  show Go p e below _ (T127.setTop (mkF m 235 #[.val (.int len), .val (.int bits), .val (.int (2 : Int32)), .val (.int b0), .val (.int b1), .val (.int b2), .val (.int b3), .val (.ref b101), .val (.ref b_109), .val (.ref b_120), .val (.ref u_120), .unset] [(.ref u_120)]))
  refine Go.st (fun t' k' => XS.iconst X127.here hx rfl (hb hby at_235) k') ?_
  show Go p e below _ (T127.setTop (mkF m 236 #[.val (.int len), .val (.int bits), .val (.int (2 : Int32)), .val (.int b0), .val (.int b1), .val (.int b2), .val (.int b3), .val (.ref b101), .val (.ref b_109), .val (.ref b_120), .val (.ref u_120), .unset] [(.int (1 : Int32)), (.ref u_120)]))
  refine Go.st (fun t' k' => XS.iload X127.here hx rfl (hb hby at_236) rfl k') ?_
  show Go p e below _ (T127.setTop (mkF m 238 #[.val (.int len), .val (.int bits), .val (.int (2 : Int32)), .val (.int b0), .val (.int b1), .val (.int b2), .val (.int b3), .val (.ref b101), .val (.ref b_109), .val (.ref b_120), .val (.ref u_120), .unset] [(.int b1), (.int (1 : Int32)), (.ref u_120)]))
  refine Go.st (fun t' k' => XS.iconst X127.here hx rfl (hb hby at_238) k') ?_
  show Go p e below _ (T127.setTop (mkF m 239 #[.val (.int len), .val (.int bits), .val (.int (2 : Int32)), .val (.int b0), .val (.int b1), .val (.int b2), .val (.int b3), .val (.ref b101), .val (.ref b_109), .val (.ref b_120), .val (.ref u_120), .unset] [(.int (-1 : Int32)), (.int b1), (.int (1 : Int32)), (.ref u_120)]))
  refine Go.st (fun t' k' => XS.ixor X127.here hx rfl (hb hby at_239) rfl k') ?_
  show Go p e below _ (T127.setTop (mkF m 240 #[.val (.int len), .val (.int bits), .val (.int (2 : Int32)), .val (.int b0), .val (.int b1), .val (.int b2), .val (.int b3), .val (.ref b101), .val (.ref b_109), .val (.ref b_120), .val (.ref u_120), .unset] [(.int (b1 ^^^ (-1 : Int32))), (.int (1 : Int32)), (.ref u_120)]))
  refine Go.st (fun t' k' => XS.i2b X127.here hx rfl (hb hby at_240) rfl k') ?_
  show Go p e below _ (T127.setTop (mkF m 241 #[.val (.int len), .val (.int bits), .val (.int (2 : Int32)), .val (.int b0), .val (.int b1), .val (.int b2), .val (.int b3), .val (.ref b101), .val (.ref b_109), .val (.ref b_120), .val (.ref u_120), .unset] [(.int ((b1 ^^^ (-1 : Int32)).toInt8.toInt32)), (.int (1 : Int32)), (.ref u_120)]))
  obtain ⟨cls129, Ars129, qs129, Szs129, Nzs129, Hss129, Gss129⟩ := (id V_u_120_127)
  have hins129 : ¬ ((1 : Int32) < 0 ∨ cls129.slots.size ≤ ((1 : Int32)).toNatClampNeg) := inb_of Szs129 ⟨by decide, by decide⟩
  obtain ⟨T130, h130, X130, e130, W130, st130⟩ := stB X127 hx hZ109 e127 Ars129 (j := (1 : Int32)) hins129 (g := (mkF m 241 #[.val (.int len), .val (.int bits), .val (.int (2 : Int32)), .val (.int b0), .val (.int b1), .val (.int b2), .val (.int b3), .val (.ref b101), .val (.ref b_109), .val (.ref b_120), .val (.ref u_120), .unset] [(.int ((b1 ^^^ (-1 : Int32)).toInt8.toInt32)), (.int (1 : Int32)), (.ref u_120)])) rfl rfl (hb hby at_241)
  refine Go.st st130 ?_
  have V_u_120_130 : Arv Z h130 u_120 k101 .byte (2 : Int32) [(.int ((b0 ^^^ (-1 : Int32)).toInt8.toInt32).toInt8.toInt32), (.int ((b1 ^^^ (-1 : Int32)).toInt8.toInt32).toInt8.toInt32)] (.int (0 : Int32)) := own_set (vs := [(.int ((b0 ^^^ (-1 : Int32)).toInt8.toInt32).toInt8.toInt32), (.int b1)]) (v' := (.int ((b1 ^^^ (-1 : Int32)).toInt8.toInt32).toInt8.toInt32)) Ars129 qs129 Szs129 Nzs129 Hss129 Gss129 (fits_nar_byte _) W130 1 rfl (Nat.le_of_ble_eq_true rfl) rfl rfl
  have Q101_h131 := Q101_h128.wr W130
  have Eb_109_h131 := Eb_109_h128.wr W130
  have Pp_109_h131 := Pp_109_h128.other W130 (Or.inl ne_b_109_u_120)
  have Pq_109_h131 := Pq_109_h128.other W130 (Or.inl ne_b_109_u_120)
  have Eq__109_h131 := Eq__109_h128.wr W130
  have Aq_109_h131 := Aq_109_h128.other W130 ne_q_109_u_120
  have V_b101_115_h131 := V_b101_115_h128.other W130 ne_b101_u_120
  have Eb_120_h131 := Eb_120_h128.wr W130
  have Pv_120_h131 := Pv_120_h128.other W130 (Or.inl Nbu_120)
  have Eu_120_h131 := Eu_120_h128.wr W130
  have hk130 := Nat.le_trans hk127 (Keep.of_wr W130).1
  have O130 := own_ext_wr O127 W130 Gu_120
  have N130 := Fr.snoc X130 N127 Gu_120
  show Go p e below _ (T130.setTop (mkF m 242 #[.val (.int len), .val (.int bits), .val (.int (2 : Int32)), .val (.int b0), .val (.int b1), .val (.int b2), .val (.int b3), .val (.ref b101), .val (.ref b_109), .val (.ref b_120), .val (.ref u_120), .unset] []))
  refine Go.st (fun t' k' => XS.iloadN X130.here hx rfl (hb hby at_242) rfl k') ?_
  show Go p e below _ (T130.setTop (mkF m 243 #[.val (.int len), .val (.int bits), .val (.int (2 : Int32)), .val (.int b0), .val (.int b1), .val (.int b2), .val (.int b3), .val (.ref b101), .val (.ref b_109), .val (.ref b_120), .val (.ref u_120), .unset] [(.int (2 : Int32))]))
  refine Go.st (fun t' k' => XS.iconst X130.here hx rfl (hb hby at_243) k') ?_
  show Go p e below _ (T130.setTop (mkF m 244 #[.val (.int len), .val (.int bits), .val (.int (2 : Int32)), .val (.int b0), .val (.int b1), .val (.int b2), .val (.int b3), .val (.ref b101), .val (.ref b_109), .val (.ref b_120), .val (.ref u_120), .unset] [(.int (2 : Int32)), (.int (2 : Int32))]))
  refine Go.st (fun t' k' => XS.icmpYes X130.here hx rfl (pc0 := 244) (pc' := 256) rfl (hb hby at_244) rfl (flt (by decide : ¬ ((2 : Int32) < (2 : Int32)))).2.2.2 (by decide) (by decide) k') ?_
  show Go p e below _ (T130.setTop (mkF m 256 #[.val (.int len), .val (.int bits), .val (.int (2 : Int32)), .val (.int b0), .val (.int b1), .val (.int b2), .val (.int b3), .val (.ref b101), .val (.ref b_109), .val (.ref b_120), .val (.ref u_120), .unset] []))
  refine Go.st (fun t' k' => XS.iloadN X130.here hx rfl (hb hby at_256) rfl k') ?_
  show Go p e below _ (T130.setTop (mkF m 257 #[.val (.int len), .val (.int bits), .val (.int (2 : Int32)), .val (.int b0), .val (.int b1), .val (.int b2), .val (.int b3), .val (.ref b101), .val (.ref b_109), .val (.ref b_120), .val (.ref u_120), .unset] [(.int (2 : Int32))]))
  refine Go.st (fun t' k' => XS.iconst X130.here hx rfl (hb hby at_257) k') ?_
  show Go p e below _ (T130.setTop (mkF m 258 #[.val (.int len), .val (.int bits), .val (.int (2 : Int32)), .val (.int b0), .val (.int b1), .val (.int b2), .val (.int b3), .val (.ref b101), .val (.ref b_109), .val (.ref b_120), .val (.ref u_120), .unset] [(.int (3 : Int32)), (.int (2 : Int32))]))
  refine Go.st (fun t' k' => XS.icmpYes X130.here hx rfl (pc0 := 258) (pc' := 270) rfl (hb hby at_258) rfl (flt (by decide : ¬ ((3 : Int32) < (2 : Int32)))).2.2.2 (by decide) (by decide) k') ?_
  show Go p e below _ (T130.setTop (mkF m 270 #[.val (.int len), .val (.int bits), .val (.int (2 : Int32)), .val (.int b0), .val (.int b1), .val (.int b2), .val (.int b3), .val (.ref b101), .val (.ref b_109), .val (.ref b_120), .val (.ref u_120), .unset] []))
  refine Go.st (fun t' k' => XS.aload X130.here hx rfl (hb hby at_270) rfl rfl k') ?_
  show Go p e below _ (T130.setTop (mkF m 272 #[.val (.int len), .val (.int bits), .val (.int (2 : Int32)), .val (.int b0), .val (.int b1), .val (.int b2), .val (.int b3), .val (.ref b101), .val (.ref b_109), .val (.ref b_120), .val (.ref u_120), .unset] [(.ref b_109)]))
  obtain ⟨cq132, kq132, q132a, q132b, q132c⟩ := isOf hZ109 e130 Eb_109_h131
  obtain ⟨_, _, ⟨T132, L132, k132, n132⟩, -, X132, ⟨Lc132, hQ132, l132, y132, z132⟩, st132⟩ := X130.virtualBack hx (y := (⟨"com/example/claim/claim/model/VerificationResult", "payload", "()Ljava/util/Optional;"⟩ : MethodName)) (z := (⟨"com/example/claim/claim/model/VerificationResult", "payload", "()Ljava/util/Optional;"⟩ : MethodName)) hown109 (mvT hZ109 (hw _ (List.mem_of_getElem? (i := 60) rfl))) (mvT hZ109 (hw _ (List.mem_of_getElem? (i := 61) rfl))) (notFace_of_selects (args := #[]) (mvT hZ109 (hw _ (List.mem_of_getElem? (i := 63) rfl)))) (mvT hZ109 (hw _ (List.mem_of_getElem? (i := 63) rfl))) (mvT hZ109 (hw _ (List.mem_of_getElem? (i := 62) rfl))) (by decide) (backOf (W := 0) (rmPl l Z a0 hw [] b_109 q_109 k101 ((2 : Int32)) ([(.int b0), (.int b1)]) h130 O130 Pp_109_h131 Eq__109_h131 Aq_109_h131 (by decide)) hZ109 (hw _ (List.mem_of_getElem? (i := 64) rfl)) (hw _ (List.mem_of_getElem? (i := 4) rfl)) (by decide) (by decide)) q132a q132c (g := (mkF m 272 #[.val (.int len), .val (.int bits), .val (.int (2 : Int32)), .val (.int b0), .val (.int b1), .val (.int b2), .val (.int b3), .val (.ref b101), .val (.ref b_109), .val (.ref b_120), .val (.ref u_120), .unset] [(.ref b_109)])) rfl (by rw [hml]; rfl) (Steps.refl _) (argsL := []) (rest := []) (lenOf pd___Ljava_util_Optional_ rfl) rfl (by show 2 * 0 + _ ≤ _; exact Nat.le_of_eq rfl) (hb hby at_272) (fun _ _ => ⟨rfl, e130, (by decide : 8 + 3 ≤ _), (by decide : 56 + 6 ≤ _)⟩)
  dsimp only [Pt.U, Pt.locs, Pt.cells, Pt.slots] at X132 l132 y132 z132 st132 hQ132
  subst y132 z132
  obtain ⟨b_132, u_132, rfl, N132q, O132, Kc132, Eb_132, Pv_132, Eu_132, Au_132, Gb_132, Gu_132, Sb_132, Su_132, Nbu_132⟩ := hQ132
  have N132 : Fr Z.heap.size L132 := by rw [l132]; exact Fr.app N130 N132q
  refine Go.tr st132 ?_
  have hk132 := Nat.le_trans hk130 Kc132.1
  have Q101_h133 := Q101_h131.keep Kc132
  have Eb_109_h133 := Eb_109_h131.keep Kc132
  have Pp_109_h133 := Pp_109_h131.keep Kc132 nin0
  have Pq_109_h133 := Pq_109_h131.keep Kc132 nin0
  have Eq__109_h133 := Eq__109_h131.keep Kc132
  have Aq_109_h133 := Aq_109_h131.keep Kc132 nin0
  have V_b101_115_h133 := V_b101_115_h131.keep Kc132 nin0
  have Eb_120_h133 := Eb_120_h131.keep Kc132
  have Pv_120_h133 := Pv_120_h131.keep Kc132 nin0
  have Eu_120_h133 := Eu_120_h131.keep Kc132
  have V_u_120_130_h133 := V_u_120_130.keep Kc132 nin0
  have ne_w_EMPTY_b_132 : w_EMPTY ≠ b_132 := Nat.ne_of_lt (Nat.lt_of_lt_of_le (E_EMPTY.ext O130).lt Sb_132)
  have ne_b101_b_132 : b101 ≠ b_132 := Nat.ne_of_lt (Nat.lt_of_lt_of_le Q101_h131.lt Sb_132)
  have ne_b_109_b_132 : b_109 ≠ b_132 := Nat.ne_of_lt (Nat.lt_of_lt_of_le Eb_109_h131.lt Sb_132)
  have ne_q_109_b_132 : q_109 ≠ b_132 := Nat.ne_of_lt (Nat.lt_of_lt_of_le Eq__109_h131.lt Sb_132)
  have ne_b_120_b_132 : b_120 ≠ b_132 := Nat.ne_of_lt (Nat.lt_of_lt_of_le Eb_120_h131.lt Sb_132)
  have ne_u_120_b_132 : u_120 ≠ b_132 := Nat.ne_of_lt (Nat.lt_of_lt_of_le Eu_120_h131.lt Sb_132)
  have ne_w_EMPTY_u_132 : w_EMPTY ≠ u_132 := Nat.ne_of_lt (Nat.lt_of_lt_of_le (E_EMPTY.ext O130).lt Su_132)
  have ne_b101_u_132 : b101 ≠ u_132 := Nat.ne_of_lt (Nat.lt_of_lt_of_le Q101_h131.lt Su_132)
  have ne_b_109_u_132 : b_109 ≠ u_132 := Nat.ne_of_lt (Nat.lt_of_lt_of_le Eb_109_h131.lt Su_132)
  have ne_q_109_u_132 : q_109 ≠ u_132 := Nat.ne_of_lt (Nat.lt_of_lt_of_le Eq__109_h131.lt Su_132)
  have ne_b_120_u_132 : b_120 ≠ u_132 := Nat.ne_of_lt (Nat.lt_of_lt_of_le Eb_120_h131.lt Su_132)
  have ne_u_120_u_132 : u_120 ≠ u_132 := Nat.ne_of_lt (Nat.lt_of_lt_of_le Eu_120_h131.lt Su_132)
  show Go p e below _ (T132.setTop (mkF m 275 #[.val (.int len), .val (.int bits), .val (.int (2 : Int32)), .val (.int b0), .val (.int b1), .val (.int b2), .val (.int b3), .val (.ref b101), .val (.ref b_109), .val (.ref b_120), .val (.ref u_120), .unset] [(.ref b_132)]))
  refine Go.st (fun t' k' => XS.astore X132.here hx rfl (hb hby at_275) rfl rfl (l' := #[.val (.int len), .val (.int bits), .val (.int (2 : Int32)), .val (.int b0), .val (.int b1), .val (.int b2), .val (.int b3), .val (.ref b101), .val (.ref b_109), .val (.ref b_120), .val (.ref u_120), .val (.ref b_132)]) rfl k') ?_
  show Go p e below _ (T132.setTop (mkF m 277 #[.val (.int len), .val (.int bits), .val (.int (2 : Int32)), .val (.int b0), .val (.int b1), .val (.int b2), .val (.int b3), .val (.ref b101), .val (.ref b_109), .val (.ref b_120), .val (.ref u_120), .val (.ref b_132)] []))
  refine Go.st (fun t' k' => XS.aload X132.here hx rfl (hb hby at_277) rfl rfl k') ?_
  show Go p e below _ (T132.setTop (mkF m 279 #[.val (.int len), .val (.int bits), .val (.int (2 : Int32)), .val (.int b0), .val (.int b1), .val (.int b2), .val (.int b3), .val (.ref b101), .val (.ref b_109), .val (.ref b_120), .val (.ref u_120), .val (.ref b_132)] [(.ref b_132)]))
  obtain ⟨cq134, kq134, q134a, q134b, q134c⟩ := isOf hZ109 rfl Eb_132
  obtain ⟨_, _, ⟨T134, L134, k134, n134⟩, -, X134, ⟨Lc134, hQ134, l134, y134, z134⟩, st134⟩ := X132.virtualBack hx (y := (⟨"java/util/Optional", "isPresent", "()Z"⟩ : MethodName)) (z := (⟨"java/util/Optional", "isPresent", "()Z"⟩ : MethodName)) hown109 (mvT hZ109 (hw _ (List.mem_of_getElem? (i := 53) rfl))) (mvT hZ109 (hw _ (List.mem_of_getElem? (i := 54) rfl))) (notFace_of_selects (args := #[]) (mvT hZ109 (hw _ (List.mem_of_getElem? (i := 56) rfl)))) (mvT hZ109 (hw _ (List.mem_of_getElem? (i := 56) rfl))) (mvT hZ109 (hw _ (List.mem_of_getElem? (i := 55) rfl))) (by decide) (backOf (W := 0) (rmIs1 l Z a0 hw [] b_132 u_132 T132.heap O132 Pv_132) hZ109 (hw _ (List.mem_of_getElem? (i := 57) rfl)) (hw _ (List.mem_of_getElem? (i := 50) rfl)) (by decide) (by decide)) q134a q134c (g := (mkF m 279 #[.val (.int len), .val (.int bits), .val (.int (2 : Int32)), .val (.int b0), .val (.int b1), .val (.int b2), .val (.int b3), .val (.ref b101), .val (.ref b_109), .val (.ref b_120), .val (.ref u_120), .val (.ref b_132)] [(.ref b_132)])) rfl (by rw [hml]; rfl) (Steps.refl _) (argsL := []) (rest := []) (lenOf pd___Z rfl) rfl (by show 2 * 0 + _ ≤ _; exact Nat.le_of_eq rfl) (hb hby at_279) (fun _ _ => ⟨rfl, rfl, (by decide : 11 + 0 ≤ _), (by decide : 62 + 0 ≤ _)⟩)
  dsimp only [Pt.U, Pt.locs, Pt.cells, Pt.slots] at X134 l134 y134 z134 st134 hQ134
  subst y134 z134
  obtain ⟨rfl, rfl, e134⟩ := hQ134
  have N134 : Fr Z.heap.size L134 := by rw [l134]; exact Fr.app N132 (Fr.nil _)
  refine Go.tr st134 ?_
  show Go p e below _ (T134.setTop (mkF m 282 #[.val (.int len), .val (.int bits), .val (.int (2 : Int32)), .val (.int b0), .val (.int b1), .val (.int b2), .val (.int b3), .val (.ref b101), .val (.ref b_109), .val (.ref b_120), .val (.ref u_120), .val (.ref b_132)] [(.int (1 : Int32))]))
  refine Go.st (fun t' k' => XS.ifYes X134.here hx rfl (pc0 := 282) (pc' := 287) rfl (hb hby at_282) rfl ((if0 _ _).trans (feq (by decide : ¬ ((1 : Int32) = (0 : Int32)))).2) (by decide) (by decide) k') ?_
  show Go p e below _ (T134.setTop (mkF m 287 #[.val (.int len), .val (.int bits), .val (.int (2 : Int32)), .val (.int b0), .val (.int b1), .val (.int b2), .val (.int b3), .val (.ref b101), .val (.ref b_109), .val (.ref b_120), .val (.ref u_120), .val (.ref b_132)] []))
  refine Go.st (fun t' k' => XS.aload X134.here hx rfl (hb hby at_287) rfl rfl k') ?_
  show Go p e below _ (T134.setTop (mkF m 289 #[.val (.int len), .val (.int bits), .val (.int (2 : Int32)), .val (.int b0), .val (.int b1), .val (.int b2), .val (.int b3), .val (.ref b101), .val (.ref b_109), .val (.ref b_120), .val (.ref u_120), .val (.ref b_132)] [(.ref b_132)]))
  obtain ⟨cq135, kq135, q135a, q135b, q135c⟩ := isOf hZ109 e134 Eb_132
  obtain ⟨_, _, ⟨T135, L135, k135, n135⟩, -, X135, ⟨Lc135, hQ135, l135, y135, z135⟩, st135⟩ := X134.virtualBack hx (y := (⟨"java/util/Optional", "get", "()Ljava/lang/Object;"⟩ : MethodName)) (z := (⟨"java/util/Optional", "get", "()Ljava/lang/Object;"⟩ : MethodName)) hown109 (mvT hZ109 (hw _ (List.mem_of_getElem? (i := 94) rfl))) (mvT hZ109 (hw _ (List.mem_of_getElem? (i := 95) rfl))) (notFace_of_selects (args := #[]) (mvT hZ109 (hw _ (List.mem_of_getElem? (i := 97) rfl)))) (mvT hZ109 (hw _ (List.mem_of_getElem? (i := 97) rfl))) (mvT hZ109 (hw _ (List.mem_of_getElem? (i := 96) rfl))) (by decide) (backOf (W := 0) (rmGet l Z a0 hw [] b_132 u_132 T132.heap O132 Pv_132) hZ109 (hw _ (List.mem_of_getElem? (i := 98) rfl)) (hw _ (List.mem_of_getElem? (i := 50) rfl)) (by decide) (by decide)) q135a q135c (g := (mkF m 289 #[.val (.int len), .val (.int bits), .val (.int (2 : Int32)), .val (.int b0), .val (.int b1), .val (.int b2), .val (.int b3), .val (.ref b101), .val (.ref b_109), .val (.ref b_120), .val (.ref u_120), .val (.ref b_132)] [(.ref b_132)])) rfl (by rw [hml]; rfl) (Steps.refl _) (argsL := []) (rest := []) (lenOf pd___Ljava_lang_Object_ rfl) rfl (by show 2 * 0 + _ ≤ _; exact Nat.le_of_eq rfl) (hb hby at_289) (fun _ _ => ⟨rfl, e134, (by decide : 11 + 0 ≤ _), (by decide : 62 + 0 ≤ _)⟩)
  dsimp only [Pt.U, Pt.locs, Pt.cells, Pt.slots] at X135 l135 y135 z135 st135 hQ135
  subst y135 z135
  obtain ⟨rfl, rfl, e135⟩ := hQ135
  have N135 : Fr Z.heap.size L135 := by rw [l135]; exact Fr.app N134 (Fr.nil _)
  refine Go.tr st135 ?_
  show Go p e below _ (T135.setTop (mkF m 292 #[.val (.int len), .val (.int bits), .val (.int (2 : Int32)), .val (.int b0), .val (.int b1), .val (.int b2), .val (.int b3), .val (.ref b101), .val (.ref b_109), .val (.ref b_120), .val (.ref u_120), .val (.ref b_132)] [(.ref u_132)]))
  obtain ⟨T136, X136, e136, st136⟩ := castY X135 hx hZ109 hown109 (hw _ (List.mem_of_getElem? (i := 99) rfl)) e135 (Ins.self Eu_132) (g := (mkF m 292 #[.val (.int len), .val (.int bits), .val (.int (2 : Int32)), .val (.int b0), .val (.int b1), .val (.int b2), .val (.int b3), .val (.ref b101), .val (.ref b_109), .val (.ref b_120), .val (.ref u_120), .val (.ref b_132)] [(.ref u_132)])) rfl rfl (hb hby at_292)
  refine Go.st st136 ?_
  show Go p e below _ (T136.setTop (mkF m 295 #[.val (.int len), .val (.int bits), .val (.int (2 : Int32)), .val (.int b0), .val (.int b1), .val (.int b2), .val (.int b3), .val (.ref b101), .val (.ref b_109), .val (.ref b_120), .val (.ref u_120), .val (.ref b_132)] [(.ref u_132)]))
  refine Go.st (fun t' k' => XS.iloadN X136.here hx rfl (hb hby at_295) rfl k') ?_
  show Go p e below _ (T136.setTop (mkF m 296 #[.val (.int len), .val (.int bits), .val (.int (2 : Int32)), .val (.int b0), .val (.int b1), .val (.int b2), .val (.int b3), .val (.ref b101), .val (.ref b_109), .val (.ref b_120), .val (.ref u_120), .val (.ref b_132)] [(.int (2 : Int32)), (.ref u_132)]))
  refine Go.st (fun t' k' => XS.iloadN X136.here hx rfl (hb hby at_296) rfl k') ?_
  show Go p e below _ (T136.setTop (mkF m 297 #[.val (.int len), .val (.int bits), .val (.int (2 : Int32)), .val (.int b0), .val (.int b1), .val (.int b2), .val (.int b3), .val (.ref b101), .val (.ref b_109), .val (.ref b_120), .val (.ref u_120), .val (.ref b_132)] [(.int b0), (.int (2 : Int32)), (.ref u_132)]))
  refine Go.st (fun t' k' => XS.iload X136.here hx rfl (hb hby at_297) rfl k') ?_
  show Go p e below _ (T136.setTop (mkF m 299 #[.val (.int len), .val (.int bits), .val (.int (2 : Int32)), .val (.int b0), .val (.int b1), .val (.int b2), .val (.int b3), .val (.ref b101), .val (.ref b_109), .val (.ref b_120), .val (.ref u_120), .val (.ref b_132)] [(.int b1), (.int b0), (.int (2 : Int32)), (.ref u_132)]))
  refine Go.st (fun t' k' => XS.iload X136.here hx rfl (hb hby at_299) rfl k') ?_
  show Go p e below _ (T136.setTop (mkF m 301 #[.val (.int len), .val (.int bits), .val (.int (2 : Int32)), .val (.int b0), .val (.int b1), .val (.int b2), .val (.int b3), .val (.ref b101), .val (.ref b_109), .val (.ref b_120), .val (.ref u_120), .val (.ref b_132)] [(.int b2), (.int b1), (.int b0), (.int (2 : Int32)), (.ref u_132)]))
  refine Go.st (fun t' k' => XS.iload X136.here hx rfl (hb hby at_301) rfl k') ?_
  show Go p e below _ (T136.setTop (mkF m 303 #[.val (.int len), .val (.int bits), .val (.int (2 : Int32)), .val (.int b0), .val (.int b1), .val (.int b2), .val (.int b3), .val (.ref b101), .val (.ref b_109), .val (.ref b_120), .val (.ref u_120), .val (.ref b_132)] [(.int b3), (.int b2), (.int b1), (.int b0), (.int (2 : Int32)), (.ref u_132)]))
  obtain ⟨_, _, ⟨T137, L137, k137, n137⟩, -, X137, ⟨Lc137, hQ137, l137, y137, z137⟩, st137⟩ := Jvm.LawKit.callS X136 hx (y := (⟨"com/example/claim/claim/model/VerificationResultAcceptedPinLaw", "same", "([BIBBBB)Z"⟩ : MethodName)) hown109 (mvT hZ109 (hw _ (List.mem_of_getElem? (i := 100) rfl))) (mvT hZ109 (hw _ (List.mem_of_getElem? (i := 101) rfl))) (mvT hZ109 (hw _ (List.mem_of_getElem? (i := 102) rfl))) (mvT hZ109 (hw _ (List.mem_of_getElem? (i := 103) rfl))) (by decide) (backOf (W := 0) (rmSm2 l Z a0 hw [] u_132 b0 b1 b2 b3 k101 T132.heap O132 Au_132) hZ109 (hw _ (List.mem_of_getElem? (i := 103) rfl)) (hw _ (List.mem_of_getElem? (i := 102) rfl)) (by decide) (by decide)) (g := (mkF m 303 #[.val (.int len), .val (.int bits), .val (.int (2 : Int32)), .val (.int b0), .val (.int b1), .val (.int b2), .val (.int b3), .val (.ref b101), .val (.ref b_109), .val (.ref b_120), .val (.ref u_120), .val (.ref b_132)] [(.int b3), (.int b2), (.int b1), (.int b0), (.int (2 : Int32)), (.ref u_132)])) rfl (by rw [hml]; rfl) (argsL := [(.ref u_132), (.int (2 : Int32)), (.int b0), (.int b1), (.int b2), (.int b3)]) (rest := []) (lenOf pd___BIBBBB_Z rfl) rfl (by show 2 * 0 + _ ≤ _; exact Nat.le_of_eq rfl) (hb hby at_303) (fun _ _ => ⟨rfl, e136, (by decide : 11 + 0 ≤ _), (by decide : 62 + 0 ≤ _)⟩)
  dsimp only [Pt.U, Pt.locs, Pt.cells, Pt.slots] at X137 l137 y137 z137 st137 hQ137
  subst y137 z137
  obtain ⟨rfl, rfl, e137⟩ := hQ137
  have N137 : Fr Z.heap.size L137 := by rw [l137]; exact Fr.app N135 (Fr.nil _)
  refine Go.st st137 ?_
  show Go p e below _ (T137.setTop (mkF m 306 #[.val (.int len), .val (.int bits), .val (.int (2 : Int32)), .val (.int b0), .val (.int b1), .val (.int b2), .val (.int b3), .val (.ref b101), .val (.ref b_109), .val (.ref b_120), .val (.ref u_120), .val (.ref b_132)] [(.int (1 : Int32))]))
  exact Go.outW X137 hS109 (by rw [e137]; exact hk132) (v := (some (.int (1 : Int32)))) (fun h => by rw [hret] at h; cases h) hlk (fun fs hr => retN X137 hx (t := .boolean) hret (by simp) (hb hby at_306) hr) (Q := Q_rm0 Z len bits w_EMPTY h0) (by rw [e137]; exact ⟨rfl, N137⟩) (by decide) (by decide)
set_option maxRecDepth 65536 in
set_option maxHeartbeats 40000000 in
theorem blk3 {p : Program} {l : Launch} {e : Env} {s : State} {m : MethodId} {below : List Frame} {meth : Method} {c : Code} {T0 : State} {locs : List Loc} {vm0 : Vm} {k0 : Nat} (Z : State) (a0 : Array Value) (hw : ∀ d ∈ tables_1, d.before a0 Z = true) (len : Int32) (bits : Int32) (w_EMPTY : Addr) (h0 : Heap) (S_EMPTY : Sta Z Z.heap "java/util/Optional" "EMPTY" "Ljava/util/Optional;" (.ref w_EMPTY)) (E_EMPTY : Exa Z Z.heap w_EMPTY "java/util/Optional") (F_EMPTY_value : Fld Z Z.heap w_EMPTY "java/util/Optional" "value" "Ljava/lang/Object;" .null) (b0 : Int32) (b1 : Int32) (b2 : Int32) (b3 : Int32) (h : Heap) (X0 : Stand p l e room_1 (s.setVm vm0) m #[(.int len), (.int bits)] below meth c T0 locs 0 0)
    (hx : p.tables.exec = Jvm.exec) (hZ : Z.Warmed39 (s.setVm vm0).vm) (hby : c.code = code) (hml : c.maxLocals = 12) (hown : (s.setVm vm0).vm.findClass "com/example/claim/claim/model/VerificationResultAcceptedPinLaw" = some m.cls) (hret : meth.sig.returnType = ret) (hlk : meth.locks = false) (e0 : T0.heap = h) (N0 : Fr Z.heap.size locs) (O0 : Ext Z.heap h) (hS0 : s.Since vm0 k0) (hk0 : k0 ≤ h.size) (hb0 : b0.toInt8.toInt32 = b0) (hb1 : b1.toInt8.toInt32 = b1) (hb2 : b2.toInt8.toInt32 = b2) (hb3 : b3.toInt8.toInt32 = b3) :
    Go p e below (GOW s (Q_rm0 Z len bits w_EMPTY h0) room_1.cells room_1.slots) (T0.setTop (mkF m 31 #[.val (.int len), .val (.int bits), .val (.int (3 : Int32)), .val (.int b0), .val (.int b1), .val (.int b2), .val (.int b3), .unset, .unset, .unset, .unset, .unset] [])) := by
  show Go p e below _ (T0.setTop (mkF m 31 #[.val (.int len), .val (.int bits), .val (.int (3 : Int32)), .val (.int b0), .val (.int b1), .val (.int b2), .val (.int b3), .unset, .unset, .unset, .unset, .unset] []))
  refine Go.st (fun t' k' => XS.iloadN X0.here hx rfl (hb hby at_31) rfl k') ?_
  show Go p e below _ (T0.setTop (mkF m 32 #[.val (.int len), .val (.int bits), .val (.int (3 : Int32)), .val (.int b0), .val (.int b1), .val (.int b2), .val (.int b3), .unset, .unset, .unset, .unset, .unset] [(.int (3 : Int32))]))
  obtain ⟨T101, h101, k101, X101, e101, E101, A101, Q101, st101⟩ := newPE X0 hx hZ (hw _ (List.mem_of_getElem? (i := 1) rfl)) e0 (g := (mkF m 32 #[.val (.int len), .val (.int bits), .val (.int (3 : Int32)), .val (.int b0), .val (.int b1), .val (.int b2), .val (.int b3), .unset, .unset, .unset, .unset, .unset] [(.int (3 : Int32))])) rfl (hb hby at_32) rfl (by decide) (cap := 3) (by decide) (by decide) (by decide) (by decide) (ad := "[B") (by decide +kernel)
  obtain ⟨b101, g101⟩ : ∃ z, z = h.size := ⟨_, rfl⟩
  rw [← g101] at A101 st101 Q101
  refine Go.st st101 ?_
  have ne_w_EMPTY_b101 : w_EMPTY ≠ b101 := Nat.ne_of_lt (Nat.lt_of_lt_of_le (E_EMPTY.ext O0).lt (Nat.le_of_eq g101.symm))
  have g_b101 : Z.heap.size ≤ b101 := Nat.le_trans O0.1 (Nat.le_of_eq g101.symm)
  have hk101 := Nat.le_trans hk0 E101.1
  have O101 := own_ext_trans O0 E101
  have V_b101 : Arv Z h101 b101 k101 .byte (3 : Int32) [(.int (0 : Int32)), (.int (0 : Int32)), (.int (0 : Int32))] (.int (0 : Int32)) := (Arv.new A101 (by decide)).pad (pad_rep [] (.int (0 : Int32)) 3)
  show Go p e below _ (T101.setTop (mkF m 34 #[.val (.int len), .val (.int bits), .val (.int (3 : Int32)), .val (.int b0), .val (.int b1), .val (.int b2), .val (.int b3), .unset, .unset, .unset, .unset, .unset] [(.ref b101)]))
  refine Go.st (fun t' k' => XS.astore X101.here hx rfl (hb hby at_34) rfl rfl (l' := #[.val (.int len), .val (.int bits), .val (.int (3 : Int32)), .val (.int b0), .val (.int b1), .val (.int b2), .val (.int b3), .val (.ref b101), .unset, .unset, .unset, .unset]) rfl k') ?_
  show Go p e below _ (T101.setTop (mkF m 36 #[.val (.int len), .val (.int bits), .val (.int (3 : Int32)), .val (.int b0), .val (.int b1), .val (.int b2), .val (.int b3), .val (.ref b101), .unset, .unset, .unset, .unset] []))
  refine Go.st (fun t' k' => XS.iloadN X101.here hx rfl (hb hby at_36) rfl k') ?_
  show Go p e below _ (T101.setTop (mkF m 37 #[.val (.int len), .val (.int bits), .val (.int (3 : Int32)), .val (.int b0), .val (.int b1), .val (.int b2), .val (.int b3), .val (.ref b101), .unset, .unset, .unset, .unset] [(.int (3 : Int32))]))
  refine Go.st (fun t' k' => XS.ifNo X101.here hx rfl (hb hby at_37) rfl ((if0 _ _).trans (tlt (by decide : (0 : Int32) < (3 : Int32))).2.2.2) k') ?_
  show Go p e below _ (T101.setTop (mkF m 40 #[.val (.int len), .val (.int bits), .val (.int (3 : Int32)), .val (.int b0), .val (.int b1), .val (.int b2), .val (.int b3), .val (.ref b101), .unset, .unset, .unset, .unset] []))
  refine Go.st (fun t' k' => XS.aload X101.here hx rfl (hb hby at_40) rfl rfl k') ?_
  show Go p e below _ (T101.setTop (mkF m 42 #[.val (.int len), .val (.int bits), .val (.int (3 : Int32)), .val (.int b0), .val (.int b1), .val (.int b2), .val (.int b3), .val (.ref b101), .unset, .unset, .unset, .unset] [(.ref b101)]))
  refine Go.st (fun t' k' => XS.iconst X101.here hx rfl (hb hby at_42) k') ?_
  show Go p e below _ (T101.setTop (mkF m 43 #[.val (.int len), .val (.int bits), .val (.int (3 : Int32)), .val (.int b0), .val (.int b1), .val (.int b2), .val (.int b3), .val (.ref b101), .unset, .unset, .unset, .unset] [(.int (0 : Int32)), (.ref b101)]))
  refine Go.st (fun t' k' => XS.iloadN X101.here hx rfl (hb hby at_43) rfl k') ?_
  show Go p e below _ (T101.setTop (mkF m 44 #[.val (.int len), .val (.int bits), .val (.int (3 : Int32)), .val (.int b0), .val (.int b1), .val (.int b2), .val (.int b3), .val (.ref b101), .unset, .unset, .unset, .unset] [(.int b0), (.int (0 : Int32)), (.ref b101)]))
  obtain ⟨cls103, Ars103, qs103, Szs103, Nzs103, Hss103, Gss103⟩ := (id V_b101)
  have hins103 : ¬ ((0 : Int32) < 0 ∨ cls103.slots.size ≤ ((0 : Int32)).toNatClampNeg) := inb_of Szs103 ⟨by decide, by decide⟩
  obtain ⟨T104, h104, X104, e104, W104, st104⟩ := stB X101 hx hZ e101 Ars103 (j := (0 : Int32)) hins103 (g := (mkF m 44 #[.val (.int len), .val (.int bits), .val (.int (3 : Int32)), .val (.int b0), .val (.int b1), .val (.int b2), .val (.int b3), .val (.ref b101), .unset, .unset, .unset, .unset] [(.int b0), (.int (0 : Int32)), (.ref b101)])) rfl rfl (hb hby at_44)
  refine Go.st st104 ?_
  have V_b101_104 : Arv Z h104 b101 k101 .byte (3 : Int32) [(.int b0), (.int (0 : Int32)), (.int (0 : Int32))] (.int (0 : Int32)) := own_set (vs := [(.int (0 : Int32)), (.int (0 : Int32)), (.int (0 : Int32))]) (v' := (.int b0)) Ars103 qs103 Szs103 Nzs103 Hss103 Gss103 (fits_nar_byte _) W104 0 rfl (Nat.le_of_ble_eq_true rfl) (congrArg Value.int (hb0)) rfl
  have Q101_h105 := Q101.wr W104
  have hk104 := Nat.le_trans hk101 (Keep.of_wr W104).1
  have O104 := own_ext_wr O101 W104 g_b101
  have N104 := Fr.snoc X104 N0 g_b101
  show Go p e below _ (T104.setTop (mkF m 45 #[.val (.int len), .val (.int bits), .val (.int (3 : Int32)), .val (.int b0), .val (.int b1), .val (.int b2), .val (.int b3), .val (.ref b101), .unset, .unset, .unset, .unset] []))
  refine Go.st (fun t' k' => XS.iloadN X104.here hx rfl (hb hby at_45) rfl k') ?_
  show Go p e below _ (T104.setTop (mkF m 46 #[.val (.int len), .val (.int bits), .val (.int (3 : Int32)), .val (.int b0), .val (.int b1), .val (.int b2), .val (.int b3), .val (.ref b101), .unset, .unset, .unset, .unset] [(.int (3 : Int32))]))
  refine Go.st (fun t' k' => XS.iconst X104.here hx rfl (hb hby at_46) k') ?_
  show Go p e below _ (T104.setTop (mkF m 47 #[.val (.int len), .val (.int bits), .val (.int (3 : Int32)), .val (.int b0), .val (.int b1), .val (.int b2), .val (.int b3), .val (.ref b101), .unset, .unset, .unset, .unset] [(.int (1 : Int32)), (.int (3 : Int32))]))
  refine Go.st (fun t' k' => XS.icmpNo X104.here hx rfl (hb hby at_47) rfl (tlt (by decide : (1 : Int32) < (3 : Int32))).2.2.2 k') ?_
  show Go p e below _ (T104.setTop (mkF m 50 #[.val (.int len), .val (.int bits), .val (.int (3 : Int32)), .val (.int b0), .val (.int b1), .val (.int b2), .val (.int b3), .val (.ref b101), .unset, .unset, .unset, .unset] []))
  refine Go.st (fun t' k' => XS.aload X104.here hx rfl (hb hby at_50) rfl rfl k') ?_
  show Go p e below _ (T104.setTop (mkF m 52 #[.val (.int len), .val (.int bits), .val (.int (3 : Int32)), .val (.int b0), .val (.int b1), .val (.int b2), .val (.int b3), .val (.ref b101), .unset, .unset, .unset, .unset] [(.ref b101)]))
  refine Go.st (fun t' k' => XS.iconst X104.here hx rfl (hb hby at_52) k') ?_
  show Go p e below _ (T104.setTop (mkF m 53 #[.val (.int len), .val (.int bits), .val (.int (3 : Int32)), .val (.int b0), .val (.int b1), .val (.int b2), .val (.int b3), .val (.ref b101), .unset, .unset, .unset, .unset] [(.int (1 : Int32)), (.ref b101)]))
  refine Go.st (fun t' k' => XS.iload X104.here hx rfl (hb hby at_53) rfl k') ?_
  show Go p e below _ (T104.setTop (mkF m 55 #[.val (.int len), .val (.int bits), .val (.int (3 : Int32)), .val (.int b0), .val (.int b1), .val (.int b2), .val (.int b3), .val (.ref b101), .unset, .unset, .unset, .unset] [(.int b1), (.int (1 : Int32)), (.ref b101)]))
  obtain ⟨cls106, Ars106, qs106, Szs106, Nzs106, Hss106, Gss106⟩ := (id V_b101_104)
  have hins106 : ¬ ((1 : Int32) < 0 ∨ cls106.slots.size ≤ ((1 : Int32)).toNatClampNeg) := inb_of Szs106 ⟨by decide, by decide⟩
  obtain ⟨T107, h107, X107, e107, W107, st107⟩ := stB X104 hx hZ e104 Ars106 (j := (1 : Int32)) hins106 (g := (mkF m 55 #[.val (.int len), .val (.int bits), .val (.int (3 : Int32)), .val (.int b0), .val (.int b1), .val (.int b2), .val (.int b3), .val (.ref b101), .unset, .unset, .unset, .unset] [(.int b1), (.int (1 : Int32)), (.ref b101)])) rfl rfl (hb hby at_55)
  refine Go.st st107 ?_
  have V_b101_107 : Arv Z h107 b101 k101 .byte (3 : Int32) [(.int b0), (.int b1), (.int (0 : Int32))] (.int (0 : Int32)) := own_set (vs := [(.int b0), (.int (0 : Int32)), (.int (0 : Int32))]) (v' := (.int b1)) Ars106 qs106 Szs106 Nzs106 Hss106 Gss106 (fits_nar_byte _) W107 1 rfl (Nat.le_of_ble_eq_true rfl) (congrArg Value.int (hb1)) rfl
  have Q101_h108 := Q101_h105.wr W107
  have hk107 := Nat.le_trans hk104 (Keep.of_wr W107).1
  have O107 := own_ext_wr O104 W107 g_b101
  have N107 := Fr.snoc X107 N104 g_b101
  show Go p e below _ (T107.setTop (mkF m 56 #[.val (.int len), .val (.int bits), .val (.int (3 : Int32)), .val (.int b0), .val (.int b1), .val (.int b2), .val (.int b3), .val (.ref b101), .unset, .unset, .unset, .unset] []))
  refine Go.st (fun t' k' => XS.iloadN X107.here hx rfl (hb hby at_56) rfl k') ?_
  show Go p e below _ (T107.setTop (mkF m 57 #[.val (.int len), .val (.int bits), .val (.int (3 : Int32)), .val (.int b0), .val (.int b1), .val (.int b2), .val (.int b3), .val (.ref b101), .unset, .unset, .unset, .unset] [(.int (3 : Int32))]))
  refine Go.st (fun t' k' => XS.iconst X107.here hx rfl (hb hby at_57) k') ?_
  show Go p e below _ (T107.setTop (mkF m 58 #[.val (.int len), .val (.int bits), .val (.int (3 : Int32)), .val (.int b0), .val (.int b1), .val (.int b2), .val (.int b3), .val (.ref b101), .unset, .unset, .unset, .unset] [(.int (2 : Int32)), (.int (3 : Int32))]))
  refine Go.st (fun t' k' => XS.icmpNo X107.here hx rfl (hb hby at_58) rfl (tlt (by decide : (2 : Int32) < (3 : Int32))).2.2.2 k') ?_
  show Go p e below _ (T107.setTop (mkF m 61 #[.val (.int len), .val (.int bits), .val (.int (3 : Int32)), .val (.int b0), .val (.int b1), .val (.int b2), .val (.int b3), .val (.ref b101), .unset, .unset, .unset, .unset] []))
  refine Go.st (fun t' k' => XS.aload X107.here hx rfl (hb hby at_61) rfl rfl k') ?_
  show Go p e below _ (T107.setTop (mkF m 63 #[.val (.int len), .val (.int bits), .val (.int (3 : Int32)), .val (.int b0), .val (.int b1), .val (.int b2), .val (.int b3), .val (.ref b101), .unset, .unset, .unset, .unset] [(.ref b101)]))
  refine Go.st (fun t' k' => XS.iconst X107.here hx rfl (hb hby at_63) k') ?_
  show Go p e below _ (T107.setTop (mkF m 64 #[.val (.int len), .val (.int bits), .val (.int (3 : Int32)), .val (.int b0), .val (.int b1), .val (.int b2), .val (.int b3), .val (.ref b101), .unset, .unset, .unset, .unset] [(.int (2 : Int32)), (.ref b101)]))
  refine Go.st (fun t' k' => XS.iload X107.here hx rfl (hb hby at_64) rfl k') ?_
  show Go p e below _ (T107.setTop (mkF m 66 #[.val (.int len), .val (.int bits), .val (.int (3 : Int32)), .val (.int b0), .val (.int b1), .val (.int b2), .val (.int b3), .val (.ref b101), .unset, .unset, .unset, .unset] [(.int b2), (.int (2 : Int32)), (.ref b101)]))
  obtain ⟨cls109, Ars109, qs109, Szs109, Nzs109, Hss109, Gss109⟩ := (id V_b101_107)
  have hins109 : ¬ ((2 : Int32) < 0 ∨ cls109.slots.size ≤ ((2 : Int32)).toNatClampNeg) := inb_of Szs109 ⟨by decide, by decide⟩
  obtain ⟨T110, h110, X110, e110, W110, st110⟩ := stB X107 hx hZ e107 Ars109 (j := (2 : Int32)) hins109 (g := (mkF m 66 #[.val (.int len), .val (.int bits), .val (.int (3 : Int32)), .val (.int b0), .val (.int b1), .val (.int b2), .val (.int b3), .val (.ref b101), .unset, .unset, .unset, .unset] [(.int b2), (.int (2 : Int32)), (.ref b101)])) rfl rfl (hb hby at_66)
  refine Go.st st110 ?_
  have V_b101_110 : Arv Z h110 b101 k101 .byte (3 : Int32) [(.int b0), (.int b1), (.int b2)] (.int (0 : Int32)) := own_set (vs := [(.int b0), (.int b1), (.int (0 : Int32))]) (v' := (.int b2)) Ars109 qs109 Szs109 Nzs109 Hss109 Gss109 (fits_nar_byte _) W110 2 rfl (Nat.le_of_ble_eq_true rfl) (congrArg Value.int (hb2)) rfl
  have Q101_h111 := Q101_h108.wr W110
  have hk110 := Nat.le_trans hk107 (Keep.of_wr W110).1
  have O110 := own_ext_wr O107 W110 g_b101
  have N110 := Fr.snoc X110 N107 g_b101
  show Go p e below _ (T110.setTop (mkF m 67 #[.val (.int len), .val (.int bits), .val (.int (3 : Int32)), .val (.int b0), .val (.int b1), .val (.int b2), .val (.int b3), .val (.ref b101), .unset, .unset, .unset, .unset] []))
  refine Go.st (fun t' k' => XS.iloadN X110.here hx rfl (hb hby at_67) rfl k') ?_
  show Go p e below _ (T110.setTop (mkF m 68 #[.val (.int len), .val (.int bits), .val (.int (3 : Int32)), .val (.int b0), .val (.int b1), .val (.int b2), .val (.int b3), .val (.ref b101), .unset, .unset, .unset, .unset] [(.int (3 : Int32))]))
  refine Go.st (fun t' k' => XS.iconst X110.here hx rfl (hb hby at_68) k') ?_
  show Go p e below _ (T110.setTop (mkF m 69 #[.val (.int len), .val (.int bits), .val (.int (3 : Int32)), .val (.int b0), .val (.int b1), .val (.int b2), .val (.int b3), .val (.ref b101), .unset, .unset, .unset, .unset] [(.int (3 : Int32)), (.int (3 : Int32))]))
  refine Go.st (fun t' k' => XS.icmpYes X110.here hx rfl (pc0 := 69) (pc' := 78) rfl (hb hby at_69) rfl (flt (by decide : ¬ ((3 : Int32) < (3 : Int32)))).2.2.2 (by decide) (by decide) k') ?_
  show Go p e below _ (T110.setTop (mkF m 78 #[.val (.int len), .val (.int bits), .val (.int (3 : Int32)), .val (.int b0), .val (.int b1), .val (.int b2), .val (.int b3), .val (.ref b101), .unset, .unset, .unset, .unset] []))
  refine Go.st (fun t' k' => XS.aload X110.here hx rfl (hb hby at_78) rfl rfl k') ?_
  show Go p e below _ (T110.setTop (mkF m 80 #[.val (.int len), .val (.int bits), .val (.int (3 : Int32)), .val (.int b0), .val (.int b1), .val (.int b2), .val (.int b3), .val (.ref b101), .unset, .unset, .unset, .unset] [(.ref b101)]))
  obtain ⟨_, _, ⟨T112, L112, k112, n112⟩, -, X112, hs112, gr112, ⟨Lc112, hQ112, l112, y112, z112⟩, st112⟩ := Jvm.RoadKit.callSS X110 hx (y := (⟨"com/example/claim/claim/model/VerificationResult", "accepted", "([B)Lcom/example/claim/claim/model/VerificationResult;"⟩ : MethodName)) hown (mvT hZ (hw _ (List.mem_of_getElem? (i := 2) rfl))) (mvT hZ (hw _ (List.mem_of_getElem? (i := 3) rfl))) (mvT hZ (hw _ (List.mem_of_getElem? (i := 4) rfl))) (mvT hZ (hw _ (List.mem_of_getElem? (i := 5) rfl))) (by decide) (backOfS (W := 0) (rmAc l Z a0 hw [] b101 k101 ((3 : Int32)) ([(.int b0), (.int b1), (.int b2)]) h110 O110 Q101_h111 V_b101_110 (by decide)) hZ (hw _ (List.mem_of_getElem? (i := 5) rfl)) (hw _ (List.mem_of_getElem? (i := 4) rfl)) (by decide) (by decide)) (g := (mkF m 80 #[.val (.int len), .val (.int bits), .val (.int (3 : Int32)), .val (.int b0), .val (.int b1), .val (.int b2), .val (.int b3), .val (.ref b101), .unset, .unset, .unset, .unset] [(.ref b101)])) rfl (by rw [hml]; rfl) (argsL := [(.ref b101)]) (rest := []) (lenOf pd___B_Lcom_example_claim_claim_model_VerificationResult_ rfl) rfl (by show 2 * 0 + _ ≤ _; exact Nat.le_of_eq rfl) (hb hby at_80) (fun _ _ => ⟨rfl, e110, (by decide : 1 + 4 ≤ _), (by decide : 3 + 48 ≤ _)⟩)
  dsimp only [Pt.U, Pt.locs, Pt.cells, Pt.slots] at X112 l112 y112 z112 st112 hQ112 hs112 gr112
  subst y112 z112
  obtain ⟨b_112, q_112, rfl, N112q, O112, Kc112, Eb_112, Pp_112, Pq_112, Eq__112, Aq_112, Gb_112, Gq_112, Sb_112, Sq_112, Nbq_112⟩ := hQ112
  have N112 : Fr Z.heap.size L112 := by rw [l112]; exact Fr.app N110 N112q
  refine Go.tr st112 ?_
  obtain ⟨X112r, hS112, hZ112, hown112⟩ := rebS hS0 (by rw [e110]; exact hk110) X112 hs112 gr112 hZ hown
  have Q101_h113 := Q101_h111.keep Kc112
  have V_b101_110_h113 := V_b101_110.keep Kc112 nin0
  have ne_w_EMPTY_b_112 : w_EMPTY ≠ b_112 := Nat.ne_of_lt (Nat.lt_of_lt_of_le (E_EMPTY.ext O110).lt Sb_112)
  have ne_b101_b_112 : b101 ≠ b_112 := Nat.ne_of_lt (Nat.lt_of_lt_of_le Q101_h111.lt Sb_112)
  have ne_w_EMPTY_q_112 : w_EMPTY ≠ q_112 := Nat.ne_of_lt (Nat.lt_of_lt_of_le (E_EMPTY.ext O110).lt Sq_112)
  have ne_b101_q_112 : b101 ≠ q_112 := Nat.ne_of_lt (Nat.lt_of_lt_of_le Q101_h111.lt Sq_112)
  show Go p e below _ (T112.setTop (mkF m 83 #[.val (.int len), .val (.int bits), .val (.int (3 : Int32)), .val (.int b0), .val (.int b1), .val (.int b2), .val (.int b3), .val (.ref b101), .unset, .unset, .unset, .unset] [(.ref b_112)]))
  refine Go.st (fun t' k' => XS.astore X112r.here hx rfl (hb hby at_83) rfl rfl (l' := #[.val (.int len), .val (.int bits), .val (.int (3 : Int32)), .val (.int b0), .val (.int b1), .val (.int b2), .val (.int b3), .val (.ref b101), .val (.ref b_112), .unset, .unset, .unset]) rfl k') ?_
  show Go p e below _ (T112.setTop (mkF m 85 #[.val (.int len), .val (.int bits), .val (.int (3 : Int32)), .val (.int b0), .val (.int b1), .val (.int b2), .val (.int b3), .val (.ref b101), .val (.ref b_112), .unset, .unset, .unset] []))
  refine Go.st (fun t' k' => XS.iloadN X112r.here hx rfl (hb hby at_85) rfl k') ?_
  show Go p e below _ (T112.setTop (mkF m 86 #[.val (.int len), .val (.int bits), .val (.int (3 : Int32)), .val (.int b0), .val (.int b1), .val (.int b2), .val (.int b3), .val (.ref b101), .val (.ref b_112), .unset, .unset, .unset] [(.int (3 : Int32))]))
  refine Go.st (fun t' k' => XS.ifNo X112r.here hx rfl (hb hby at_86) rfl ((if0 _ _).trans (tlt (by decide : (0 : Int32) < (3 : Int32))).2.2.2) k') ?_
  show Go p e below _ (T112.setTop (mkF m 89 #[.val (.int len), .val (.int bits), .val (.int (3 : Int32)), .val (.int b0), .val (.int b1), .val (.int b2), .val (.int b3), .val (.ref b101), .val (.ref b_112), .unset, .unset, .unset] []))
  refine Go.st (fun t' k' => XS.aload X112r.here hx rfl (hb hby at_89) rfl rfl k') ?_
  show Go p e below _ (T112.setTop (mkF m 91 #[.val (.int len), .val (.int bits), .val (.int (3 : Int32)), .val (.int b0), .val (.int b1), .val (.int b2), .val (.int b3), .val (.ref b101), .val (.ref b_112), .unset, .unset, .unset] [(.ref b101)]))
  refine Go.st (fun t' k' => XS.iconst X112r.here hx rfl (hb hby at_91) k') ?_
  show Go p e below _ (T112.setTop (mkF m 92 #[.val (.int len), .val (.int bits), .val (.int (3 : Int32)), .val (.int b0), .val (.int b1), .val (.int b2), .val (.int b3), .val (.ref b101), .val (.ref b_112), .unset, .unset, .unset] [(.int (0 : Int32)), (.ref b101)]))
  refine Go.st (fun t' k' => XS.iloadN X112r.here hx rfl (hb hby at_92) rfl k') ?_
  show Go p e below _ (T112.setTop (mkF m 93 #[.val (.int len), .val (.int bits), .val (.int (3 : Int32)), .val (.int b0), .val (.int b1), .val (.int b2), .val (.int b3), .val (.ref b101), .val (.ref b_112), .unset, .unset, .unset] [(.int b0), (.int (0 : Int32)), (.ref b101)]))
  refine Go.st (fun t' k' => XS.iconst X112r.here hx rfl (hb hby at_93) k') ?_
  show Go p e below _ (T112.setTop (mkF m 94 #[.val (.int len), .val (.int bits), .val (.int (3 : Int32)), .val (.int b0), .val (.int b1), .val (.int b2), .val (.int b3), .val (.ref b101), .val (.ref b_112), .unset, .unset, .unset] [(.int (-1 : Int32)), (.int b0), (.int (0 : Int32)), (.ref b101)]))
  refine Go.st (fun t' k' => XS.ixor X112r.here hx rfl (hb hby at_94) rfl k') ?_
  show Go p e below _ (T112.setTop (mkF m 95 #[.val (.int len), .val (.int bits), .val (.int (3 : Int32)), .val (.int b0), .val (.int b1), .val (.int b2), .val (.int b3), .val (.ref b101), .val (.ref b_112), .unset, .unset, .unset] [(.int (b0 ^^^ (-1 : Int32))), (.int (0 : Int32)), (.ref b101)]))
  refine Go.st (fun t' k' => XS.i2b X112r.here hx rfl (hb hby at_95) rfl k') ?_
  show Go p e below _ (T112.setTop (mkF m 96 #[.val (.int len), .val (.int bits), .val (.int (3 : Int32)), .val (.int b0), .val (.int b1), .val (.int b2), .val (.int b3), .val (.ref b101), .val (.ref b_112), .unset, .unset, .unset] [(.int ((b0 ^^^ (-1 : Int32)).toInt8.toInt32)), (.int (0 : Int32)), (.ref b101)]))
  obtain ⟨cls114, Ars114, qs114, Szs114, Nzs114, Hss114, Gss114⟩ := (id V_b101_110_h113)
  have hins114 : ¬ ((0 : Int32) < 0 ∨ cls114.slots.size ≤ ((0 : Int32)).toNatClampNeg) := inb_of Szs114 ⟨by decide, by decide⟩
  obtain ⟨T115, h115, X115, e115, W115, st115⟩ := stB X112r hx hZ112 rfl Ars114 (j := (0 : Int32)) hins114 (g := (mkF m 96 #[.val (.int len), .val (.int bits), .val (.int (3 : Int32)), .val (.int b0), .val (.int b1), .val (.int b2), .val (.int b3), .val (.ref b101), .val (.ref b_112), .unset, .unset, .unset] [(.int ((b0 ^^^ (-1 : Int32)).toInt8.toInt32)), (.int (0 : Int32)), (.ref b101)])) rfl rfl (hb hby at_96)
  refine Go.st st115 ?_
  have V_b101_115 : Arv Z h115 b101 k101 .byte (3 : Int32) [(.int ((b0 ^^^ (-1 : Int32)).toInt8.toInt32).toInt8.toInt32), (.int b1), (.int b2)] (.int (0 : Int32)) := own_set (vs := [(.int b0), (.int b1), (.int b2)]) (v' := (.int ((b0 ^^^ (-1 : Int32)).toInt8.toInt32).toInt8.toInt32)) Ars114 qs114 Szs114 Nzs114 Hss114 Gss114 (fits_nar_byte _) W115 0 rfl (Nat.le_of_ble_eq_true rfl) rfl rfl
  have Q101_h116 := Q101_h113.wr W115
  have Eb_112_h116 := Eb_112.wr W115
  have Pp_112_h116 := Pp_112.other W115 (Or.inl (Ne.symm ne_b101_b_112))
  have Pq_112_h116 := Pq_112.other W115 (Or.inl (Ne.symm ne_b101_b_112))
  have Eq__112_h116 := Eq__112.wr W115
  have Aq_112_h116 := Aq_112.other W115 (Ne.symm ne_b101_q_112)
  have hk115 := Nat.le_trans (Nat.le_refl _) (Keep.of_wr W115).1
  have O115 := own_ext_wr O112 W115 g_b101
  have N115 := Fr.snoc X115 N112 g_b101
  show Go p e below _ (T115.setTop (mkF m 97 #[.val (.int len), .val (.int bits), .val (.int (3 : Int32)), .val (.int b0), .val (.int b1), .val (.int b2), .val (.int b3), .val (.ref b101), .val (.ref b_112), .unset, .unset, .unset] []))
  refine Go.st (fun t' k' => XS.iloadN X115.here hx rfl (hb hby at_97) rfl k') ?_
  show Go p e below _ (T115.setTop (mkF m 98 #[.val (.int len), .val (.int bits), .val (.int (3 : Int32)), .val (.int b0), .val (.int b1), .val (.int b2), .val (.int b3), .val (.ref b101), .val (.ref b_112), .unset, .unset, .unset] [(.int (3 : Int32))]))
  refine Go.st (fun t' k' => XS.iconst X115.here hx rfl (hb hby at_98) k') ?_
  show Go p e below _ (T115.setTop (mkF m 99 #[.val (.int len), .val (.int bits), .val (.int (3 : Int32)), .val (.int b0), .val (.int b1), .val (.int b2), .val (.int b3), .val (.ref b101), .val (.ref b_112), .unset, .unset, .unset] [(.int (1 : Int32)), (.int (3 : Int32))]))
  refine Go.st (fun t' k' => XS.icmpNo X115.here hx rfl (hb hby at_99) rfl (tlt (by decide : (1 : Int32) < (3 : Int32))).2.2.2 k') ?_
  show Go p e below _ (T115.setTop (mkF m 102 #[.val (.int len), .val (.int bits), .val (.int (3 : Int32)), .val (.int b0), .val (.int b1), .val (.int b2), .val (.int b3), .val (.ref b101), .val (.ref b_112), .unset, .unset, .unset] []))
  refine Go.st (fun t' k' => XS.aload X115.here hx rfl (hb hby at_102) rfl rfl k') ?_
  show Go p e below _ (T115.setTop (mkF m 104 #[.val (.int len), .val (.int bits), .val (.int (3 : Int32)), .val (.int b0), .val (.int b1), .val (.int b2), .val (.int b3), .val (.ref b101), .val (.ref b_112), .unset, .unset, .unset] [(.ref b101)]))
  refine Go.st (fun t' k' => XS.iconst X115.here hx rfl (hb hby at_104) k') ?_
  show Go p e below _ (T115.setTop (mkF m 105 #[.val (.int len), .val (.int bits), .val (.int (3 : Int32)), .val (.int b0), .val (.int b1), .val (.int b2), .val (.int b3), .val (.ref b101), .val (.ref b_112), .unset, .unset, .unset] [(.int (1 : Int32)), (.ref b101)]))
  refine Go.st (fun t' k' => XS.iload X115.here hx rfl (hb hby at_105) rfl k') ?_
  show Go p e below _ (T115.setTop (mkF m 107 #[.val (.int len), .val (.int bits), .val (.int (3 : Int32)), .val (.int b0), .val (.int b1), .val (.int b2), .val (.int b3), .val (.ref b101), .val (.ref b_112), .unset, .unset, .unset] [(.int b1), (.int (1 : Int32)), (.ref b101)]))
  refine Go.st (fun t' k' => XS.iconst X115.here hx rfl (hb hby at_107) k') ?_
  show Go p e below _ (T115.setTop (mkF m 108 #[.val (.int len), .val (.int bits), .val (.int (3 : Int32)), .val (.int b0), .val (.int b1), .val (.int b2), .val (.int b3), .val (.ref b101), .val (.ref b_112), .unset, .unset, .unset] [(.int (-1 : Int32)), (.int b1), (.int (1 : Int32)), (.ref b101)]))
  refine Go.st (fun t' k' => XS.ixor X115.here hx rfl (hb hby at_108) rfl k') ?_
  show Go p e below _ (T115.setTop (mkF m 109 #[.val (.int len), .val (.int bits), .val (.int (3 : Int32)), .val (.int b0), .val (.int b1), .val (.int b2), .val (.int b3), .val (.ref b101), .val (.ref b_112), .unset, .unset, .unset] [(.int (b1 ^^^ (-1 : Int32))), (.int (1 : Int32)), (.ref b101)]))
  refine Go.st (fun t' k' => XS.i2b X115.here hx rfl (hb hby at_109) rfl k') ?_
  show Go p e below _ (T115.setTop (mkF m 110 #[.val (.int len), .val (.int bits), .val (.int (3 : Int32)), .val (.int b0), .val (.int b1), .val (.int b2), .val (.int b3), .val (.ref b101), .val (.ref b_112), .unset, .unset, .unset] [(.int ((b1 ^^^ (-1 : Int32)).toInt8.toInt32)), (.int (1 : Int32)), (.ref b101)]))
  obtain ⟨cls117, Ars117, qs117, Szs117, Nzs117, Hss117, Gss117⟩ := (id V_b101_115)
  have hins117 : ¬ ((1 : Int32) < 0 ∨ cls117.slots.size ≤ ((1 : Int32)).toNatClampNeg) := inb_of Szs117 ⟨by decide, by decide⟩
  obtain ⟨T118, h118, X118, e118, W118, st118⟩ := stB X115 hx hZ112 e115 Ars117 (j := (1 : Int32)) hins117 (g := (mkF m 110 #[.val (.int len), .val (.int bits), .val (.int (3 : Int32)), .val (.int b0), .val (.int b1), .val (.int b2), .val (.int b3), .val (.ref b101), .val (.ref b_112), .unset, .unset, .unset] [(.int ((b1 ^^^ (-1 : Int32)).toInt8.toInt32)), (.int (1 : Int32)), (.ref b101)])) rfl rfl (hb hby at_110)
  refine Go.st st118 ?_
  have V_b101_118 : Arv Z h118 b101 k101 .byte (3 : Int32) [(.int ((b0 ^^^ (-1 : Int32)).toInt8.toInt32).toInt8.toInt32), (.int ((b1 ^^^ (-1 : Int32)).toInt8.toInt32).toInt8.toInt32), (.int b2)] (.int (0 : Int32)) := own_set (vs := [(.int ((b0 ^^^ (-1 : Int32)).toInt8.toInt32).toInt8.toInt32), (.int b1), (.int b2)]) (v' := (.int ((b1 ^^^ (-1 : Int32)).toInt8.toInt32).toInt8.toInt32)) Ars117 qs117 Szs117 Nzs117 Hss117 Gss117 (fits_nar_byte _) W118 1 rfl (Nat.le_of_ble_eq_true rfl) rfl rfl
  have Q101_h119 := Q101_h116.wr W118
  have Eb_112_h119 := Eb_112_h116.wr W118
  have Pp_112_h119 := Pp_112_h116.other W118 (Or.inl (Ne.symm ne_b101_b_112))
  have Pq_112_h119 := Pq_112_h116.other W118 (Or.inl (Ne.symm ne_b101_b_112))
  have Eq__112_h119 := Eq__112_h116.wr W118
  have Aq_112_h119 := Aq_112_h116.other W118 (Ne.symm ne_b101_q_112)
  have hk118 := Nat.le_trans hk115 (Keep.of_wr W118).1
  have O118 := own_ext_wr O115 W118 g_b101
  have N118 := Fr.snoc X118 N115 g_b101
  show Go p e below _ (T118.setTop (mkF m 111 #[.val (.int len), .val (.int bits), .val (.int (3 : Int32)), .val (.int b0), .val (.int b1), .val (.int b2), .val (.int b3), .val (.ref b101), .val (.ref b_112), .unset, .unset, .unset] []))
  refine Go.st (fun t' k' => XS.iloadN X118.here hx rfl (hb hby at_111) rfl k') ?_
  show Go p e below _ (T118.setTop (mkF m 112 #[.val (.int len), .val (.int bits), .val (.int (3 : Int32)), .val (.int b0), .val (.int b1), .val (.int b2), .val (.int b3), .val (.ref b101), .val (.ref b_112), .unset, .unset, .unset] [(.int (3 : Int32))]))
  refine Go.st (fun t' k' => XS.iconst X118.here hx rfl (hb hby at_112) k') ?_
  show Go p e below _ (T118.setTop (mkF m 113 #[.val (.int len), .val (.int bits), .val (.int (3 : Int32)), .val (.int b0), .val (.int b1), .val (.int b2), .val (.int b3), .val (.ref b101), .val (.ref b_112), .unset, .unset, .unset] [(.int (2 : Int32)), (.int (3 : Int32))]))
  refine Go.st (fun t' k' => XS.icmpNo X118.here hx rfl (hb hby at_113) rfl (tlt (by decide : (2 : Int32) < (3 : Int32))).2.2.2 k') ?_
  show Go p e below _ (T118.setTop (mkF m 116 #[.val (.int len), .val (.int bits), .val (.int (3 : Int32)), .val (.int b0), .val (.int b1), .val (.int b2), .val (.int b3), .val (.ref b101), .val (.ref b_112), .unset, .unset, .unset] []))
  refine Go.st (fun t' k' => XS.aload X118.here hx rfl (hb hby at_116) rfl rfl k') ?_
  show Go p e below _ (T118.setTop (mkF m 118 #[.val (.int len), .val (.int bits), .val (.int (3 : Int32)), .val (.int b0), .val (.int b1), .val (.int b2), .val (.int b3), .val (.ref b101), .val (.ref b_112), .unset, .unset, .unset] [(.ref b101)]))
  refine Go.st (fun t' k' => XS.iconst X118.here hx rfl (hb hby at_118) k') ?_
  show Go p e below _ (T118.setTop (mkF m 119 #[.val (.int len), .val (.int bits), .val (.int (3 : Int32)), .val (.int b0), .val (.int b1), .val (.int b2), .val (.int b3), .val (.ref b101), .val (.ref b_112), .unset, .unset, .unset] [(.int (2 : Int32)), (.ref b101)]))
  refine Go.st (fun t' k' => XS.iload X118.here hx rfl (hb hby at_119) rfl k') ?_
  show Go p e below _ (T118.setTop (mkF m 121 #[.val (.int len), .val (.int bits), .val (.int (3 : Int32)), .val (.int b0), .val (.int b1), .val (.int b2), .val (.int b3), .val (.ref b101), .val (.ref b_112), .unset, .unset, .unset] [(.int b2), (.int (2 : Int32)), (.ref b101)]))
  refine Go.st (fun t' k' => XS.iconst X118.here hx rfl (hb hby at_121) k') ?_
  show Go p e below _ (T118.setTop (mkF m 122 #[.val (.int len), .val (.int bits), .val (.int (3 : Int32)), .val (.int b0), .val (.int b1), .val (.int b2), .val (.int b3), .val (.ref b101), .val (.ref b_112), .unset, .unset, .unset] [(.int (-1 : Int32)), (.int b2), (.int (2 : Int32)), (.ref b101)]))
  refine Go.st (fun t' k' => XS.ixor X118.here hx rfl (hb hby at_122) rfl k') ?_
  show Go p e below _ (T118.setTop (mkF m 123 #[.val (.int len), .val (.int bits), .val (.int (3 : Int32)), .val (.int b0), .val (.int b1), .val (.int b2), .val (.int b3), .val (.ref b101), .val (.ref b_112), .unset, .unset, .unset] [(.int (b2 ^^^ (-1 : Int32))), (.int (2 : Int32)), (.ref b101)]))
  refine Go.st (fun t' k' => XS.i2b X118.here hx rfl (hb hby at_123) rfl k') ?_
  show Go p e below _ (T118.setTop (mkF m 124 #[.val (.int len), .val (.int bits), .val (.int (3 : Int32)), .val (.int b0), .val (.int b1), .val (.int b2), .val (.int b3), .val (.ref b101), .val (.ref b_112), .unset, .unset, .unset] [(.int ((b2 ^^^ (-1 : Int32)).toInt8.toInt32)), (.int (2 : Int32)), (.ref b101)]))
  obtain ⟨cls120, Ars120, qs120, Szs120, Nzs120, Hss120, Gss120⟩ := (id V_b101_118)
  have hins120 : ¬ ((2 : Int32) < 0 ∨ cls120.slots.size ≤ ((2 : Int32)).toNatClampNeg) := inb_of Szs120 ⟨by decide, by decide⟩
  obtain ⟨T121, h121, X121, e121, W121, st121⟩ := stB X118 hx hZ112 e118 Ars120 (j := (2 : Int32)) hins120 (g := (mkF m 124 #[.val (.int len), .val (.int bits), .val (.int (3 : Int32)), .val (.int b0), .val (.int b1), .val (.int b2), .val (.int b3), .val (.ref b101), .val (.ref b_112), .unset, .unset, .unset] [(.int ((b2 ^^^ (-1 : Int32)).toInt8.toInt32)), (.int (2 : Int32)), (.ref b101)])) rfl rfl (hb hby at_124)
  refine Go.st st121 ?_
  have V_b101_121 : Arv Z h121 b101 k101 .byte (3 : Int32) [(.int ((b0 ^^^ (-1 : Int32)).toInt8.toInt32).toInt8.toInt32), (.int ((b1 ^^^ (-1 : Int32)).toInt8.toInt32).toInt8.toInt32), (.int ((b2 ^^^ (-1 : Int32)).toInt8.toInt32).toInt8.toInt32)] (.int (0 : Int32)) := own_set (vs := [(.int ((b0 ^^^ (-1 : Int32)).toInt8.toInt32).toInt8.toInt32), (.int ((b1 ^^^ (-1 : Int32)).toInt8.toInt32).toInt8.toInt32), (.int b2)]) (v' := (.int ((b2 ^^^ (-1 : Int32)).toInt8.toInt32).toInt8.toInt32)) Ars120 qs120 Szs120 Nzs120 Hss120 Gss120 (fits_nar_byte _) W121 2 rfl (Nat.le_of_ble_eq_true rfl) rfl rfl
  have Q101_h122 := Q101_h119.wr W121
  have Eb_112_h122 := Eb_112_h119.wr W121
  have Pp_112_h122 := Pp_112_h119.other W121 (Or.inl (Ne.symm ne_b101_b_112))
  have Pq_112_h122 := Pq_112_h119.other W121 (Or.inl (Ne.symm ne_b101_b_112))
  have Eq__112_h122 := Eq__112_h119.wr W121
  have Aq_112_h122 := Aq_112_h119.other W121 (Ne.symm ne_b101_q_112)
  have hk121 := Nat.le_trans hk118 (Keep.of_wr W121).1
  have O121 := own_ext_wr O118 W121 g_b101
  have N121 := Fr.snoc X121 N118 g_b101
  show Go p e below _ (T121.setTop (mkF m 125 #[.val (.int len), .val (.int bits), .val (.int (3 : Int32)), .val (.int b0), .val (.int b1), .val (.int b2), .val (.int b3), .val (.ref b101), .val (.ref b_112), .unset, .unset, .unset] []))
  refine Go.st (fun t' k' => XS.iloadN X121.here hx rfl (hb hby at_125) rfl k') ?_
  show Go p e below _ (T121.setTop (mkF m 126 #[.val (.int len), .val (.int bits), .val (.int (3 : Int32)), .val (.int b0), .val (.int b1), .val (.int b2), .val (.int b3), .val (.ref b101), .val (.ref b_112), .unset, .unset, .unset] [(.int (3 : Int32))]))
  refine Go.st (fun t' k' => XS.iconst X121.here hx rfl (hb hby at_126) k') ?_
  show Go p e below _ (T121.setTop (mkF m 127 #[.val (.int len), .val (.int bits), .val (.int (3 : Int32)), .val (.int b0), .val (.int b1), .val (.int b2), .val (.int b3), .val (.ref b101), .val (.ref b_112), .unset, .unset, .unset] [(.int (3 : Int32)), (.int (3 : Int32))]))
  refine Go.st (fun t' k' => XS.icmpYes X121.here hx rfl (pc0 := 127) (pc' := 139) rfl (hb hby at_127) rfl (flt (by decide : ¬ ((3 : Int32) < (3 : Int32)))).2.2.2 (by decide) (by decide) k') ?_
  show Go p e below _ (T121.setTop (mkF m 139 #[.val (.int len), .val (.int bits), .val (.int (3 : Int32)), .val (.int b0), .val (.int b1), .val (.int b2), .val (.int b3), .val (.ref b101), .val (.ref b_112), .unset, .unset, .unset] []))
  refine Go.st (fun t' k' => XS.aload X121.here hx rfl (hb hby at_139) rfl rfl k') ?_
  show Go p e below _ (T121.setTop (mkF m 141 #[.val (.int len), .val (.int bits), .val (.int (3 : Int32)), .val (.int b0), .val (.int b1), .val (.int b2), .val (.int b3), .val (.ref b101), .val (.ref b_112), .unset, .unset, .unset] [(.ref b_112)]))
  obtain ⟨cq123, kq123, q123a, q123b, q123c⟩ := isOf hZ112 e121 Eb_112_h122
  obtain ⟨_, _, ⟨T123, L123, k123, n123⟩, -, X123, ⟨Lc123, hQ123, l123, y123, z123⟩, st123⟩ := X121.virtualBack hx (y := (⟨"com/example/claim/claim/model/VerificationResult", "isAccepted", "()Z"⟩ : MethodName)) (z := (⟨"com/example/claim/claim/model/VerificationResult", "isAccepted", "()Z"⟩ : MethodName)) hown112 (mvT hZ112 (hw _ (List.mem_of_getElem? (i := 38) rfl))) (mvT hZ112 (hw _ (List.mem_of_getElem? (i := 39) rfl))) (notFace_of_selects (args := #[]) (mvT hZ112 (hw _ (List.mem_of_getElem? (i := 41) rfl)))) (mvT hZ112 (hw _ (List.mem_of_getElem? (i := 41) rfl))) (mvT hZ112 (hw _ (List.mem_of_getElem? (i := 40) rfl))) (by decide) (backOf (W := 0) (rmIA l Z a0 hw [] b_112 q_112 h121 O121 Pp_112_h122) hZ112 (hw _ (List.mem_of_getElem? (i := 42) rfl)) (hw _ (List.mem_of_getElem? (i := 4) rfl)) (by decide) (by decide)) q123a q123c (g := (mkF m 141 #[.val (.int len), .val (.int bits), .val (.int (3 : Int32)), .val (.int b0), .val (.int b1), .val (.int b2), .val (.int b3), .val (.ref b101), .val (.ref b_112), .unset, .unset, .unset] [(.ref b_112)])) rfl (by rw [hml]; rfl) (Steps.refl _) (argsL := []) (rest := []) (lenOf pd___Z rfl) rfl (by show 2 * 0 + _ ≤ _; exact Nat.le_of_eq rfl) (hb hby at_141) (fun _ _ => ⟨rfl, e121, (by decide : 5 + 0 ≤ _), (by decide : 51 + 0 ≤ _)⟩)
  dsimp only [Pt.U, Pt.locs, Pt.cells, Pt.slots] at X123 l123 y123 z123 st123 hQ123
  subst y123 z123
  obtain ⟨rfl, rfl, e123⟩ := hQ123
  have N123 : Fr Z.heap.size L123 := by rw [l123]; exact Fr.app N121 (Fr.nil _)
  refine Go.tr st123 ?_
  show Go p e below _ (T123.setTop (mkF m 144 #[.val (.int len), .val (.int bits), .val (.int (3 : Int32)), .val (.int b0), .val (.int b1), .val (.int b2), .val (.int b3), .val (.ref b101), .val (.ref b_112), .unset, .unset, .unset] [(.int (1 : Int32))]))
  refine Go.st (fun t' k' => XS.ifYes X123.here hx rfl (pc0 := 144) (pc' := 149) rfl (hb hby at_144) rfl ((if0 _ _).trans (feq (by decide : ¬ ((1 : Int32) = (0 : Int32)))).2) (by decide) (by decide) k') ?_
  show Go p e below _ (T123.setTop (mkF m 149 #[.val (.int len), .val (.int bits), .val (.int (3 : Int32)), .val (.int b0), .val (.int b1), .val (.int b2), .val (.int b3), .val (.ref b101), .val (.ref b_112), .unset, .unset, .unset] []))
  refine Go.st (fun t' k' => XS.aload X123.here hx rfl (hb hby at_149) rfl rfl k') ?_
  show Go p e below _ (T123.setTop (mkF m 151 #[.val (.int len), .val (.int bits), .val (.int (3 : Int32)), .val (.int b0), .val (.int b1), .val (.int b2), .val (.int b3), .val (.ref b101), .val (.ref b_112), .unset, .unset, .unset] [(.ref b_112)]))
  obtain ⟨cq124, kq124, q124a, q124b, q124c⟩ := isOf hZ112 e123 Eb_112_h122
  obtain ⟨_, _, ⟨T124, L124, k124, n124⟩, -, X124, ⟨Lc124, hQ124, l124, y124, z124⟩, st124⟩ := X123.virtualBack hx (y := (⟨"com/example/claim/claim/model/VerificationResult", "refusal", "()Ljava/util/Optional;"⟩ : MethodName)) (z := (⟨"com/example/claim/claim/model/VerificationResult", "refusal", "()Ljava/util/Optional;"⟩ : MethodName)) hown112 (mvT hZ112 (hw _ (List.mem_of_getElem? (i := 43) rfl))) (mvT hZ112 (hw _ (List.mem_of_getElem? (i := 44) rfl))) (notFace_of_selects (args := #[]) (mvT hZ112 (hw _ (List.mem_of_getElem? (i := 46) rfl)))) (mvT hZ112 (hw _ (List.mem_of_getElem? (i := 46) rfl))) (mvT hZ112 (hw _ (List.mem_of_getElem? (i := 45) rfl))) (by decide) (backOf (W := 0) (rmRq l Z a0 hw [] b_112 w_EMPTY h121 O121 S_EMPTY Pq_112_h122) hZ112 (hw _ (List.mem_of_getElem? (i := 47) rfl)) (hw _ (List.mem_of_getElem? (i := 4) rfl)) (by decide) (by decide)) q124a q124c (g := (mkF m 151 #[.val (.int len), .val (.int bits), .val (.int (3 : Int32)), .val (.int b0), .val (.int b1), .val (.int b2), .val (.int b3), .val (.ref b101), .val (.ref b_112), .unset, .unset, .unset] [(.ref b_112)])) rfl (by rw [hml]; rfl) (Steps.refl _) (argsL := []) (rest := []) (lenOf pd___Ljava_util_Optional_ rfl) rfl (by show 2 * 0 + _ ≤ _; exact Nat.le_of_eq rfl) (hb hby at_151) (fun _ _ => ⟨rfl, e123, (by decide : 5 + 0 ≤ _), (by decide : 51 + 0 ≤ _)⟩)
  dsimp only [Pt.U, Pt.locs, Pt.cells, Pt.slots] at X124 l124 y124 z124 st124 hQ124
  subst y124 z124
  obtain ⟨rfl, rfl, e124⟩ := hQ124
  have N124 : Fr Z.heap.size L124 := by rw [l124]; exact Fr.app N123 (Fr.nil _)
  refine Go.tr st124 ?_
  show Go p e below _ (T124.setTop (mkF m 154 #[.val (.int len), .val (.int bits), .val (.int (3 : Int32)), .val (.int b0), .val (.int b1), .val (.int b2), .val (.int b3), .val (.ref b101), .val (.ref b_112), .unset, .unset, .unset] [(.ref w_EMPTY)]))
  obtain ⟨cq125, kq125, q125a, q125b, q125c⟩ := isOf hZ112 e124 (E_EMPTY.ext O121)
  obtain ⟨_, _, ⟨T125, L125, k125, n125⟩, -, X125, ⟨Lc125, hQ125, l125, y125, z125⟩, st125⟩ := X124.virtualBack hx (y := (⟨"java/util/Optional", "isPresent", "()Z"⟩ : MethodName)) (z := (⟨"java/util/Optional", "isPresent", "()Z"⟩ : MethodName)) hown112 (mvT hZ112 (hw _ (List.mem_of_getElem? (i := 53) rfl))) (mvT hZ112 (hw _ (List.mem_of_getElem? (i := 54) rfl))) (notFace_of_selects (args := #[]) (mvT hZ112 (hw _ (List.mem_of_getElem? (i := 56) rfl)))) (mvT hZ112 (hw _ (List.mem_of_getElem? (i := 56) rfl))) (mvT hZ112 (hw _ (List.mem_of_getElem? (i := 55) rfl))) (by decide) (backOf (W := 0) (rmIs0 l Z a0 hw [] w_EMPTY h121 O121 (F_EMPTY_value.ext O121)) hZ112 (hw _ (List.mem_of_getElem? (i := 57) rfl)) (hw _ (List.mem_of_getElem? (i := 50) rfl)) (by decide) (by decide)) q125a q125c (g := (mkF m 154 #[.val (.int len), .val (.int bits), .val (.int (3 : Int32)), .val (.int b0), .val (.int b1), .val (.int b2), .val (.int b3), .val (.ref b101), .val (.ref b_112), .unset, .unset, .unset] [(.ref w_EMPTY)])) rfl (by rw [hml]; rfl) (Steps.refl _) (argsL := []) (rest := []) (lenOf pd___Z rfl) rfl (by show 2 * 0 + _ ≤ _; exact Nat.le_of_eq rfl) (hb hby at_154) (fun _ _ => ⟨rfl, e124, (by decide : 5 + 0 ≤ _), (by decide : 51 + 0 ≤ _)⟩)
  dsimp only [Pt.U, Pt.locs, Pt.cells, Pt.slots] at X125 l125 y125 z125 st125 hQ125
  subst y125 z125
  obtain ⟨rfl, rfl, e125⟩ := hQ125
  have N125 : Fr Z.heap.size L125 := by rw [l125]; exact Fr.app N124 (Fr.nil _)
  refine Go.tr st125 ?_
  show Go p e below _ (T125.setTop (mkF m 157 #[.val (.int len), .val (.int bits), .val (.int (3 : Int32)), .val (.int b0), .val (.int b1), .val (.int b2), .val (.int b3), .val (.ref b101), .val (.ref b_112), .unset, .unset, .unset] [(.int (0 : Int32))]))
  refine Go.st (fun t' k' => XS.ifYes X125.here hx rfl (pc0 := 157) (pc' := 162) rfl (hb hby at_157) rfl ((if0 _ _).trans (teq (by decide : (0 : Int32) = (0 : Int32))).1) (by decide) (by decide) k') ?_
  show Go p e below _ (T125.setTop (mkF m 162 #[.val (.int len), .val (.int bits), .val (.int (3 : Int32)), .val (.int b0), .val (.int b1), .val (.int b2), .val (.int b3), .val (.ref b101), .val (.ref b_112), .unset, .unset, .unset] []))
  refine Go.st (fun t' k' => XS.aload X125.here hx rfl (hb hby at_162) rfl rfl k') ?_
  show Go p e below _ (T125.setTop (mkF m 164 #[.val (.int len), .val (.int bits), .val (.int (3 : Int32)), .val (.int b0), .val (.int b1), .val (.int b2), .val (.int b3), .val (.ref b101), .val (.ref b_112), .unset, .unset, .unset] [(.ref b_112)]))
  obtain ⟨cq126, kq126, q126a, q126b, q126c⟩ := isOf hZ112 e125 Eb_112_h122
  obtain ⟨_, _, ⟨T126, L126, k126, n126⟩, -, X126, ⟨Lc126, hQ126, l126, y126, z126⟩, st126⟩ := X125.virtualBack hx (y := (⟨"com/example/claim/claim/model/VerificationResult", "payload", "()Ljava/util/Optional;"⟩ : MethodName)) (z := (⟨"com/example/claim/claim/model/VerificationResult", "payload", "()Ljava/util/Optional;"⟩ : MethodName)) hown112 (mvT hZ112 (hw _ (List.mem_of_getElem? (i := 60) rfl))) (mvT hZ112 (hw _ (List.mem_of_getElem? (i := 61) rfl))) (notFace_of_selects (args := #[]) (mvT hZ112 (hw _ (List.mem_of_getElem? (i := 63) rfl)))) (mvT hZ112 (hw _ (List.mem_of_getElem? (i := 63) rfl))) (mvT hZ112 (hw _ (List.mem_of_getElem? (i := 62) rfl))) (by decide) (backOf (W := 0) (rmPl l Z a0 hw [] b_112 q_112 k101 ((3 : Int32)) ([(.int b0), (.int b1), (.int b2)]) h121 O121 Pp_112_h122 Eq__112_h122 Aq_112_h122 (by decide)) hZ112 (hw _ (List.mem_of_getElem? (i := 64) rfl)) (hw _ (List.mem_of_getElem? (i := 4) rfl)) (by decide) (by decide)) q126a q126c (g := (mkF m 164 #[.val (.int len), .val (.int bits), .val (.int (3 : Int32)), .val (.int b0), .val (.int b1), .val (.int b2), .val (.int b3), .val (.ref b101), .val (.ref b_112), .unset, .unset, .unset] [(.ref b_112)])) rfl (by rw [hml]; rfl) (Steps.refl _) (argsL := []) (rest := []) (lenOf pd___Ljava_util_Optional_ rfl) rfl (by show 2 * 0 + _ ≤ _; exact Nat.le_of_eq rfl) (hb hby at_164) (fun _ _ => ⟨rfl, e125, (by decide : 5 + 3 ≤ _), (by decide : 51 + 6 ≤ _)⟩)
  dsimp only [Pt.U, Pt.locs, Pt.cells, Pt.slots] at X126 l126 y126 z126 st126 hQ126
  subst y126 z126
  obtain ⟨b_126, u_126, rfl, N126q, O126, Kc126, Eb_126, Pv_126, Eu_126, Au_126, Gb_126, Gu_126, Sb_126, Su_126, Nbu_126⟩ := hQ126
  have N126 : Fr Z.heap.size L126 := by rw [l126]; exact Fr.app N125 N126q
  refine Go.tr st126 ?_
  have hk126 := Nat.le_trans hk121 Kc126.1
  have Q101_h127 := Q101_h122.keep Kc126
  have Eb_112_h127 := Eb_112_h122.keep Kc126
  have Pp_112_h127 := Pp_112_h122.keep Kc126 nin0
  have Pq_112_h127 := Pq_112_h122.keep Kc126 nin0
  have Eq__112_h127 := Eq__112_h122.keep Kc126
  have Aq_112_h127 := Aq_112_h122.keep Kc126 nin0
  have V_b101_121_h127 := V_b101_121.keep Kc126 nin0
  have ne_w_EMPTY_b_126 : w_EMPTY ≠ b_126 := Nat.ne_of_lt (Nat.lt_of_lt_of_le (E_EMPTY.ext O121).lt Sb_126)
  have ne_b101_b_126 : b101 ≠ b_126 := Nat.ne_of_lt (Nat.lt_of_lt_of_le Q101_h122.lt Sb_126)
  have ne_b_112_b_126 : b_112 ≠ b_126 := Nat.ne_of_lt (Nat.lt_of_lt_of_le Eb_112_h122.lt Sb_126)
  have ne_q_112_b_126 : q_112 ≠ b_126 := Nat.ne_of_lt (Nat.lt_of_lt_of_le Eq__112_h122.lt Sb_126)
  have ne_w_EMPTY_u_126 : w_EMPTY ≠ u_126 := Nat.ne_of_lt (Nat.lt_of_lt_of_le (E_EMPTY.ext O121).lt Su_126)
  have ne_b101_u_126 : b101 ≠ u_126 := Nat.ne_of_lt (Nat.lt_of_lt_of_le Q101_h122.lt Su_126)
  have ne_b_112_u_126 : b_112 ≠ u_126 := Nat.ne_of_lt (Nat.lt_of_lt_of_le Eb_112_h122.lt Su_126)
  have ne_q_112_u_126 : q_112 ≠ u_126 := Nat.ne_of_lt (Nat.lt_of_lt_of_le Eq__112_h122.lt Su_126)
  show Go p e below _ (T126.setTop (mkF m 167 #[.val (.int len), .val (.int bits), .val (.int (3 : Int32)), .val (.int b0), .val (.int b1), .val (.int b2), .val (.int b3), .val (.ref b101), .val (.ref b_112), .unset, .unset, .unset] [(.ref b_126)]))
  refine Go.st (fun t' k' => XS.astore X126.here hx rfl (hb hby at_167) rfl rfl (l' := #[.val (.int len), .val (.int bits), .val (.int (3 : Int32)), .val (.int b0), .val (.int b1), .val (.int b2), .val (.int b3), .val (.ref b101), .val (.ref b_112), .val (.ref b_126), .unset, .unset]) rfl k') ?_
  show Go p e below _ (T126.setTop (mkF m 169 #[.val (.int len), .val (.int bits), .val (.int (3 : Int32)), .val (.int b0), .val (.int b1), .val (.int b2), .val (.int b3), .val (.ref b101), .val (.ref b_112), .val (.ref b_126), .unset, .unset] []))
  refine Go.st (fun t' k' => XS.aload X126.here hx rfl (hb hby at_169) rfl rfl k') ?_
  show Go p e below _ (T126.setTop (mkF m 171 #[.val (.int len), .val (.int bits), .val (.int (3 : Int32)), .val (.int b0), .val (.int b1), .val (.int b2), .val (.int b3), .val (.ref b101), .val (.ref b_112), .val (.ref b_126), .unset, .unset] [(.ref b_126)]))
  obtain ⟨cq128, kq128, q128a, q128b, q128c⟩ := isOf hZ112 rfl Eb_126
  obtain ⟨_, _, ⟨T128, L128, k128, n128⟩, -, X128, ⟨Lc128, hQ128, l128, y128, z128⟩, st128⟩ := X126.virtualBack hx (y := (⟨"java/util/Optional", "isPresent", "()Z"⟩ : MethodName)) (z := (⟨"java/util/Optional", "isPresent", "()Z"⟩ : MethodName)) hown112 (mvT hZ112 (hw _ (List.mem_of_getElem? (i := 53) rfl))) (mvT hZ112 (hw _ (List.mem_of_getElem? (i := 54) rfl))) (notFace_of_selects (args := #[]) (mvT hZ112 (hw _ (List.mem_of_getElem? (i := 56) rfl)))) (mvT hZ112 (hw _ (List.mem_of_getElem? (i := 56) rfl))) (mvT hZ112 (hw _ (List.mem_of_getElem? (i := 55) rfl))) (by decide) (backOf (W := 0) (rmIs1 l Z a0 hw [] b_126 u_126 T126.heap O126 Pv_126) hZ112 (hw _ (List.mem_of_getElem? (i := 57) rfl)) (hw _ (List.mem_of_getElem? (i := 50) rfl)) (by decide) (by decide)) q128a q128c (g := (mkF m 171 #[.val (.int len), .val (.int bits), .val (.int (3 : Int32)), .val (.int b0), .val (.int b1), .val (.int b2), .val (.int b3), .val (.ref b101), .val (.ref b_112), .val (.ref b_126), .unset, .unset] [(.ref b_126)])) rfl (by rw [hml]; rfl) (Steps.refl _) (argsL := []) (rest := []) (lenOf pd___Z rfl) rfl (by show 2 * 0 + _ ≤ _; exact Nat.le_of_eq rfl) (hb hby at_171) (fun _ _ => ⟨rfl, rfl, (by decide : 8 + 0 ≤ _), (by decide : 57 + 0 ≤ _)⟩)
  dsimp only [Pt.U, Pt.locs, Pt.cells, Pt.slots] at X128 l128 y128 z128 st128 hQ128
  subst y128 z128
  obtain ⟨rfl, rfl, e128⟩ := hQ128
  have N128 : Fr Z.heap.size L128 := by rw [l128]; exact Fr.app N126 (Fr.nil _)
  refine Go.tr st128 ?_
  show Go p e below _ (T128.setTop (mkF m 174 #[.val (.int len), .val (.int bits), .val (.int (3 : Int32)), .val (.int b0), .val (.int b1), .val (.int b2), .val (.int b3), .val (.ref b101), .val (.ref b_112), .val (.ref b_126), .unset, .unset] [(.int (1 : Int32))]))
  refine Go.st (fun t' k' => XS.ifYes X128.here hx rfl (pc0 := 174) (pc' := 179) rfl (hb hby at_174) rfl ((if0 _ _).trans (feq (by decide : ¬ ((1 : Int32) = (0 : Int32)))).2) (by decide) (by decide) k') ?_
  show Go p e below _ (T128.setTop (mkF m 179 #[.val (.int len), .val (.int bits), .val (.int (3 : Int32)), .val (.int b0), .val (.int b1), .val (.int b2), .val (.int b3), .val (.ref b101), .val (.ref b_112), .val (.ref b_126), .unset, .unset] []))
  refine Go.st (fun t' k' => XS.aload X128.here hx rfl (hb hby at_179) rfl rfl k') ?_
  show Go p e below _ (T128.setTop (mkF m 181 #[.val (.int len), .val (.int bits), .val (.int (3 : Int32)), .val (.int b0), .val (.int b1), .val (.int b2), .val (.int b3), .val (.ref b101), .val (.ref b_112), .val (.ref b_126), .unset, .unset] [(.ref b_126)]))
  obtain ⟨cq129, kq129, q129a, q129b, q129c⟩ := isOf hZ112 e128 Eb_126
  obtain ⟨_, _, ⟨T129, L129, k129, n129⟩, -, X129, ⟨Lc129, hQ129, l129, y129, z129⟩, st129⟩ := X128.virtualBack hx (y := (⟨"java/util/Optional", "get", "()Ljava/lang/Object;"⟩ : MethodName)) (z := (⟨"java/util/Optional", "get", "()Ljava/lang/Object;"⟩ : MethodName)) hown112 (mvT hZ112 (hw _ (List.mem_of_getElem? (i := 94) rfl))) (mvT hZ112 (hw _ (List.mem_of_getElem? (i := 95) rfl))) (notFace_of_selects (args := #[]) (mvT hZ112 (hw _ (List.mem_of_getElem? (i := 97) rfl)))) (mvT hZ112 (hw _ (List.mem_of_getElem? (i := 97) rfl))) (mvT hZ112 (hw _ (List.mem_of_getElem? (i := 96) rfl))) (by decide) (backOf (W := 0) (rmGet l Z a0 hw [] b_126 u_126 T126.heap O126 Pv_126) hZ112 (hw _ (List.mem_of_getElem? (i := 98) rfl)) (hw _ (List.mem_of_getElem? (i := 50) rfl)) (by decide) (by decide)) q129a q129c (g := (mkF m 181 #[.val (.int len), .val (.int bits), .val (.int (3 : Int32)), .val (.int b0), .val (.int b1), .val (.int b2), .val (.int b3), .val (.ref b101), .val (.ref b_112), .val (.ref b_126), .unset, .unset] [(.ref b_126)])) rfl (by rw [hml]; rfl) (Steps.refl _) (argsL := []) (rest := []) (lenOf pd___Ljava_lang_Object_ rfl) rfl (by show 2 * 0 + _ ≤ _; exact Nat.le_of_eq rfl) (hb hby at_181) (fun _ _ => ⟨rfl, e128, (by decide : 8 + 0 ≤ _), (by decide : 57 + 0 ≤ _)⟩)
  dsimp only [Pt.U, Pt.locs, Pt.cells, Pt.slots] at X129 l129 y129 z129 st129 hQ129
  subst y129 z129
  obtain ⟨rfl, rfl, e129⟩ := hQ129
  have N129 : Fr Z.heap.size L129 := by rw [l129]; exact Fr.app N128 (Fr.nil _)
  refine Go.tr st129 ?_
  show Go p e below _ (T129.setTop (mkF m 184 #[.val (.int len), .val (.int bits), .val (.int (3 : Int32)), .val (.int b0), .val (.int b1), .val (.int b2), .val (.int b3), .val (.ref b101), .val (.ref b_112), .val (.ref b_126), .unset, .unset] [(.ref u_126)]))
  obtain ⟨T130, X130, e130, st130⟩ := castY X129 hx hZ112 hown112 (hw _ (List.mem_of_getElem? (i := 99) rfl)) e129 (Ins.self Eu_126) (g := (mkF m 184 #[.val (.int len), .val (.int bits), .val (.int (3 : Int32)), .val (.int b0), .val (.int b1), .val (.int b2), .val (.int b3), .val (.ref b101), .val (.ref b_112), .val (.ref b_126), .unset, .unset] [(.ref u_126)])) rfl rfl (hb hby at_184)
  refine Go.st st130 ?_
  show Go p e below _ (T130.setTop (mkF m 187 #[.val (.int len), .val (.int bits), .val (.int (3 : Int32)), .val (.int b0), .val (.int b1), .val (.int b2), .val (.int b3), .val (.ref b101), .val (.ref b_112), .val (.ref b_126), .unset, .unset] [(.ref u_126)]))
  refine Go.st (fun t' k' => XS.astore X130.here hx rfl (hb hby at_187) rfl rfl (l' := #[.val (.int len), .val (.int bits), .val (.int (3 : Int32)), .val (.int b0), .val (.int b1), .val (.int b2), .val (.int b3), .val (.ref b101), .val (.ref b_112), .val (.ref b_126), .val (.ref u_126), .unset]) rfl k') ?_
  show Go p e below _ (T130.setTop (mkF m 189 #[.val (.int len), .val (.int bits), .val (.int (3 : Int32)), .val (.int b0), .val (.int b1), .val (.int b2), .val (.int b3), .val (.ref b101), .val (.ref b_112), .val (.ref b_126), .val (.ref u_126), .unset] []))
  refine Go.st (fun t' k' => XS.aload X130.here hx rfl (hb hby at_189) rfl rfl k') ?_
  show Go p e below _ (T130.setTop (mkF m 191 #[.val (.int len), .val (.int bits), .val (.int (3 : Int32)), .val (.int b0), .val (.int b1), .val (.int b2), .val (.int b3), .val (.ref b101), .val (.ref b_112), .val (.ref b_126), .val (.ref u_126), .unset] [(.ref u_126)]))
  refine Go.st (fun t' k' => XS.aload X130.here hx rfl (hb hby at_191) rfl rfl k') ?_
  show Go p e below _ (T130.setTop (mkF m 193 #[.val (.int len), .val (.int bits), .val (.int (3 : Int32)), .val (.int b0), .val (.int b1), .val (.int b2), .val (.int b3), .val (.ref b101), .val (.ref b_112), .val (.ref b_126), .val (.ref u_126), .unset] [(.ref b101), (.ref u_126)]))
  refine Go.st (fun t' k' => Jvm.RoadKit.acmp (g := (mkF m 193 #[.val (.int len), .val (.int bits), .val (.int (3 : Int32)), .val (.int b0), .val (.int b1), .val (.int b2), .val (.int b3), .val (.ref b101), .val (.ref b_112), .val (.ref b_126), .val (.ref u_126), .unset] [(.ref b101), (.ref u_126)])) X130 hx rfl rfl rfl (pc0 := 193) (pc' := 198) (same := false) rfl (hb hby at_193) rfl (decide_eq_false fun q => (Ne.symm ne_b101_u_126) (Value.ref.inj q)) (by decide) (by decide) k') ?_
  show Go p e below _ (T130.setTop (mkF m 198 #[.val (.int len), .val (.int bits), .val (.int (3 : Int32)), .val (.int b0), .val (.int b1), .val (.int b2), .val (.int b3), .val (.ref b101), .val (.ref b_112), .val (.ref b_126), .val (.ref u_126), .unset] []))
  refine Go.st (fun t' k' => XS.aload X130.here hx rfl (hb hby at_198) rfl rfl k') ?_
  show Go p e below _ (T130.setTop (mkF m 200 #[.val (.int len), .val (.int bits), .val (.int (3 : Int32)), .val (.int b0), .val (.int b1), .val (.int b2), .val (.int b3), .val (.ref b101), .val (.ref b_112), .val (.ref b_126), .val (.ref u_126), .unset] [(.ref u_126)]))
  refine Go.st (fun t' k' => XS.iloadN X130.here hx rfl (hb hby at_200) rfl k') ?_
  show Go p e below _ (T130.setTop (mkF m 201 #[.val (.int len), .val (.int bits), .val (.int (3 : Int32)), .val (.int b0), .val (.int b1), .val (.int b2), .val (.int b3), .val (.ref b101), .val (.ref b_112), .val (.ref b_126), .val (.ref u_126), .unset] [(.int (3 : Int32)), (.ref u_126)]))
  refine Go.st (fun t' k' => XS.iloadN X130.here hx rfl (hb hby at_201) rfl k') ?_
  show Go p e below _ (T130.setTop (mkF m 202 #[.val (.int len), .val (.int bits), .val (.int (3 : Int32)), .val (.int b0), .val (.int b1), .val (.int b2), .val (.int b3), .val (.ref b101), .val (.ref b_112), .val (.ref b_126), .val (.ref u_126), .unset] [(.int b0), (.int (3 : Int32)), (.ref u_126)]))
  refine Go.st (fun t' k' => XS.iload X130.here hx rfl (hb hby at_202) rfl k') ?_
  show Go p e below _ (T130.setTop (mkF m 204 #[.val (.int len), .val (.int bits), .val (.int (3 : Int32)), .val (.int b0), .val (.int b1), .val (.int b2), .val (.int b3), .val (.ref b101), .val (.ref b_112), .val (.ref b_126), .val (.ref u_126), .unset] [(.int b1), (.int b0), (.int (3 : Int32)), (.ref u_126)]))
  refine Go.st (fun t' k' => XS.iload X130.here hx rfl (hb hby at_204) rfl k') ?_
  show Go p e below _ (T130.setTop (mkF m 206 #[.val (.int len), .val (.int bits), .val (.int (3 : Int32)), .val (.int b0), .val (.int b1), .val (.int b2), .val (.int b3), .val (.ref b101), .val (.ref b_112), .val (.ref b_126), .val (.ref u_126), .unset] [(.int b2), (.int b1), (.int b0), (.int (3 : Int32)), (.ref u_126)]))
  refine Go.st (fun t' k' => XS.iload X130.here hx rfl (hb hby at_206) rfl k') ?_
  show Go p e below _ (T130.setTop (mkF m 208 #[.val (.int len), .val (.int bits), .val (.int (3 : Int32)), .val (.int b0), .val (.int b1), .val (.int b2), .val (.int b3), .val (.ref b101), .val (.ref b_112), .val (.ref b_126), .val (.ref u_126), .unset] [(.int b3), (.int b2), (.int b1), (.int b0), (.int (3 : Int32)), (.ref u_126)]))
  obtain ⟨_, _, ⟨T131, L131, k131, n131⟩, -, X131, ⟨Lc131, hQ131, l131, y131, z131⟩, st131⟩ := Jvm.LawKit.callS X130 hx (y := (⟨"com/example/claim/claim/model/VerificationResultAcceptedPinLaw", "same", "([BIBBBB)Z"⟩ : MethodName)) hown112 (mvT hZ112 (hw _ (List.mem_of_getElem? (i := 100) rfl))) (mvT hZ112 (hw _ (List.mem_of_getElem? (i := 101) rfl))) (mvT hZ112 (hw _ (List.mem_of_getElem? (i := 102) rfl))) (mvT hZ112 (hw _ (List.mem_of_getElem? (i := 103) rfl))) (by decide) (backOf (W := 0) (rmSm3 l Z a0 hw [] u_126 b0 b1 b2 b3 k101 T126.heap O126 Au_126) hZ112 (hw _ (List.mem_of_getElem? (i := 103) rfl)) (hw _ (List.mem_of_getElem? (i := 102) rfl)) (by decide) (by decide)) (g := (mkF m 208 #[.val (.int len), .val (.int bits), .val (.int (3 : Int32)), .val (.int b0), .val (.int b1), .val (.int b2), .val (.int b3), .val (.ref b101), .val (.ref b_112), .val (.ref b_126), .val (.ref u_126), .unset] [(.int b3), (.int b2), (.int b1), (.int b0), (.int (3 : Int32)), (.ref u_126)])) rfl (by rw [hml]; rfl) (argsL := [(.ref u_126), (.int (3 : Int32)), (.int b0), (.int b1), (.int b2), (.int b3)]) (rest := []) (lenOf pd___BIBBBB_Z rfl) rfl (by show 2 * 0 + _ ≤ _; exact Nat.le_of_eq rfl) (hb hby at_208) (fun _ _ => ⟨rfl, e130, (by decide : 8 + 0 ≤ _), (by decide : 57 + 0 ≤ _)⟩)
  dsimp only [Pt.U, Pt.locs, Pt.cells, Pt.slots] at X131 l131 y131 z131 st131 hQ131
  subst y131 z131
  obtain ⟨rfl, rfl, e131⟩ := hQ131
  have N131 : Fr Z.heap.size L131 := by rw [l131]; exact Fr.app N129 (Fr.nil _)
  refine Go.st st131 ?_
  show Go p e below _ (T131.setTop (mkF m 211 #[.val (.int len), .val (.int bits), .val (.int (3 : Int32)), .val (.int b0), .val (.int b1), .val (.int b2), .val (.int b3), .val (.ref b101), .val (.ref b_112), .val (.ref b_126), .val (.ref u_126), .unset] [(.int (1 : Int32))]))
  refine Go.st (fun t' k' => XS.ifYes X131.here hx rfl (pc0 := 211) (pc' := 216) rfl (hb hby at_211) rfl ((if0 _ _).trans (feq (by decide : ¬ ((1 : Int32) = (0 : Int32)))).2) (by decide) (by decide) k') ?_
  show Go p e below _ (T131.setTop (mkF m 216 #[.val (.int len), .val (.int bits), .val (.int (3 : Int32)), .val (.int b0), .val (.int b1), .val (.int b2), .val (.int b3), .val (.ref b101), .val (.ref b_112), .val (.ref b_126), .val (.ref u_126), .unset] []))
  refine Go.st (fun t' k' => XS.iloadN X131.here hx rfl (hb hby at_216) rfl k') ?_
  show Go p e below _ (T131.setTop (mkF m 217 #[.val (.int len), .val (.int bits), .val (.int (3 : Int32)), .val (.int b0), .val (.int b1), .val (.int b2), .val (.int b3), .val (.ref b101), .val (.ref b_112), .val (.ref b_126), .val (.ref u_126), .unset] [(.int (3 : Int32))]))
  refine Go.st (fun t' k' => XS.ifNo X131.here hx rfl (hb hby at_217) rfl ((if0 _ _).trans (tlt (by decide : (0 : Int32) < (3 : Int32))).2.2.2) k') ?_
  show Go p e below _ (T131.setTop (mkF m 220 #[.val (.int len), .val (.int bits), .val (.int (3 : Int32)), .val (.int b0), .val (.int b1), .val (.int b2), .val (.int b3), .val (.ref b101), .val (.ref b_112), .val (.ref b_126), .val (.ref u_126), .unset] []))
  refine Go.st (fun t' k' => XS.aload X131.here hx rfl (hb hby at_220) rfl rfl k') ?_
  show Go p e below _ (T131.setTop (mkF m 222 #[.val (.int len), .val (.int bits), .val (.int (3 : Int32)), .val (.int b0), .val (.int b1), .val (.int b2), .val (.int b3), .val (.ref b101), .val (.ref b_112), .val (.ref b_126), .val (.ref u_126), .unset] [(.ref u_126)]))
  refine Go.st (fun t' k' => XS.iconst X131.here hx rfl (hb hby at_222) k') ?_
  show Go p e below _ (T131.setTop (mkF m 223 #[.val (.int len), .val (.int bits), .val (.int (3 : Int32)), .val (.int b0), .val (.int b1), .val (.int b2), .val (.int b3), .val (.ref b101), .val (.ref b_112), .val (.ref b_126), .val (.ref u_126), .unset] [(.int (0 : Int32)), (.ref u_126)]))
  refine Go.st (fun t' k' => XS.iloadN X131.here hx rfl (hb hby at_223) rfl k') ?_
  show Go p e below _ (T131.setTop (mkF m 224 #[.val (.int len), .val (.int bits), .val (.int (3 : Int32)), .val (.int b0), .val (.int b1), .val (.int b2), .val (.int b3), .val (.ref b101), .val (.ref b_112), .val (.ref b_126), .val (.ref u_126), .unset] [(.int b0), (.int (0 : Int32)), (.ref u_126)]))
  refine Go.st (fun t' k' => XS.iconst X131.here hx rfl (hb hby at_224) k') ?_
  show Go p e below _ (T131.setTop (mkF m 225 #[.val (.int len), .val (.int bits), .val (.int (3 : Int32)), .val (.int b0), .val (.int b1), .val (.int b2), .val (.int b3), .val (.ref b101), .val (.ref b_112), .val (.ref b_126), .val (.ref u_126), .unset] [(.int (-1 : Int32)), (.int b0), (.int (0 : Int32)), (.ref u_126)]))
  refine Go.st (fun t' k' => XS.ixor X131.here hx rfl (hb hby at_225) rfl k') ?_
  show Go p e below _ (T131.setTop (mkF m 226 #[.val (.int len), .val (.int bits), .val (.int (3 : Int32)), .val (.int b0), .val (.int b1), .val (.int b2), .val (.int b3), .val (.ref b101), .val (.ref b_112), .val (.ref b_126), .val (.ref u_126), .unset] [(.int (b0 ^^^ (-1 : Int32))), (.int (0 : Int32)), (.ref u_126)]))
  refine Go.st (fun t' k' => XS.i2b X131.here hx rfl (hb hby at_226) rfl k') ?_
  show Go p e below _ (T131.setTop (mkF m 227 #[.val (.int len), .val (.int bits), .val (.int (3 : Int32)), .val (.int b0), .val (.int b1), .val (.int b2), .val (.int b3), .val (.ref b101), .val (.ref b_112), .val (.ref b_126), .val (.ref u_126), .unset] [(.int ((b0 ^^^ (-1 : Int32)).toInt8.toInt32)), (.int (0 : Int32)), (.ref u_126)]))
  obtain ⟨cls132, Ars132, qs132, Szs132, Nzs132, Hss132, Gss132⟩ := (id Au_126)
  have hins132 : ¬ ((0 : Int32) < 0 ∨ cls132.slots.size ≤ ((0 : Int32)).toNatClampNeg) := inb_of Szs132 ⟨by decide, by decide⟩
  obtain ⟨T133, h133, X133, e133, W133, st133⟩ := stB X131 hx hZ112 e131 Ars132 (j := (0 : Int32)) hins132 (g := (mkF m 227 #[.val (.int len), .val (.int bits), .val (.int (3 : Int32)), .val (.int b0), .val (.int b1), .val (.int b2), .val (.int b3), .val (.ref b101), .val (.ref b_112), .val (.ref b_126), .val (.ref u_126), .unset] [(.int ((b0 ^^^ (-1 : Int32)).toInt8.toInt32)), (.int (0 : Int32)), (.ref u_126)])) rfl rfl (hb hby at_227)
  refine Go.st st133 ?_
  have V_u_126_133 : Arv Z h133 u_126 k101 .byte (3 : Int32) [(.int ((b0 ^^^ (-1 : Int32)).toInt8.toInt32).toInt8.toInt32), (.int b1), (.int b2)] (.int (0 : Int32)) := own_set (vs := [(.int b0), (.int b1), (.int b2)]) (v' := (.int ((b0 ^^^ (-1 : Int32)).toInt8.toInt32).toInt8.toInt32)) Ars132 qs132 Szs132 Nzs132 Hss132 Gss132 (fits_nar_byte _) W133 0 rfl (Nat.le_of_ble_eq_true rfl) rfl rfl
  have Q101_h134 := Q101_h127.wr W133
  have Eb_112_h134 := Eb_112_h127.wr W133
  have Pp_112_h134 := Pp_112_h127.other W133 (Or.inl ne_b_112_u_126)
  have Pq_112_h134 := Pq_112_h127.other W133 (Or.inl ne_b_112_u_126)
  have Eq__112_h134 := Eq__112_h127.wr W133
  have Aq_112_h134 := Aq_112_h127.other W133 ne_q_112_u_126
  have V_b101_121_h134 := V_b101_121_h127.other W133 ne_b101_u_126
  have Eb_126_h134 := Eb_126.wr W133
  have Pv_126_h134 := Pv_126.other W133 (Or.inl Nbu_126)
  have Eu_126_h134 := Eu_126.wr W133
  have hk133 := Nat.le_trans hk126 (Keep.of_wr W133).1
  have O133 := own_ext_wr O126 W133 Gu_126
  have N133 := Fr.snoc X133 N131 Gu_126
  show Go p e below _ (T133.setTop (mkF m 228 #[.val (.int len), .val (.int bits), .val (.int (3 : Int32)), .val (.int b0), .val (.int b1), .val (.int b2), .val (.int b3), .val (.ref b101), .val (.ref b_112), .val (.ref b_126), .val (.ref u_126), .unset] []))
  refine Go.st (fun t' k' => XS.iloadN X133.here hx rfl (hb hby at_228) rfl k') ?_
  show Go p e below _ (T133.setTop (mkF m 229 #[.val (.int len), .val (.int bits), .val (.int (3 : Int32)), .val (.int b0), .val (.int b1), .val (.int b2), .val (.int b3), .val (.ref b101), .val (.ref b_112), .val (.ref b_126), .val (.ref u_126), .unset] [(.int (3 : Int32))]))
  refine Go.st (fun t' k' => XS.iconst X133.here hx rfl (hb hby at_229) k') ?_
  show Go p e below _ (T133.setTop (mkF m 230 #[.val (.int len), .val (.int bits), .val (.int (3 : Int32)), .val (.int b0), .val (.int b1), .val (.int b2), .val (.int b3), .val (.ref b101), .val (.ref b_112), .val (.ref b_126), .val (.ref u_126), .unset] [(.int (1 : Int32)), (.int (3 : Int32))]))
  refine Go.st (fun t' k' => XS.icmpNo X133.here hx rfl (hb hby at_230) rfl (tlt (by decide : (1 : Int32) < (3 : Int32))).2.2.2 k') ?_
  show Go p e below _ (T133.setTop (mkF m 233 #[.val (.int len), .val (.int bits), .val (.int (3 : Int32)), .val (.int b0), .val (.int b1), .val (.int b2), .val (.int b3), .val (.ref b101), .val (.ref b_112), .val (.ref b_126), .val (.ref u_126), .unset] []))
  refine Go.st (fun t' k' => XS.aload X133.here hx rfl (hb hby at_233) rfl rfl k') ?_
  show Go p e below _ (T133.setTop (mkF m 235 #[.val (.int len), .val (.int bits), .val (.int (3 : Int32)), .val (.int b0), .val (.int b1), .val (.int b2), .val (.int b3), .val (.ref b101), .val (.ref b_112), .val (.ref b_126), .val (.ref u_126), .unset] [(.ref u_126)]))
  refine Go.st (fun t' k' => XS.iconst X133.here hx rfl (hb hby at_235) k') ?_
  show Go p e below _ (T133.setTop (mkF m 236 #[.val (.int len), .val (.int bits), .val (.int (3 : Int32)), .val (.int b0), .val (.int b1), .val (.int b2), .val (.int b3), .val (.ref b101), .val (.ref b_112), .val (.ref b_126), .val (.ref u_126), .unset] [(.int (1 : Int32)), (.ref u_126)]))
  refine Go.st (fun t' k' => XS.iload X133.here hx rfl (hb hby at_236) rfl k') ?_
  show Go p e below _ (T133.setTop (mkF m 238 #[.val (.int len), .val (.int bits), .val (.int (3 : Int32)), .val (.int b0), .val (.int b1), .val (.int b2), .val (.int b3), .val (.ref b101), .val (.ref b_112), .val (.ref b_126), .val (.ref u_126), .unset] [(.int b1), (.int (1 : Int32)), (.ref u_126)]))
  refine Go.st (fun t' k' => XS.iconst X133.here hx rfl (hb hby at_238) k') ?_
  show Go p e below _ (T133.setTop (mkF m 239 #[.val (.int len), .val (.int bits), .val (.int (3 : Int32)), .val (.int b0), .val (.int b1), .val (.int b2), .val (.int b3), .val (.ref b101), .val (.ref b_112), .val (.ref b_126), .val (.ref u_126), .unset] [(.int (-1 : Int32)), (.int b1), (.int (1 : Int32)), (.ref u_126)]))
  refine Go.st (fun t' k' => XS.ixor X133.here hx rfl (hb hby at_239) rfl k') ?_
  show Go p e below _ (T133.setTop (mkF m 240 #[.val (.int len), .val (.int bits), .val (.int (3 : Int32)), .val (.int b0), .val (.int b1), .val (.int b2), .val (.int b3), .val (.ref b101), .val (.ref b_112), .val (.ref b_126), .val (.ref u_126), .unset] [(.int (b1 ^^^ (-1 : Int32))), (.int (1 : Int32)), (.ref u_126)]))
  refine Go.st (fun t' k' => XS.i2b X133.here hx rfl (hb hby at_240) rfl k') ?_
  show Go p e below _ (T133.setTop (mkF m 241 #[.val (.int len), .val (.int bits), .val (.int (3 : Int32)), .val (.int b0), .val (.int b1), .val (.int b2), .val (.int b3), .val (.ref b101), .val (.ref b_112), .val (.ref b_126), .val (.ref u_126), .unset] [(.int ((b1 ^^^ (-1 : Int32)).toInt8.toInt32)), (.int (1 : Int32)), (.ref u_126)]))
  obtain ⟨cls135, Ars135, qs135, Szs135, Nzs135, Hss135, Gss135⟩ := (id V_u_126_133)
  have hins135 : ¬ ((1 : Int32) < 0 ∨ cls135.slots.size ≤ ((1 : Int32)).toNatClampNeg) := inb_of Szs135 ⟨by decide, by decide⟩
  obtain ⟨T136, h136, X136, e136, W136, st136⟩ := stB X133 hx hZ112 e133 Ars135 (j := (1 : Int32)) hins135 (g := (mkF m 241 #[.val (.int len), .val (.int bits), .val (.int (3 : Int32)), .val (.int b0), .val (.int b1), .val (.int b2), .val (.int b3), .val (.ref b101), .val (.ref b_112), .val (.ref b_126), .val (.ref u_126), .unset] [(.int ((b1 ^^^ (-1 : Int32)).toInt8.toInt32)), (.int (1 : Int32)), (.ref u_126)])) rfl rfl (hb hby at_241)
  refine Go.st st136 ?_
  have V_u_126_136 : Arv Z h136 u_126 k101 .byte (3 : Int32) [(.int ((b0 ^^^ (-1 : Int32)).toInt8.toInt32).toInt8.toInt32), (.int ((b1 ^^^ (-1 : Int32)).toInt8.toInt32).toInt8.toInt32), (.int b2)] (.int (0 : Int32)) := own_set (vs := [(.int ((b0 ^^^ (-1 : Int32)).toInt8.toInt32).toInt8.toInt32), (.int b1), (.int b2)]) (v' := (.int ((b1 ^^^ (-1 : Int32)).toInt8.toInt32).toInt8.toInt32)) Ars135 qs135 Szs135 Nzs135 Hss135 Gss135 (fits_nar_byte _) W136 1 rfl (Nat.le_of_ble_eq_true rfl) rfl rfl
  have Q101_h137 := Q101_h134.wr W136
  have Eb_112_h137 := Eb_112_h134.wr W136
  have Pp_112_h137 := Pp_112_h134.other W136 (Or.inl ne_b_112_u_126)
  have Pq_112_h137 := Pq_112_h134.other W136 (Or.inl ne_b_112_u_126)
  have Eq__112_h137 := Eq__112_h134.wr W136
  have Aq_112_h137 := Aq_112_h134.other W136 ne_q_112_u_126
  have V_b101_121_h137 := V_b101_121_h134.other W136 ne_b101_u_126
  have Eb_126_h137 := Eb_126_h134.wr W136
  have Pv_126_h137 := Pv_126_h134.other W136 (Or.inl Nbu_126)
  have Eu_126_h137 := Eu_126_h134.wr W136
  have hk136 := Nat.le_trans hk133 (Keep.of_wr W136).1
  have O136 := own_ext_wr O133 W136 Gu_126
  have N136 := Fr.snoc X136 N133 Gu_126
  show Go p e below _ (T136.setTop (mkF m 242 #[.val (.int len), .val (.int bits), .val (.int (3 : Int32)), .val (.int b0), .val (.int b1), .val (.int b2), .val (.int b3), .val (.ref b101), .val (.ref b_112), .val (.ref b_126), .val (.ref u_126), .unset] []))
  refine Go.st (fun t' k' => XS.iloadN X136.here hx rfl (hb hby at_242) rfl k') ?_
  show Go p e below _ (T136.setTop (mkF m 243 #[.val (.int len), .val (.int bits), .val (.int (3 : Int32)), .val (.int b0), .val (.int b1), .val (.int b2), .val (.int b3), .val (.ref b101), .val (.ref b_112), .val (.ref b_126), .val (.ref u_126), .unset] [(.int (3 : Int32))]))
  refine Go.st (fun t' k' => XS.iconst X136.here hx rfl (hb hby at_243) k') ?_
  show Go p e below _ (T136.setTop (mkF m 244 #[.val (.int len), .val (.int bits), .val (.int (3 : Int32)), .val (.int b0), .val (.int b1), .val (.int b2), .val (.int b3), .val (.ref b101), .val (.ref b_112), .val (.ref b_126), .val (.ref u_126), .unset] [(.int (2 : Int32)), (.int (3 : Int32))]))
  refine Go.st (fun t' k' => XS.icmpNo X136.here hx rfl (hb hby at_244) rfl (tlt (by decide : (2 : Int32) < (3 : Int32))).2.2.2 k') ?_
  show Go p e below _ (T136.setTop (mkF m 247 #[.val (.int len), .val (.int bits), .val (.int (3 : Int32)), .val (.int b0), .val (.int b1), .val (.int b2), .val (.int b3), .val (.ref b101), .val (.ref b_112), .val (.ref b_126), .val (.ref u_126), .unset] []))
  refine Go.st (fun t' k' => XS.aload X136.here hx rfl (hb hby at_247) rfl rfl k') ?_
  show Go p e below _ (T136.setTop (mkF m 249 #[.val (.int len), .val (.int bits), .val (.int (3 : Int32)), .val (.int b0), .val (.int b1), .val (.int b2), .val (.int b3), .val (.ref b101), .val (.ref b_112), .val (.ref b_126), .val (.ref u_126), .unset] [(.ref u_126)]))
  refine Go.st (fun t' k' => XS.iconst X136.here hx rfl (hb hby at_249) k') ?_
  show Go p e below _ (T136.setTop (mkF m 250 #[.val (.int len), .val (.int bits), .val (.int (3 : Int32)), .val (.int b0), .val (.int b1), .val (.int b2), .val (.int b3), .val (.ref b101), .val (.ref b_112), .val (.ref b_126), .val (.ref u_126), .unset] [(.int (2 : Int32)), (.ref u_126)]))
  refine Go.st (fun t' k' => XS.iload X136.here hx rfl (hb hby at_250) rfl k') ?_
  show Go p e below _ (T136.setTop (mkF m 252 #[.val (.int len), .val (.int bits), .val (.int (3 : Int32)), .val (.int b0), .val (.int b1), .val (.int b2), .val (.int b3), .val (.ref b101), .val (.ref b_112), .val (.ref b_126), .val (.ref u_126), .unset] [(.int b2), (.int (2 : Int32)), (.ref u_126)]))
  refine Go.st (fun t' k' => XS.iconst X136.here hx rfl (hb hby at_252) k') ?_
  show Go p e below _ (T136.setTop (mkF m 253 #[.val (.int len), .val (.int bits), .val (.int (3 : Int32)), .val (.int b0), .val (.int b1), .val (.int b2), .val (.int b3), .val (.ref b101), .val (.ref b_112), .val (.ref b_126), .val (.ref u_126), .unset] [(.int (-1 : Int32)), (.int b2), (.int (2 : Int32)), (.ref u_126)]))
  refine Go.st (fun t' k' => XS.ixor X136.here hx rfl (hb hby at_253) rfl k') ?_
  show Go p e below _ (T136.setTop (mkF m 254 #[.val (.int len), .val (.int bits), .val (.int (3 : Int32)), .val (.int b0), .val (.int b1), .val (.int b2), .val (.int b3), .val (.ref b101), .val (.ref b_112), .val (.ref b_126), .val (.ref u_126), .unset] [(.int (b2 ^^^ (-1 : Int32))), (.int (2 : Int32)), (.ref u_126)]))
  refine Go.st (fun t' k' => XS.i2b X136.here hx rfl (hb hby at_254) rfl k') ?_
  show Go p e below _ (T136.setTop (mkF m 255 #[.val (.int len), .val (.int bits), .val (.int (3 : Int32)), .val (.int b0), .val (.int b1), .val (.int b2), .val (.int b3), .val (.ref b101), .val (.ref b_112), .val (.ref b_126), .val (.ref u_126), .unset] [(.int ((b2 ^^^ (-1 : Int32)).toInt8.toInt32)), (.int (2 : Int32)), (.ref u_126)]))
  obtain ⟨cls138, Ars138, qs138, Szs138, Nzs138, Hss138, Gss138⟩ := (id V_u_126_136)
  have hins138 : ¬ ((2 : Int32) < 0 ∨ cls138.slots.size ≤ ((2 : Int32)).toNatClampNeg) := inb_of Szs138 ⟨by decide, by decide⟩
  obtain ⟨T139, h139, X139, e139, W139, st139⟩ := stB X136 hx hZ112 e136 Ars138 (j := (2 : Int32)) hins138 (g := (mkF m 255 #[.val (.int len), .val (.int bits), .val (.int (3 : Int32)), .val (.int b0), .val (.int b1), .val (.int b2), .val (.int b3), .val (.ref b101), .val (.ref b_112), .val (.ref b_126), .val (.ref u_126), .unset] [(.int ((b2 ^^^ (-1 : Int32)).toInt8.toInt32)), (.int (2 : Int32)), (.ref u_126)])) rfl rfl (hb hby at_255)
  refine Go.st st139 ?_
  have V_u_126_139 : Arv Z h139 u_126 k101 .byte (3 : Int32) [(.int ((b0 ^^^ (-1 : Int32)).toInt8.toInt32).toInt8.toInt32), (.int ((b1 ^^^ (-1 : Int32)).toInt8.toInt32).toInt8.toInt32), (.int ((b2 ^^^ (-1 : Int32)).toInt8.toInt32).toInt8.toInt32)] (.int (0 : Int32)) := own_set (vs := [(.int ((b0 ^^^ (-1 : Int32)).toInt8.toInt32).toInt8.toInt32), (.int ((b1 ^^^ (-1 : Int32)).toInt8.toInt32).toInt8.toInt32), (.int b2)]) (v' := (.int ((b2 ^^^ (-1 : Int32)).toInt8.toInt32).toInt8.toInt32)) Ars138 qs138 Szs138 Nzs138 Hss138 Gss138 (fits_nar_byte _) W139 2 rfl (Nat.le_of_ble_eq_true rfl) rfl rfl
  have Q101_h140 := Q101_h137.wr W139
  have Eb_112_h140 := Eb_112_h137.wr W139
  have Pp_112_h140 := Pp_112_h137.other W139 (Or.inl ne_b_112_u_126)
  have Pq_112_h140 := Pq_112_h137.other W139 (Or.inl ne_b_112_u_126)
  have Eq__112_h140 := Eq__112_h137.wr W139
  have Aq_112_h140 := Aq_112_h137.other W139 ne_q_112_u_126
  have V_b101_121_h140 := V_b101_121_h137.other W139 ne_b101_u_126
  have Eb_126_h140 := Eb_126_h137.wr W139
  have Pv_126_h140 := Pv_126_h137.other W139 (Or.inl Nbu_126)
  have Eu_126_h140 := Eu_126_h137.wr W139
  have hk139 := Nat.le_trans hk136 (Keep.of_wr W139).1
  have O139 := own_ext_wr O136 W139 Gu_126
  have N139 := Fr.snoc X139 N136 Gu_126
  show Go p e below _ (T139.setTop (mkF m 256 #[.val (.int len), .val (.int bits), .val (.int (3 : Int32)), .val (.int b0), .val (.int b1), .val (.int b2), .val (.int b3), .val (.ref b101), .val (.ref b_112), .val (.ref b_126), .val (.ref u_126), .unset] []))
  refine Go.st (fun t' k' => XS.iloadN X139.here hx rfl (hb hby at_256) rfl k') ?_
  show Go p e below _ (T139.setTop (mkF m 257 #[.val (.int len), .val (.int bits), .val (.int (3 : Int32)), .val (.int b0), .val (.int b1), .val (.int b2), .val (.int b3), .val (.ref b101), .val (.ref b_112), .val (.ref b_126), .val (.ref u_126), .unset] [(.int (3 : Int32))]))
  refine Go.st (fun t' k' => XS.iconst X139.here hx rfl (hb hby at_257) k') ?_
  show Go p e below _ (T139.setTop (mkF m 258 #[.val (.int len), .val (.int bits), .val (.int (3 : Int32)), .val (.int b0), .val (.int b1), .val (.int b2), .val (.int b3), .val (.ref b101), .val (.ref b_112), .val (.ref b_126), .val (.ref u_126), .unset] [(.int (3 : Int32)), (.int (3 : Int32))]))
  refine Go.st (fun t' k' => XS.icmpYes X139.here hx rfl (pc0 := 258) (pc' := 270) rfl (hb hby at_258) rfl (flt (by decide : ¬ ((3 : Int32) < (3 : Int32)))).2.2.2 (by decide) (by decide) k') ?_
  show Go p e below _ (T139.setTop (mkF m 270 #[.val (.int len), .val (.int bits), .val (.int (3 : Int32)), .val (.int b0), .val (.int b1), .val (.int b2), .val (.int b3), .val (.ref b101), .val (.ref b_112), .val (.ref b_126), .val (.ref u_126), .unset] []))
  refine Go.st (fun t' k' => XS.aload X139.here hx rfl (hb hby at_270) rfl rfl k') ?_
  show Go p e below _ (T139.setTop (mkF m 272 #[.val (.int len), .val (.int bits), .val (.int (3 : Int32)), .val (.int b0), .val (.int b1), .val (.int b2), .val (.int b3), .val (.ref b101), .val (.ref b_112), .val (.ref b_126), .val (.ref u_126), .unset] [(.ref b_112)]))
  obtain ⟨cq141, kq141, q141a, q141b, q141c⟩ := isOf hZ112 e139 Eb_112_h140
  obtain ⟨_, _, ⟨T141, L141, k141, n141⟩, -, X141, ⟨Lc141, hQ141, l141, y141, z141⟩, st141⟩ := X139.virtualBack hx (y := (⟨"com/example/claim/claim/model/VerificationResult", "payload", "()Ljava/util/Optional;"⟩ : MethodName)) (z := (⟨"com/example/claim/claim/model/VerificationResult", "payload", "()Ljava/util/Optional;"⟩ : MethodName)) hown112 (mvT hZ112 (hw _ (List.mem_of_getElem? (i := 60) rfl))) (mvT hZ112 (hw _ (List.mem_of_getElem? (i := 61) rfl))) (notFace_of_selects (args := #[]) (mvT hZ112 (hw _ (List.mem_of_getElem? (i := 63) rfl)))) (mvT hZ112 (hw _ (List.mem_of_getElem? (i := 63) rfl))) (mvT hZ112 (hw _ (List.mem_of_getElem? (i := 62) rfl))) (by decide) (backOf (W := 0) (rmPl l Z a0 hw [] b_112 q_112 k101 ((3 : Int32)) ([(.int b0), (.int b1), (.int b2)]) h139 O139 Pp_112_h140 Eq__112_h140 Aq_112_h140 (by decide)) hZ112 (hw _ (List.mem_of_getElem? (i := 64) rfl)) (hw _ (List.mem_of_getElem? (i := 4) rfl)) (by decide) (by decide)) q141a q141c (g := (mkF m 272 #[.val (.int len), .val (.int bits), .val (.int (3 : Int32)), .val (.int b0), .val (.int b1), .val (.int b2), .val (.int b3), .val (.ref b101), .val (.ref b_112), .val (.ref b_126), .val (.ref u_126), .unset] [(.ref b_112)])) rfl (by rw [hml]; rfl) (Steps.refl _) (argsL := []) (rest := []) (lenOf pd___Ljava_util_Optional_ rfl) rfl (by show 2 * 0 + _ ≤ _; exact Nat.le_of_eq rfl) (hb hby at_272) (fun _ _ => ⟨rfl, e139, (by decide : 8 + 3 ≤ _), (by decide : 57 + 6 ≤ _)⟩)
  dsimp only [Pt.U, Pt.locs, Pt.cells, Pt.slots] at X141 l141 y141 z141 st141 hQ141
  subst y141 z141
  obtain ⟨b_141, u_141, rfl, N141q, O141, Kc141, Eb_141, Pv_141, Eu_141, Au_141, Gb_141, Gu_141, Sb_141, Su_141, Nbu_141⟩ := hQ141
  have N141 : Fr Z.heap.size L141 := by rw [l141]; exact Fr.app N139 N141q
  refine Go.tr st141 ?_
  have hk141 := Nat.le_trans hk139 Kc141.1
  have Q101_h142 := Q101_h140.keep Kc141
  have Eb_112_h142 := Eb_112_h140.keep Kc141
  have Pp_112_h142 := Pp_112_h140.keep Kc141 nin0
  have Pq_112_h142 := Pq_112_h140.keep Kc141 nin0
  have Eq__112_h142 := Eq__112_h140.keep Kc141
  have Aq_112_h142 := Aq_112_h140.keep Kc141 nin0
  have V_b101_121_h142 := V_b101_121_h140.keep Kc141 nin0
  have Eb_126_h142 := Eb_126_h140.keep Kc141
  have Pv_126_h142 := Pv_126_h140.keep Kc141 nin0
  have Eu_126_h142 := Eu_126_h140.keep Kc141
  have V_u_126_139_h142 := V_u_126_139.keep Kc141 nin0
  have ne_w_EMPTY_b_141 : w_EMPTY ≠ b_141 := Nat.ne_of_lt (Nat.lt_of_lt_of_le (E_EMPTY.ext O139).lt Sb_141)
  have ne_b101_b_141 : b101 ≠ b_141 := Nat.ne_of_lt (Nat.lt_of_lt_of_le Q101_h140.lt Sb_141)
  have ne_b_112_b_141 : b_112 ≠ b_141 := Nat.ne_of_lt (Nat.lt_of_lt_of_le Eb_112_h140.lt Sb_141)
  have ne_q_112_b_141 : q_112 ≠ b_141 := Nat.ne_of_lt (Nat.lt_of_lt_of_le Eq__112_h140.lt Sb_141)
  have ne_b_126_b_141 : b_126 ≠ b_141 := Nat.ne_of_lt (Nat.lt_of_lt_of_le Eb_126_h140.lt Sb_141)
  have ne_u_126_b_141 : u_126 ≠ b_141 := Nat.ne_of_lt (Nat.lt_of_lt_of_le Eu_126_h140.lt Sb_141)
  have ne_w_EMPTY_u_141 : w_EMPTY ≠ u_141 := Nat.ne_of_lt (Nat.lt_of_lt_of_le (E_EMPTY.ext O139).lt Su_141)
  have ne_b101_u_141 : b101 ≠ u_141 := Nat.ne_of_lt (Nat.lt_of_lt_of_le Q101_h140.lt Su_141)
  have ne_b_112_u_141 : b_112 ≠ u_141 := Nat.ne_of_lt (Nat.lt_of_lt_of_le Eb_112_h140.lt Su_141)
  have ne_q_112_u_141 : q_112 ≠ u_141 := Nat.ne_of_lt (Nat.lt_of_lt_of_le Eq__112_h140.lt Su_141)
  have ne_b_126_u_141 : b_126 ≠ u_141 := Nat.ne_of_lt (Nat.lt_of_lt_of_le Eb_126_h140.lt Su_141)
  have ne_u_126_u_141 : u_126 ≠ u_141 := Nat.ne_of_lt (Nat.lt_of_lt_of_le Eu_126_h140.lt Su_141)
  show Go p e below _ (T141.setTop (mkF m 275 #[.val (.int len), .val (.int bits), .val (.int (3 : Int32)), .val (.int b0), .val (.int b1), .val (.int b2), .val (.int b3), .val (.ref b101), .val (.ref b_112), .val (.ref b_126), .val (.ref u_126), .unset] [(.ref b_141)]))
  refine Go.st (fun t' k' => XS.astore X141.here hx rfl (hb hby at_275) rfl rfl (l' := #[.val (.int len), .val (.int bits), .val (.int (3 : Int32)), .val (.int b0), .val (.int b1), .val (.int b2), .val (.int b3), .val (.ref b101), .val (.ref b_112), .val (.ref b_126), .val (.ref u_126), .val (.ref b_141)]) rfl k') ?_
  show Go p e below _ (T141.setTop (mkF m 277 #[.val (.int len), .val (.int bits), .val (.int (3 : Int32)), .val (.int b0), .val (.int b1), .val (.int b2), .val (.int b3), .val (.ref b101), .val (.ref b_112), .val (.ref b_126), .val (.ref u_126), .val (.ref b_141)] []))
  refine Go.st (fun t' k' => XS.aload X141.here hx rfl (hb hby at_277) rfl rfl k') ?_
  show Go p e below _ (T141.setTop (mkF m 279 #[.val (.int len), .val (.int bits), .val (.int (3 : Int32)), .val (.int b0), .val (.int b1), .val (.int b2), .val (.int b3), .val (.ref b101), .val (.ref b_112), .val (.ref b_126), .val (.ref u_126), .val (.ref b_141)] [(.ref b_141)]))
  obtain ⟨cq143, kq143, q143a, q143b, q143c⟩ := isOf hZ112 rfl Eb_141
  obtain ⟨_, _, ⟨T143, L143, k143, n143⟩, -, X143, ⟨Lc143, hQ143, l143, y143, z143⟩, st143⟩ := X141.virtualBack hx (y := (⟨"java/util/Optional", "isPresent", "()Z"⟩ : MethodName)) (z := (⟨"java/util/Optional", "isPresent", "()Z"⟩ : MethodName)) hown112 (mvT hZ112 (hw _ (List.mem_of_getElem? (i := 53) rfl))) (mvT hZ112 (hw _ (List.mem_of_getElem? (i := 54) rfl))) (notFace_of_selects (args := #[]) (mvT hZ112 (hw _ (List.mem_of_getElem? (i := 56) rfl)))) (mvT hZ112 (hw _ (List.mem_of_getElem? (i := 56) rfl))) (mvT hZ112 (hw _ (List.mem_of_getElem? (i := 55) rfl))) (by decide) (backOf (W := 0) (rmIs1 l Z a0 hw [] b_141 u_141 T141.heap O141 Pv_141) hZ112 (hw _ (List.mem_of_getElem? (i := 57) rfl)) (hw _ (List.mem_of_getElem? (i := 50) rfl)) (by decide) (by decide)) q143a q143c (g := (mkF m 279 #[.val (.int len), .val (.int bits), .val (.int (3 : Int32)), .val (.int b0), .val (.int b1), .val (.int b2), .val (.int b3), .val (.ref b101), .val (.ref b_112), .val (.ref b_126), .val (.ref u_126), .val (.ref b_141)] [(.ref b_141)])) rfl (by rw [hml]; rfl) (Steps.refl _) (argsL := []) (rest := []) (lenOf pd___Z rfl) rfl (by show 2 * 0 + _ ≤ _; exact Nat.le_of_eq rfl) (hb hby at_279) (fun _ _ => ⟨rfl, rfl, (by decide : 11 + 0 ≤ _), (by decide : 63 + 0 ≤ _)⟩)
  dsimp only [Pt.U, Pt.locs, Pt.cells, Pt.slots] at X143 l143 y143 z143 st143 hQ143
  subst y143 z143
  obtain ⟨rfl, rfl, e143⟩ := hQ143
  have N143 : Fr Z.heap.size L143 := by rw [l143]; exact Fr.app N141 (Fr.nil _)
  refine Go.tr st143 ?_
  show Go p e below _ (T143.setTop (mkF m 282 #[.val (.int len), .val (.int bits), .val (.int (3 : Int32)), .val (.int b0), .val (.int b1), .val (.int b2), .val (.int b3), .val (.ref b101), .val (.ref b_112), .val (.ref b_126), .val (.ref u_126), .val (.ref b_141)] [(.int (1 : Int32))]))
  refine Go.st (fun t' k' => XS.ifYes X143.here hx rfl (pc0 := 282) (pc' := 287) rfl (hb hby at_282) rfl ((if0 _ _).trans (feq (by decide : ¬ ((1 : Int32) = (0 : Int32)))).2) (by decide) (by decide) k') ?_
  show Go p e below _ (T143.setTop (mkF m 287 #[.val (.int len), .val (.int bits), .val (.int (3 : Int32)), .val (.int b0), .val (.int b1), .val (.int b2), .val (.int b3), .val (.ref b101), .val (.ref b_112), .val (.ref b_126), .val (.ref u_126), .val (.ref b_141)] []))
  refine Go.st (fun t' k' => XS.aload X143.here hx rfl (hb hby at_287) rfl rfl k') ?_
  show Go p e below _ (T143.setTop (mkF m 289 #[.val (.int len), .val (.int bits), .val (.int (3 : Int32)), .val (.int b0), .val (.int b1), .val (.int b2), .val (.int b3), .val (.ref b101), .val (.ref b_112), .val (.ref b_126), .val (.ref u_126), .val (.ref b_141)] [(.ref b_141)]))
  obtain ⟨cq144, kq144, q144a, q144b, q144c⟩ := isOf hZ112 e143 Eb_141
  obtain ⟨_, _, ⟨T144, L144, k144, n144⟩, -, X144, ⟨Lc144, hQ144, l144, y144, z144⟩, st144⟩ := X143.virtualBack hx (y := (⟨"java/util/Optional", "get", "()Ljava/lang/Object;"⟩ : MethodName)) (z := (⟨"java/util/Optional", "get", "()Ljava/lang/Object;"⟩ : MethodName)) hown112 (mvT hZ112 (hw _ (List.mem_of_getElem? (i := 94) rfl))) (mvT hZ112 (hw _ (List.mem_of_getElem? (i := 95) rfl))) (notFace_of_selects (args := #[]) (mvT hZ112 (hw _ (List.mem_of_getElem? (i := 97) rfl)))) (mvT hZ112 (hw _ (List.mem_of_getElem? (i := 97) rfl))) (mvT hZ112 (hw _ (List.mem_of_getElem? (i := 96) rfl))) (by decide) (backOf (W := 0) (rmGet l Z a0 hw [] b_141 u_141 T141.heap O141 Pv_141) hZ112 (hw _ (List.mem_of_getElem? (i := 98) rfl)) (hw _ (List.mem_of_getElem? (i := 50) rfl)) (by decide) (by decide)) q144a q144c (g := (mkF m 289 #[.val (.int len), .val (.int bits), .val (.int (3 : Int32)), .val (.int b0), .val (.int b1), .val (.int b2), .val (.int b3), .val (.ref b101), .val (.ref b_112), .val (.ref b_126), .val (.ref u_126), .val (.ref b_141)] [(.ref b_141)])) rfl (by rw [hml]; rfl) (Steps.refl _) (argsL := []) (rest := []) (lenOf pd___Ljava_lang_Object_ rfl) rfl (by show 2 * 0 + _ ≤ _; exact Nat.le_of_eq rfl) (hb hby at_289) (fun _ _ => ⟨rfl, e143, (by decide : 11 + 0 ≤ _), (by decide : 63 + 0 ≤ _)⟩)
  dsimp only [Pt.U, Pt.locs, Pt.cells, Pt.slots] at X144 l144 y144 z144 st144 hQ144
  subst y144 z144
  obtain ⟨rfl, rfl, e144⟩ := hQ144
  have N144 : Fr Z.heap.size L144 := by rw [l144]; exact Fr.app N143 (Fr.nil _)
  refine Go.tr st144 ?_
  show Go p e below _ (T144.setTop (mkF m 292 #[.val (.int len), .val (.int bits), .val (.int (3 : Int32)), .val (.int b0), .val (.int b1), .val (.int b2), .val (.int b3), .val (.ref b101), .val (.ref b_112), .val (.ref b_126), .val (.ref u_126), .val (.ref b_141)] [(.ref u_141)]))
  obtain ⟨T145, X145, e145, st145⟩ := castY X144 hx hZ112 hown112 (hw _ (List.mem_of_getElem? (i := 99) rfl)) e144 (Ins.self Eu_141) (g := (mkF m 292 #[.val (.int len), .val (.int bits), .val (.int (3 : Int32)), .val (.int b0), .val (.int b1), .val (.int b2), .val (.int b3), .val (.ref b101), .val (.ref b_112), .val (.ref b_126), .val (.ref u_126), .val (.ref b_141)] [(.ref u_141)])) rfl rfl (hb hby at_292)
  refine Go.st st145 ?_
  show Go p e below _ (T145.setTop (mkF m 295 #[.val (.int len), .val (.int bits), .val (.int (3 : Int32)), .val (.int b0), .val (.int b1), .val (.int b2), .val (.int b3), .val (.ref b101), .val (.ref b_112), .val (.ref b_126), .val (.ref u_126), .val (.ref b_141)] [(.ref u_141)]))
  refine Go.st (fun t' k' => XS.iloadN X145.here hx rfl (hb hby at_295) rfl k') ?_
  show Go p e below _ (T145.setTop (mkF m 296 #[.val (.int len), .val (.int bits), .val (.int (3 : Int32)), .val (.int b0), .val (.int b1), .val (.int b2), .val (.int b3), .val (.ref b101), .val (.ref b_112), .val (.ref b_126), .val (.ref u_126), .val (.ref b_141)] [(.int (3 : Int32)), (.ref u_141)]))
  refine Go.st (fun t' k' => XS.iloadN X145.here hx rfl (hb hby at_296) rfl k') ?_
  show Go p e below _ (T145.setTop (mkF m 297 #[.val (.int len), .val (.int bits), .val (.int (3 : Int32)), .val (.int b0), .val (.int b1), .val (.int b2), .val (.int b3), .val (.ref b101), .val (.ref b_112), .val (.ref b_126), .val (.ref u_126), .val (.ref b_141)] [(.int b0), (.int (3 : Int32)), (.ref u_141)]))
  refine Go.st (fun t' k' => XS.iload X145.here hx rfl (hb hby at_297) rfl k') ?_
  show Go p e below _ (T145.setTop (mkF m 299 #[.val (.int len), .val (.int bits), .val (.int (3 : Int32)), .val (.int b0), .val (.int b1), .val (.int b2), .val (.int b3), .val (.ref b101), .val (.ref b_112), .val (.ref b_126), .val (.ref u_126), .val (.ref b_141)] [(.int b1), (.int b0), (.int (3 : Int32)), (.ref u_141)]))
  refine Go.st (fun t' k' => XS.iload X145.here hx rfl (hb hby at_299) rfl k') ?_
  show Go p e below _ (T145.setTop (mkF m 301 #[.val (.int len), .val (.int bits), .val (.int (3 : Int32)), .val (.int b0), .val (.int b1), .val (.int b2), .val (.int b3), .val (.ref b101), .val (.ref b_112), .val (.ref b_126), .val (.ref u_126), .val (.ref b_141)] [(.int b2), (.int b1), (.int b0), (.int (3 : Int32)), (.ref u_141)]))
  refine Go.st (fun t' k' => XS.iload X145.here hx rfl (hb hby at_301) rfl k') ?_
  show Go p e below _ (T145.setTop (mkF m 303 #[.val (.int len), .val (.int bits), .val (.int (3 : Int32)), .val (.int b0), .val (.int b1), .val (.int b2), .val (.int b3), .val (.ref b101), .val (.ref b_112), .val (.ref b_126), .val (.ref u_126), .val (.ref b_141)] [(.int b3), (.int b2), (.int b1), (.int b0), (.int (3 : Int32)), (.ref u_141)]))
  obtain ⟨_, _, ⟨T146, L146, k146, n146⟩, -, X146, ⟨Lc146, hQ146, l146, y146, z146⟩, st146⟩ := Jvm.LawKit.callS X145 hx (y := (⟨"com/example/claim/claim/model/VerificationResultAcceptedPinLaw", "same", "([BIBBBB)Z"⟩ : MethodName)) hown112 (mvT hZ112 (hw _ (List.mem_of_getElem? (i := 100) rfl))) (mvT hZ112 (hw _ (List.mem_of_getElem? (i := 101) rfl))) (mvT hZ112 (hw _ (List.mem_of_getElem? (i := 102) rfl))) (mvT hZ112 (hw _ (List.mem_of_getElem? (i := 103) rfl))) (by decide) (backOf (W := 0) (rmSm3 l Z a0 hw [] u_141 b0 b1 b2 b3 k101 T141.heap O141 Au_141) hZ112 (hw _ (List.mem_of_getElem? (i := 103) rfl)) (hw _ (List.mem_of_getElem? (i := 102) rfl)) (by decide) (by decide)) (g := (mkF m 303 #[.val (.int len), .val (.int bits), .val (.int (3 : Int32)), .val (.int b0), .val (.int b1), .val (.int b2), .val (.int b3), .val (.ref b101), .val (.ref b_112), .val (.ref b_126), .val (.ref u_126), .val (.ref b_141)] [(.int b3), (.int b2), (.int b1), (.int b0), (.int (3 : Int32)), (.ref u_141)])) rfl (by rw [hml]; rfl) (argsL := [(.ref u_141), (.int (3 : Int32)), (.int b0), (.int b1), (.int b2), (.int b3)]) (rest := []) (lenOf pd___BIBBBB_Z rfl) rfl (by show 2 * 0 + _ ≤ _; exact Nat.le_of_eq rfl) (hb hby at_303) (fun _ _ => ⟨rfl, e145, (by decide : 11 + 0 ≤ _), (by decide : 63 + 0 ≤ _)⟩)
  dsimp only [Pt.U, Pt.locs, Pt.cells, Pt.slots] at X146 l146 y146 z146 st146 hQ146
  subst y146 z146
  obtain ⟨rfl, rfl, e146⟩ := hQ146
  have N146 : Fr Z.heap.size L146 := by rw [l146]; exact Fr.app N144 (Fr.nil _)
  refine Go.st st146 ?_
  show Go p e below _ (T146.setTop (mkF m 306 #[.val (.int len), .val (.int bits), .val (.int (3 : Int32)), .val (.int b0), .val (.int b1), .val (.int b2), .val (.int b3), .val (.ref b101), .val (.ref b_112), .val (.ref b_126), .val (.ref u_126), .val (.ref b_141)] [(.int (1 : Int32))]))
  exact Go.outW X146 hS112 (by rw [e146]; exact hk141) (v := (some (.int (1 : Int32)))) (fun h => by rw [hret] at h; cases h) hlk (fun fs hr => retN X146 hx (t := .boolean) hret (by simp) (hb hby at_306) hr) (Q := Q_rm0 Z len bits w_EMPTY h0) (by rw [e146]; exact ⟨rfl, N146⟩) (by decide) (by decide)
set_option maxRecDepth 65536 in
set_option maxHeartbeats 40000000 in
theorem blk4 {p : Program} {l : Launch} {e : Env} {s : State} {m : MethodId} {below : List Frame} {meth : Method} {c : Code} {T0 : State} {locs : List Loc} {vm0 : Vm} {k0 : Nat} (Z : State) (a0 : Array Value) (hw : ∀ d ∈ tables_1, d.before a0 Z = true) (len : Int32) (bits : Int32) (w_EMPTY : Addr) (h0 : Heap) (S_EMPTY : Sta Z Z.heap "java/util/Optional" "EMPTY" "Ljava/util/Optional;" (.ref w_EMPTY)) (E_EMPTY : Exa Z Z.heap w_EMPTY "java/util/Optional") (F_EMPTY_value : Fld Z Z.heap w_EMPTY "java/util/Optional" "value" "Ljava/lang/Object;" .null) (b0 : Int32) (b1 : Int32) (b2 : Int32) (b3 : Int32) (h : Heap) (X0 : Stand p l e room_1 (s.setVm vm0) m #[(.int len), (.int bits)] below meth c T0 locs 0 0)
    (hx : p.tables.exec = Jvm.exec) (hZ : Z.Warmed39 (s.setVm vm0).vm) (hby : c.code = code) (hml : c.maxLocals = 12) (hown : (s.setVm vm0).vm.findClass "com/example/claim/claim/model/VerificationResultAcceptedPinLaw" = some m.cls) (hret : meth.sig.returnType = ret) (hlk : meth.locks = false) (e0 : T0.heap = h) (N0 : Fr Z.heap.size locs) (O0 : Ext Z.heap h) (hS0 : s.Since vm0 k0) (hk0 : k0 ≤ h.size) (hb0 : b0.toInt8.toInt32 = b0) (hb1 : b1.toInt8.toInt32 = b1) (hb2 : b2.toInt8.toInt32 = b2) (hb3 : b3.toInt8.toInt32 = b3) :
    Go p e below (GOW s (Q_rm0 Z len bits w_EMPTY h0) room_1.cells room_1.slots) (T0.setTop (mkF m 31 #[.val (.int len), .val (.int bits), .val (.int (4 : Int32)), .val (.int b0), .val (.int b1), .val (.int b2), .val (.int b3), .unset, .unset, .unset, .unset, .unset] [])) := by
  show Go p e below _ (T0.setTop (mkF m 31 #[.val (.int len), .val (.int bits), .val (.int (4 : Int32)), .val (.int b0), .val (.int b1), .val (.int b2), .val (.int b3), .unset, .unset, .unset, .unset, .unset] []))
  refine Go.st (fun t' k' => XS.iloadN X0.here hx rfl (hb hby at_31) rfl k') ?_
  show Go p e below _ (T0.setTop (mkF m 32 #[.val (.int len), .val (.int bits), .val (.int (4 : Int32)), .val (.int b0), .val (.int b1), .val (.int b2), .val (.int b3), .unset, .unset, .unset, .unset, .unset] [(.int (4 : Int32))]))
  obtain ⟨T101, h101, k101, X101, e101, E101, A101, Q101, st101⟩ := newPE X0 hx hZ (hw _ (List.mem_of_getElem? (i := 1) rfl)) e0 (g := (mkF m 32 #[.val (.int len), .val (.int bits), .val (.int (4 : Int32)), .val (.int b0), .val (.int b1), .val (.int b2), .val (.int b3), .unset, .unset, .unset, .unset, .unset] [(.int (4 : Int32))])) rfl (hb hby at_32) rfl (by decide) (cap := 4) (by decide) (by decide) (by decide) (by decide) (ad := "[B") (by decide +kernel)
  obtain ⟨b101, g101⟩ : ∃ z, z = h.size := ⟨_, rfl⟩
  rw [← g101] at A101 st101 Q101
  refine Go.st st101 ?_
  have ne_w_EMPTY_b101 : w_EMPTY ≠ b101 := Nat.ne_of_lt (Nat.lt_of_lt_of_le (E_EMPTY.ext O0).lt (Nat.le_of_eq g101.symm))
  have g_b101 : Z.heap.size ≤ b101 := Nat.le_trans O0.1 (Nat.le_of_eq g101.symm)
  have hk101 := Nat.le_trans hk0 E101.1
  have O101 := own_ext_trans O0 E101
  have V_b101 : Arv Z h101 b101 k101 .byte (4 : Int32) [(.int (0 : Int32)), (.int (0 : Int32)), (.int (0 : Int32)), (.int (0 : Int32))] (.int (0 : Int32)) := (Arv.new A101 (by decide)).pad (pad_rep [] (.int (0 : Int32)) 4)
  show Go p e below _ (T101.setTop (mkF m 34 #[.val (.int len), .val (.int bits), .val (.int (4 : Int32)), .val (.int b0), .val (.int b1), .val (.int b2), .val (.int b3), .unset, .unset, .unset, .unset, .unset] [(.ref b101)]))
  refine Go.st (fun t' k' => XS.astore X101.here hx rfl (hb hby at_34) rfl rfl (l' := #[.val (.int len), .val (.int bits), .val (.int (4 : Int32)), .val (.int b0), .val (.int b1), .val (.int b2), .val (.int b3), .val (.ref b101), .unset, .unset, .unset, .unset]) rfl k') ?_
  show Go p e below _ (T101.setTop (mkF m 36 #[.val (.int len), .val (.int bits), .val (.int (4 : Int32)), .val (.int b0), .val (.int b1), .val (.int b2), .val (.int b3), .val (.ref b101), .unset, .unset, .unset, .unset] []))
  refine Go.st (fun t' k' => XS.iloadN X101.here hx rfl (hb hby at_36) rfl k') ?_
  show Go p e below _ (T101.setTop (mkF m 37 #[.val (.int len), .val (.int bits), .val (.int (4 : Int32)), .val (.int b0), .val (.int b1), .val (.int b2), .val (.int b3), .val (.ref b101), .unset, .unset, .unset, .unset] [(.int (4 : Int32))]))
  refine Go.st (fun t' k' => XS.ifNo X101.here hx rfl (hb hby at_37) rfl ((if0 _ _).trans (tlt (by decide : (0 : Int32) < (4 : Int32))).2.2.2) k') ?_
  show Go p e below _ (T101.setTop (mkF m 40 #[.val (.int len), .val (.int bits), .val (.int (4 : Int32)), .val (.int b0), .val (.int b1), .val (.int b2), .val (.int b3), .val (.ref b101), .unset, .unset, .unset, .unset] []))
  refine Go.st (fun t' k' => XS.aload X101.here hx rfl (hb hby at_40) rfl rfl k') ?_
  show Go p e below _ (T101.setTop (mkF m 42 #[.val (.int len), .val (.int bits), .val (.int (4 : Int32)), .val (.int b0), .val (.int b1), .val (.int b2), .val (.int b3), .val (.ref b101), .unset, .unset, .unset, .unset] [(.ref b101)]))
  refine Go.st (fun t' k' => XS.iconst X101.here hx rfl (hb hby at_42) k') ?_
  show Go p e below _ (T101.setTop (mkF m 43 #[.val (.int len), .val (.int bits), .val (.int (4 : Int32)), .val (.int b0), .val (.int b1), .val (.int b2), .val (.int b3), .val (.ref b101), .unset, .unset, .unset, .unset] [(.int (0 : Int32)), (.ref b101)]))
  refine Go.st (fun t' k' => XS.iloadN X101.here hx rfl (hb hby at_43) rfl k') ?_
  show Go p e below _ (T101.setTop (mkF m 44 #[.val (.int len), .val (.int bits), .val (.int (4 : Int32)), .val (.int b0), .val (.int b1), .val (.int b2), .val (.int b3), .val (.ref b101), .unset, .unset, .unset, .unset] [(.int b0), (.int (0 : Int32)), (.ref b101)]))
  obtain ⟨cls103, Ars103, qs103, Szs103, Nzs103, Hss103, Gss103⟩ := (id V_b101)
  have hins103 : ¬ ((0 : Int32) < 0 ∨ cls103.slots.size ≤ ((0 : Int32)).toNatClampNeg) := inb_of Szs103 ⟨by decide, by decide⟩
  obtain ⟨T104, h104, X104, e104, W104, st104⟩ := stB X101 hx hZ e101 Ars103 (j := (0 : Int32)) hins103 (g := (mkF m 44 #[.val (.int len), .val (.int bits), .val (.int (4 : Int32)), .val (.int b0), .val (.int b1), .val (.int b2), .val (.int b3), .val (.ref b101), .unset, .unset, .unset, .unset] [(.int b0), (.int (0 : Int32)), (.ref b101)])) rfl rfl (hb hby at_44)
  refine Go.st st104 ?_
  have V_b101_104 : Arv Z h104 b101 k101 .byte (4 : Int32) [(.int b0), (.int (0 : Int32)), (.int (0 : Int32)), (.int (0 : Int32))] (.int (0 : Int32)) := own_set (vs := [(.int (0 : Int32)), (.int (0 : Int32)), (.int (0 : Int32)), (.int (0 : Int32))]) (v' := (.int b0)) Ars103 qs103 Szs103 Nzs103 Hss103 Gss103 (fits_nar_byte _) W104 0 rfl (Nat.le_of_ble_eq_true rfl) (congrArg Value.int (hb0)) rfl
  have Q101_h105 := Q101.wr W104
  have hk104 := Nat.le_trans hk101 (Keep.of_wr W104).1
  have O104 := own_ext_wr O101 W104 g_b101
  have N104 := Fr.snoc X104 N0 g_b101
  show Go p e below _ (T104.setTop (mkF m 45 #[.val (.int len), .val (.int bits), .val (.int (4 : Int32)), .val (.int b0), .val (.int b1), .val (.int b2), .val (.int b3), .val (.ref b101), .unset, .unset, .unset, .unset] []))
  refine Go.st (fun t' k' => XS.iloadN X104.here hx rfl (hb hby at_45) rfl k') ?_
  show Go p e below _ (T104.setTop (mkF m 46 #[.val (.int len), .val (.int bits), .val (.int (4 : Int32)), .val (.int b0), .val (.int b1), .val (.int b2), .val (.int b3), .val (.ref b101), .unset, .unset, .unset, .unset] [(.int (4 : Int32))]))
  refine Go.st (fun t' k' => XS.iconst X104.here hx rfl (hb hby at_46) k') ?_
  show Go p e below _ (T104.setTop (mkF m 47 #[.val (.int len), .val (.int bits), .val (.int (4 : Int32)), .val (.int b0), .val (.int b1), .val (.int b2), .val (.int b3), .val (.ref b101), .unset, .unset, .unset, .unset] [(.int (1 : Int32)), (.int (4 : Int32))]))
  refine Go.st (fun t' k' => XS.icmpNo X104.here hx rfl (hb hby at_47) rfl (tlt (by decide : (1 : Int32) < (4 : Int32))).2.2.2 k') ?_
  show Go p e below _ (T104.setTop (mkF m 50 #[.val (.int len), .val (.int bits), .val (.int (4 : Int32)), .val (.int b0), .val (.int b1), .val (.int b2), .val (.int b3), .val (.ref b101), .unset, .unset, .unset, .unset] []))
  refine Go.st (fun t' k' => XS.aload X104.here hx rfl (hb hby at_50) rfl rfl k') ?_
  show Go p e below _ (T104.setTop (mkF m 52 #[.val (.int len), .val (.int bits), .val (.int (4 : Int32)), .val (.int b0), .val (.int b1), .val (.int b2), .val (.int b3), .val (.ref b101), .unset, .unset, .unset, .unset] [(.ref b101)]))
  refine Go.st (fun t' k' => XS.iconst X104.here hx rfl (hb hby at_52) k') ?_
  show Go p e below _ (T104.setTop (mkF m 53 #[.val (.int len), .val (.int bits), .val (.int (4 : Int32)), .val (.int b0), .val (.int b1), .val (.int b2), .val (.int b3), .val (.ref b101), .unset, .unset, .unset, .unset] [(.int (1 : Int32)), (.ref b101)]))
  refine Go.st (fun t' k' => XS.iload X104.here hx rfl (hb hby at_53) rfl k') ?_
  show Go p e below _ (T104.setTop (mkF m 55 #[.val (.int len), .val (.int bits), .val (.int (4 : Int32)), .val (.int b0), .val (.int b1), .val (.int b2), .val (.int b3), .val (.ref b101), .unset, .unset, .unset, .unset] [(.int b1), (.int (1 : Int32)), (.ref b101)]))
  obtain ⟨cls106, Ars106, qs106, Szs106, Nzs106, Hss106, Gss106⟩ := (id V_b101_104)
  have hins106 : ¬ ((1 : Int32) < 0 ∨ cls106.slots.size ≤ ((1 : Int32)).toNatClampNeg) := inb_of Szs106 ⟨by decide, by decide⟩
  obtain ⟨T107, h107, X107, e107, W107, st107⟩ := stB X104 hx hZ e104 Ars106 (j := (1 : Int32)) hins106 (g := (mkF m 55 #[.val (.int len), .val (.int bits), .val (.int (4 : Int32)), .val (.int b0), .val (.int b1), .val (.int b2), .val (.int b3), .val (.ref b101), .unset, .unset, .unset, .unset] [(.int b1), (.int (1 : Int32)), (.ref b101)])) rfl rfl (hb hby at_55)
  refine Go.st st107 ?_
  have V_b101_107 : Arv Z h107 b101 k101 .byte (4 : Int32) [(.int b0), (.int b1), (.int (0 : Int32)), (.int (0 : Int32))] (.int (0 : Int32)) := own_set (vs := [(.int b0), (.int (0 : Int32)), (.int (0 : Int32)), (.int (0 : Int32))]) (v' := (.int b1)) Ars106 qs106 Szs106 Nzs106 Hss106 Gss106 (fits_nar_byte _) W107 1 rfl (Nat.le_of_ble_eq_true rfl) (congrArg Value.int (hb1)) rfl
  have Q101_h108 := Q101_h105.wr W107
  have hk107 := Nat.le_trans hk104 (Keep.of_wr W107).1
  have O107 := own_ext_wr O104 W107 g_b101
  have N107 := Fr.snoc X107 N104 g_b101
  show Go p e below _ (T107.setTop (mkF m 56 #[.val (.int len), .val (.int bits), .val (.int (4 : Int32)), .val (.int b0), .val (.int b1), .val (.int b2), .val (.int b3), .val (.ref b101), .unset, .unset, .unset, .unset] []))
  refine Go.st (fun t' k' => XS.iloadN X107.here hx rfl (hb hby at_56) rfl k') ?_
  show Go p e below _ (T107.setTop (mkF m 57 #[.val (.int len), .val (.int bits), .val (.int (4 : Int32)), .val (.int b0), .val (.int b1), .val (.int b2), .val (.int b3), .val (.ref b101), .unset, .unset, .unset, .unset] [(.int (4 : Int32))]))
  refine Go.st (fun t' k' => XS.iconst X107.here hx rfl (hb hby at_57) k') ?_
  show Go p e below _ (T107.setTop (mkF m 58 #[.val (.int len), .val (.int bits), .val (.int (4 : Int32)), .val (.int b0), .val (.int b1), .val (.int b2), .val (.int b3), .val (.ref b101), .unset, .unset, .unset, .unset] [(.int (2 : Int32)), (.int (4 : Int32))]))
  refine Go.st (fun t' k' => XS.icmpNo X107.here hx rfl (hb hby at_58) rfl (tlt (by decide : (2 : Int32) < (4 : Int32))).2.2.2 k') ?_
  show Go p e below _ (T107.setTop (mkF m 61 #[.val (.int len), .val (.int bits), .val (.int (4 : Int32)), .val (.int b0), .val (.int b1), .val (.int b2), .val (.int b3), .val (.ref b101), .unset, .unset, .unset, .unset] []))
  refine Go.st (fun t' k' => XS.aload X107.here hx rfl (hb hby at_61) rfl rfl k') ?_
  show Go p e below _ (T107.setTop (mkF m 63 #[.val (.int len), .val (.int bits), .val (.int (4 : Int32)), .val (.int b0), .val (.int b1), .val (.int b2), .val (.int b3), .val (.ref b101), .unset, .unset, .unset, .unset] [(.ref b101)]))
  refine Go.st (fun t' k' => XS.iconst X107.here hx rfl (hb hby at_63) k') ?_
  show Go p e below _ (T107.setTop (mkF m 64 #[.val (.int len), .val (.int bits), .val (.int (4 : Int32)), .val (.int b0), .val (.int b1), .val (.int b2), .val (.int b3), .val (.ref b101), .unset, .unset, .unset, .unset] [(.int (2 : Int32)), (.ref b101)]))
  refine Go.st (fun t' k' => XS.iload X107.here hx rfl (hb hby at_64) rfl k') ?_
  show Go p e below _ (T107.setTop (mkF m 66 #[.val (.int len), .val (.int bits), .val (.int (4 : Int32)), .val (.int b0), .val (.int b1), .val (.int b2), .val (.int b3), .val (.ref b101), .unset, .unset, .unset, .unset] [(.int b2), (.int (2 : Int32)), (.ref b101)]))
  obtain ⟨cls109, Ars109, qs109, Szs109, Nzs109, Hss109, Gss109⟩ := (id V_b101_107)
  have hins109 : ¬ ((2 : Int32) < 0 ∨ cls109.slots.size ≤ ((2 : Int32)).toNatClampNeg) := inb_of Szs109 ⟨by decide, by decide⟩
  obtain ⟨T110, h110, X110, e110, W110, st110⟩ := stB X107 hx hZ e107 Ars109 (j := (2 : Int32)) hins109 (g := (mkF m 66 #[.val (.int len), .val (.int bits), .val (.int (4 : Int32)), .val (.int b0), .val (.int b1), .val (.int b2), .val (.int b3), .val (.ref b101), .unset, .unset, .unset, .unset] [(.int b2), (.int (2 : Int32)), (.ref b101)])) rfl rfl (hb hby at_66)
  refine Go.st st110 ?_
  have V_b101_110 : Arv Z h110 b101 k101 .byte (4 : Int32) [(.int b0), (.int b1), (.int b2), (.int (0 : Int32))] (.int (0 : Int32)) := own_set (vs := [(.int b0), (.int b1), (.int (0 : Int32)), (.int (0 : Int32))]) (v' := (.int b2)) Ars109 qs109 Szs109 Nzs109 Hss109 Gss109 (fits_nar_byte _) W110 2 rfl (Nat.le_of_ble_eq_true rfl) (congrArg Value.int (hb2)) rfl
  have Q101_h111 := Q101_h108.wr W110
  have hk110 := Nat.le_trans hk107 (Keep.of_wr W110).1
  have O110 := own_ext_wr O107 W110 g_b101
  have N110 := Fr.snoc X110 N107 g_b101
  show Go p e below _ (T110.setTop (mkF m 67 #[.val (.int len), .val (.int bits), .val (.int (4 : Int32)), .val (.int b0), .val (.int b1), .val (.int b2), .val (.int b3), .val (.ref b101), .unset, .unset, .unset, .unset] []))
  refine Go.st (fun t' k' => XS.iloadN X110.here hx rfl (hb hby at_67) rfl k') ?_
  show Go p e below _ (T110.setTop (mkF m 68 #[.val (.int len), .val (.int bits), .val (.int (4 : Int32)), .val (.int b0), .val (.int b1), .val (.int b2), .val (.int b3), .val (.ref b101), .unset, .unset, .unset, .unset] [(.int (4 : Int32))]))
  refine Go.st (fun t' k' => XS.iconst X110.here hx rfl (hb hby at_68) k') ?_
  show Go p e below _ (T110.setTop (mkF m 69 #[.val (.int len), .val (.int bits), .val (.int (4 : Int32)), .val (.int b0), .val (.int b1), .val (.int b2), .val (.int b3), .val (.ref b101), .unset, .unset, .unset, .unset] [(.int (3 : Int32)), (.int (4 : Int32))]))
  refine Go.st (fun t' k' => XS.icmpNo X110.here hx rfl (hb hby at_69) rfl (tlt (by decide : (3 : Int32) < (4 : Int32))).2.2.2 k') ?_
  show Go p e below _ (T110.setTop (mkF m 72 #[.val (.int len), .val (.int bits), .val (.int (4 : Int32)), .val (.int b0), .val (.int b1), .val (.int b2), .val (.int b3), .val (.ref b101), .unset, .unset, .unset, .unset] []))
  refine Go.st (fun t' k' => XS.aload X110.here hx rfl (hb hby at_72) rfl rfl k') ?_
  show Go p e below _ (T110.setTop (mkF m 74 #[.val (.int len), .val (.int bits), .val (.int (4 : Int32)), .val (.int b0), .val (.int b1), .val (.int b2), .val (.int b3), .val (.ref b101), .unset, .unset, .unset, .unset] [(.ref b101)]))
  refine Go.st (fun t' k' => XS.iconst X110.here hx rfl (hb hby at_74) k') ?_
  show Go p e below _ (T110.setTop (mkF m 75 #[.val (.int len), .val (.int bits), .val (.int (4 : Int32)), .val (.int b0), .val (.int b1), .val (.int b2), .val (.int b3), .val (.ref b101), .unset, .unset, .unset, .unset] [(.int (3 : Int32)), (.ref b101)]))
  refine Go.st (fun t' k' => XS.iload X110.here hx rfl (hb hby at_75) rfl k') ?_
  show Go p e below _ (T110.setTop (mkF m 77 #[.val (.int len), .val (.int bits), .val (.int (4 : Int32)), .val (.int b0), .val (.int b1), .val (.int b2), .val (.int b3), .val (.ref b101), .unset, .unset, .unset, .unset] [(.int b3), (.int (3 : Int32)), (.ref b101)]))
  obtain ⟨cls112, Ars112, qs112, Szs112, Nzs112, Hss112, Gss112⟩ := (id V_b101_110)
  have hins112 : ¬ ((3 : Int32) < 0 ∨ cls112.slots.size ≤ ((3 : Int32)).toNatClampNeg) := inb_of Szs112 ⟨by decide, by decide⟩
  obtain ⟨T113, h113, X113, e113, W113, st113⟩ := stB X110 hx hZ e110 Ars112 (j := (3 : Int32)) hins112 (g := (mkF m 77 #[.val (.int len), .val (.int bits), .val (.int (4 : Int32)), .val (.int b0), .val (.int b1), .val (.int b2), .val (.int b3), .val (.ref b101), .unset, .unset, .unset, .unset] [(.int b3), (.int (3 : Int32)), (.ref b101)])) rfl rfl (hb hby at_77)
  refine Go.st st113 ?_
  have V_b101_113 : Arv Z h113 b101 k101 .byte (4 : Int32) [(.int b0), (.int b1), (.int b2), (.int b3)] (.int (0 : Int32)) := own_set (vs := [(.int b0), (.int b1), (.int b2), (.int (0 : Int32))]) (v' := (.int b3)) Ars112 qs112 Szs112 Nzs112 Hss112 Gss112 (fits_nar_byte _) W113 3 rfl (Nat.le_of_ble_eq_true rfl) (congrArg Value.int (hb3)) rfl
  have Q101_h114 := Q101_h111.wr W113
  have hk113 := Nat.le_trans hk110 (Keep.of_wr W113).1
  have O113 := own_ext_wr O110 W113 g_b101
  have N113 := Fr.snoc X113 N110 g_b101
  show Go p e below _ (T113.setTop (mkF m 78 #[.val (.int len), .val (.int bits), .val (.int (4 : Int32)), .val (.int b0), .val (.int b1), .val (.int b2), .val (.int b3), .val (.ref b101), .unset, .unset, .unset, .unset] []))
  refine Go.st (fun t' k' => XS.aload X113.here hx rfl (hb hby at_78) rfl rfl k') ?_
  show Go p e below _ (T113.setTop (mkF m 80 #[.val (.int len), .val (.int bits), .val (.int (4 : Int32)), .val (.int b0), .val (.int b1), .val (.int b2), .val (.int b3), .val (.ref b101), .unset, .unset, .unset, .unset] [(.ref b101)]))
  obtain ⟨_, _, ⟨T115, L115, k115, n115⟩, -, X115, hs115, gr115, ⟨Lc115, hQ115, l115, y115, z115⟩, st115⟩ := Jvm.RoadKit.callSS X113 hx (y := (⟨"com/example/claim/claim/model/VerificationResult", "accepted", "([B)Lcom/example/claim/claim/model/VerificationResult;"⟩ : MethodName)) hown (mvT hZ (hw _ (List.mem_of_getElem? (i := 2) rfl))) (mvT hZ (hw _ (List.mem_of_getElem? (i := 3) rfl))) (mvT hZ (hw _ (List.mem_of_getElem? (i := 4) rfl))) (mvT hZ (hw _ (List.mem_of_getElem? (i := 5) rfl))) (by decide) (backOfS (W := 0) (rmAc l Z a0 hw [] b101 k101 ((4 : Int32)) ([(.int b0), (.int b1), (.int b2), (.int b3)]) h113 O113 Q101_h114 V_b101_113 (by decide)) hZ (hw _ (List.mem_of_getElem? (i := 5) rfl)) (hw _ (List.mem_of_getElem? (i := 4) rfl)) (by decide) (by decide)) (g := (mkF m 80 #[.val (.int len), .val (.int bits), .val (.int (4 : Int32)), .val (.int b0), .val (.int b1), .val (.int b2), .val (.int b3), .val (.ref b101), .unset, .unset, .unset, .unset] [(.ref b101)])) rfl (by rw [hml]; rfl) (argsL := [(.ref b101)]) (rest := []) (lenOf pd___B_Lcom_example_claim_claim_model_VerificationResult_ rfl) rfl (by show 2 * 0 + _ ≤ _; exact Nat.le_of_eq rfl) (hb hby at_80) (fun _ _ => ⟨rfl, e113, (by decide : 1 + 4 ≤ _), (by decide : 4 + 48 ≤ _)⟩)
  dsimp only [Pt.U, Pt.locs, Pt.cells, Pt.slots] at X115 l115 y115 z115 st115 hQ115 hs115 gr115
  subst y115 z115
  obtain ⟨b_115, q_115, rfl, N115q, O115, Kc115, Eb_115, Pp_115, Pq_115, Eq__115, Aq_115, Gb_115, Gq_115, Sb_115, Sq_115, Nbq_115⟩ := hQ115
  have N115 : Fr Z.heap.size L115 := by rw [l115]; exact Fr.app N113 N115q
  refine Go.tr st115 ?_
  obtain ⟨X115r, hS115, hZ115, hown115⟩ := rebS hS0 (by rw [e113]; exact hk113) X115 hs115 gr115 hZ hown
  have Q101_h116 := Q101_h114.keep Kc115
  have V_b101_113_h116 := V_b101_113.keep Kc115 nin0
  have ne_w_EMPTY_b_115 : w_EMPTY ≠ b_115 := Nat.ne_of_lt (Nat.lt_of_lt_of_le (E_EMPTY.ext O113).lt Sb_115)
  have ne_b101_b_115 : b101 ≠ b_115 := Nat.ne_of_lt (Nat.lt_of_lt_of_le Q101_h114.lt Sb_115)
  have ne_w_EMPTY_q_115 : w_EMPTY ≠ q_115 := Nat.ne_of_lt (Nat.lt_of_lt_of_le (E_EMPTY.ext O113).lt Sq_115)
  have ne_b101_q_115 : b101 ≠ q_115 := Nat.ne_of_lt (Nat.lt_of_lt_of_le Q101_h114.lt Sq_115)
  show Go p e below _ (T115.setTop (mkF m 83 #[.val (.int len), .val (.int bits), .val (.int (4 : Int32)), .val (.int b0), .val (.int b1), .val (.int b2), .val (.int b3), .val (.ref b101), .unset, .unset, .unset, .unset] [(.ref b_115)]))
  refine Go.st (fun t' k' => XS.astore X115r.here hx rfl (hb hby at_83) rfl rfl (l' := #[.val (.int len), .val (.int bits), .val (.int (4 : Int32)), .val (.int b0), .val (.int b1), .val (.int b2), .val (.int b3), .val (.ref b101), .val (.ref b_115), .unset, .unset, .unset]) rfl k') ?_
  show Go p e below _ (T115.setTop (mkF m 85 #[.val (.int len), .val (.int bits), .val (.int (4 : Int32)), .val (.int b0), .val (.int b1), .val (.int b2), .val (.int b3), .val (.ref b101), .val (.ref b_115), .unset, .unset, .unset] []))
  refine Go.st (fun t' k' => XS.iloadN X115r.here hx rfl (hb hby at_85) rfl k') ?_
  show Go p e below _ (T115.setTop (mkF m 86 #[.val (.int len), .val (.int bits), .val (.int (4 : Int32)), .val (.int b0), .val (.int b1), .val (.int b2), .val (.int b3), .val (.ref b101), .val (.ref b_115), .unset, .unset, .unset] [(.int (4 : Int32))]))
  refine Go.st (fun t' k' => XS.ifNo X115r.here hx rfl (hb hby at_86) rfl ((if0 _ _).trans (tlt (by decide : (0 : Int32) < (4 : Int32))).2.2.2) k') ?_
  show Go p e below _ (T115.setTop (mkF m 89 #[.val (.int len), .val (.int bits), .val (.int (4 : Int32)), .val (.int b0), .val (.int b1), .val (.int b2), .val (.int b3), .val (.ref b101), .val (.ref b_115), .unset, .unset, .unset] []))
  refine Go.st (fun t' k' => XS.aload X115r.here hx rfl (hb hby at_89) rfl rfl k') ?_
  show Go p e below _ (T115.setTop (mkF m 91 #[.val (.int len), .val (.int bits), .val (.int (4 : Int32)), .val (.int b0), .val (.int b1), .val (.int b2), .val (.int b3), .val (.ref b101), .val (.ref b_115), .unset, .unset, .unset] [(.ref b101)]))
  refine Go.st (fun t' k' => XS.iconst X115r.here hx rfl (hb hby at_91) k') ?_
  show Go p e below _ (T115.setTop (mkF m 92 #[.val (.int len), .val (.int bits), .val (.int (4 : Int32)), .val (.int b0), .val (.int b1), .val (.int b2), .val (.int b3), .val (.ref b101), .val (.ref b_115), .unset, .unset, .unset] [(.int (0 : Int32)), (.ref b101)]))
  refine Go.st (fun t' k' => XS.iloadN X115r.here hx rfl (hb hby at_92) rfl k') ?_
  show Go p e below _ (T115.setTop (mkF m 93 #[.val (.int len), .val (.int bits), .val (.int (4 : Int32)), .val (.int b0), .val (.int b1), .val (.int b2), .val (.int b3), .val (.ref b101), .val (.ref b_115), .unset, .unset, .unset] [(.int b0), (.int (0 : Int32)), (.ref b101)]))
  refine Go.st (fun t' k' => XS.iconst X115r.here hx rfl (hb hby at_93) k') ?_
  show Go p e below _ (T115.setTop (mkF m 94 #[.val (.int len), .val (.int bits), .val (.int (4 : Int32)), .val (.int b0), .val (.int b1), .val (.int b2), .val (.int b3), .val (.ref b101), .val (.ref b_115), .unset, .unset, .unset] [(.int (-1 : Int32)), (.int b0), (.int (0 : Int32)), (.ref b101)]))
  refine Go.st (fun t' k' => XS.ixor X115r.here hx rfl (hb hby at_94) rfl k') ?_
  show Go p e below _ (T115.setTop (mkF m 95 #[.val (.int len), .val (.int bits), .val (.int (4 : Int32)), .val (.int b0), .val (.int b1), .val (.int b2), .val (.int b3), .val (.ref b101), .val (.ref b_115), .unset, .unset, .unset] [(.int (b0 ^^^ (-1 : Int32))), (.int (0 : Int32)), (.ref b101)]))
  refine Go.st (fun t' k' => XS.i2b X115r.here hx rfl (hb hby at_95) rfl k') ?_
  show Go p e below _ (T115.setTop (mkF m 96 #[.val (.int len), .val (.int bits), .val (.int (4 : Int32)), .val (.int b0), .val (.int b1), .val (.int b2), .val (.int b3), .val (.ref b101), .val (.ref b_115), .unset, .unset, .unset] [(.int ((b0 ^^^ (-1 : Int32)).toInt8.toInt32)), (.int (0 : Int32)), (.ref b101)]))
  obtain ⟨cls117, Ars117, qs117, Szs117, Nzs117, Hss117, Gss117⟩ := (id V_b101_113_h116)
  have hins117 : ¬ ((0 : Int32) < 0 ∨ cls117.slots.size ≤ ((0 : Int32)).toNatClampNeg) := inb_of Szs117 ⟨by decide, by decide⟩
  obtain ⟨T118, h118, X118, e118, W118, st118⟩ := stB X115r hx hZ115 rfl Ars117 (j := (0 : Int32)) hins117 (g := (mkF m 96 #[.val (.int len), .val (.int bits), .val (.int (4 : Int32)), .val (.int b0), .val (.int b1), .val (.int b2), .val (.int b3), .val (.ref b101), .val (.ref b_115), .unset, .unset, .unset] [(.int ((b0 ^^^ (-1 : Int32)).toInt8.toInt32)), (.int (0 : Int32)), (.ref b101)])) rfl rfl (hb hby at_96)
  refine Go.st st118 ?_
  have V_b101_118 : Arv Z h118 b101 k101 .byte (4 : Int32) [(.int ((b0 ^^^ (-1 : Int32)).toInt8.toInt32).toInt8.toInt32), (.int b1), (.int b2), (.int b3)] (.int (0 : Int32)) := own_set (vs := [(.int b0), (.int b1), (.int b2), (.int b3)]) (v' := (.int ((b0 ^^^ (-1 : Int32)).toInt8.toInt32).toInt8.toInt32)) Ars117 qs117 Szs117 Nzs117 Hss117 Gss117 (fits_nar_byte _) W118 0 rfl (Nat.le_of_ble_eq_true rfl) rfl rfl
  have Q101_h119 := Q101_h116.wr W118
  have Eb_115_h119 := Eb_115.wr W118
  have Pp_115_h119 := Pp_115.other W118 (Or.inl (Ne.symm ne_b101_b_115))
  have Pq_115_h119 := Pq_115.other W118 (Or.inl (Ne.symm ne_b101_b_115))
  have Eq__115_h119 := Eq__115.wr W118
  have Aq_115_h119 := Aq_115.other W118 (Ne.symm ne_b101_q_115)
  have hk118 := Nat.le_trans (Nat.le_refl _) (Keep.of_wr W118).1
  have O118 := own_ext_wr O115 W118 g_b101
  have N118 := Fr.snoc X118 N115 g_b101
  show Go p e below _ (T118.setTop (mkF m 97 #[.val (.int len), .val (.int bits), .val (.int (4 : Int32)), .val (.int b0), .val (.int b1), .val (.int b2), .val (.int b3), .val (.ref b101), .val (.ref b_115), .unset, .unset, .unset] []))
  refine Go.st (fun t' k' => XS.iloadN X118.here hx rfl (hb hby at_97) rfl k') ?_
  show Go p e below _ (T118.setTop (mkF m 98 #[.val (.int len), .val (.int bits), .val (.int (4 : Int32)), .val (.int b0), .val (.int b1), .val (.int b2), .val (.int b3), .val (.ref b101), .val (.ref b_115), .unset, .unset, .unset] [(.int (4 : Int32))]))
  refine Go.st (fun t' k' => XS.iconst X118.here hx rfl (hb hby at_98) k') ?_
  show Go p e below _ (T118.setTop (mkF m 99 #[.val (.int len), .val (.int bits), .val (.int (4 : Int32)), .val (.int b0), .val (.int b1), .val (.int b2), .val (.int b3), .val (.ref b101), .val (.ref b_115), .unset, .unset, .unset] [(.int (1 : Int32)), (.int (4 : Int32))]))
  refine Go.st (fun t' k' => XS.icmpNo X118.here hx rfl (hb hby at_99) rfl (tlt (by decide : (1 : Int32) < (4 : Int32))).2.2.2 k') ?_
  show Go p e below _ (T118.setTop (mkF m 102 #[.val (.int len), .val (.int bits), .val (.int (4 : Int32)), .val (.int b0), .val (.int b1), .val (.int b2), .val (.int b3), .val (.ref b101), .val (.ref b_115), .unset, .unset, .unset] []))
  refine Go.st (fun t' k' => XS.aload X118.here hx rfl (hb hby at_102) rfl rfl k') ?_
  show Go p e below _ (T118.setTop (mkF m 104 #[.val (.int len), .val (.int bits), .val (.int (4 : Int32)), .val (.int b0), .val (.int b1), .val (.int b2), .val (.int b3), .val (.ref b101), .val (.ref b_115), .unset, .unset, .unset] [(.ref b101)]))
  refine Go.st (fun t' k' => XS.iconst X118.here hx rfl (hb hby at_104) k') ?_
  show Go p e below _ (T118.setTop (mkF m 105 #[.val (.int len), .val (.int bits), .val (.int (4 : Int32)), .val (.int b0), .val (.int b1), .val (.int b2), .val (.int b3), .val (.ref b101), .val (.ref b_115), .unset, .unset, .unset] [(.int (1 : Int32)), (.ref b101)]))
  refine Go.st (fun t' k' => XS.iload X118.here hx rfl (hb hby at_105) rfl k') ?_
  show Go p e below _ (T118.setTop (mkF m 107 #[.val (.int len), .val (.int bits), .val (.int (4 : Int32)), .val (.int b0), .val (.int b1), .val (.int b2), .val (.int b3), .val (.ref b101), .val (.ref b_115), .unset, .unset, .unset] [(.int b1), (.int (1 : Int32)), (.ref b101)]))
  refine Go.st (fun t' k' => XS.iconst X118.here hx rfl (hb hby at_107) k') ?_
  show Go p e below _ (T118.setTop (mkF m 108 #[.val (.int len), .val (.int bits), .val (.int (4 : Int32)), .val (.int b0), .val (.int b1), .val (.int b2), .val (.int b3), .val (.ref b101), .val (.ref b_115), .unset, .unset, .unset] [(.int (-1 : Int32)), (.int b1), (.int (1 : Int32)), (.ref b101)]))
  refine Go.st (fun t' k' => XS.ixor X118.here hx rfl (hb hby at_108) rfl k') ?_
  show Go p e below _ (T118.setTop (mkF m 109 #[.val (.int len), .val (.int bits), .val (.int (4 : Int32)), .val (.int b0), .val (.int b1), .val (.int b2), .val (.int b3), .val (.ref b101), .val (.ref b_115), .unset, .unset, .unset] [(.int (b1 ^^^ (-1 : Int32))), (.int (1 : Int32)), (.ref b101)]))
  refine Go.st (fun t' k' => XS.i2b X118.here hx rfl (hb hby at_109) rfl k') ?_
  show Go p e below _ (T118.setTop (mkF m 110 #[.val (.int len), .val (.int bits), .val (.int (4 : Int32)), .val (.int b0), .val (.int b1), .val (.int b2), .val (.int b3), .val (.ref b101), .val (.ref b_115), .unset, .unset, .unset] [(.int ((b1 ^^^ (-1 : Int32)).toInt8.toInt32)), (.int (1 : Int32)), (.ref b101)]))
  obtain ⟨cls120, Ars120, qs120, Szs120, Nzs120, Hss120, Gss120⟩ := (id V_b101_118)
  have hins120 : ¬ ((1 : Int32) < 0 ∨ cls120.slots.size ≤ ((1 : Int32)).toNatClampNeg) := inb_of Szs120 ⟨by decide, by decide⟩
  obtain ⟨T121, h121, X121, e121, W121, st121⟩ := stB X118 hx hZ115 e118 Ars120 (j := (1 : Int32)) hins120 (g := (mkF m 110 #[.val (.int len), .val (.int bits), .val (.int (4 : Int32)), .val (.int b0), .val (.int b1), .val (.int b2), .val (.int b3), .val (.ref b101), .val (.ref b_115), .unset, .unset, .unset] [(.int ((b1 ^^^ (-1 : Int32)).toInt8.toInt32)), (.int (1 : Int32)), (.ref b101)])) rfl rfl (hb hby at_110)
  refine Go.st st121 ?_
  have V_b101_121 : Arv Z h121 b101 k101 .byte (4 : Int32) [(.int ((b0 ^^^ (-1 : Int32)).toInt8.toInt32).toInt8.toInt32), (.int ((b1 ^^^ (-1 : Int32)).toInt8.toInt32).toInt8.toInt32), (.int b2), (.int b3)] (.int (0 : Int32)) := own_set (vs := [(.int ((b0 ^^^ (-1 : Int32)).toInt8.toInt32).toInt8.toInt32), (.int b1), (.int b2), (.int b3)]) (v' := (.int ((b1 ^^^ (-1 : Int32)).toInt8.toInt32).toInt8.toInt32)) Ars120 qs120 Szs120 Nzs120 Hss120 Gss120 (fits_nar_byte _) W121 1 rfl (Nat.le_of_ble_eq_true rfl) rfl rfl
  have Q101_h122 := Q101_h119.wr W121
  have Eb_115_h122 := Eb_115_h119.wr W121
  have Pp_115_h122 := Pp_115_h119.other W121 (Or.inl (Ne.symm ne_b101_b_115))
  have Pq_115_h122 := Pq_115_h119.other W121 (Or.inl (Ne.symm ne_b101_b_115))
  have Eq__115_h122 := Eq__115_h119.wr W121
  have Aq_115_h122 := Aq_115_h119.other W121 (Ne.symm ne_b101_q_115)
  have hk121 := Nat.le_trans hk118 (Keep.of_wr W121).1
  have O121 := own_ext_wr O118 W121 g_b101
  have N121 := Fr.snoc X121 N118 g_b101
  show Go p e below _ (T121.setTop (mkF m 111 #[.val (.int len), .val (.int bits), .val (.int (4 : Int32)), .val (.int b0), .val (.int b1), .val (.int b2), .val (.int b3), .val (.ref b101), .val (.ref b_115), .unset, .unset, .unset] []))
  refine Go.st (fun t' k' => XS.iloadN X121.here hx rfl (hb hby at_111) rfl k') ?_
  show Go p e below _ (T121.setTop (mkF m 112 #[.val (.int len), .val (.int bits), .val (.int (4 : Int32)), .val (.int b0), .val (.int b1), .val (.int b2), .val (.int b3), .val (.ref b101), .val (.ref b_115), .unset, .unset, .unset] [(.int (4 : Int32))]))
  refine Go.st (fun t' k' => XS.iconst X121.here hx rfl (hb hby at_112) k') ?_
  show Go p e below _ (T121.setTop (mkF m 113 #[.val (.int len), .val (.int bits), .val (.int (4 : Int32)), .val (.int b0), .val (.int b1), .val (.int b2), .val (.int b3), .val (.ref b101), .val (.ref b_115), .unset, .unset, .unset] [(.int (2 : Int32)), (.int (4 : Int32))]))
  refine Go.st (fun t' k' => XS.icmpNo X121.here hx rfl (hb hby at_113) rfl (tlt (by decide : (2 : Int32) < (4 : Int32))).2.2.2 k') ?_
  show Go p e below _ (T121.setTop (mkF m 116 #[.val (.int len), .val (.int bits), .val (.int (4 : Int32)), .val (.int b0), .val (.int b1), .val (.int b2), .val (.int b3), .val (.ref b101), .val (.ref b_115), .unset, .unset, .unset] []))
  refine Go.st (fun t' k' => XS.aload X121.here hx rfl (hb hby at_116) rfl rfl k') ?_
  show Go p e below _ (T121.setTop (mkF m 118 #[.val (.int len), .val (.int bits), .val (.int (4 : Int32)), .val (.int b0), .val (.int b1), .val (.int b2), .val (.int b3), .val (.ref b101), .val (.ref b_115), .unset, .unset, .unset] [(.ref b101)]))
  refine Go.st (fun t' k' => XS.iconst X121.here hx rfl (hb hby at_118) k') ?_
  show Go p e below _ (T121.setTop (mkF m 119 #[.val (.int len), .val (.int bits), .val (.int (4 : Int32)), .val (.int b0), .val (.int b1), .val (.int b2), .val (.int b3), .val (.ref b101), .val (.ref b_115), .unset, .unset, .unset] [(.int (2 : Int32)), (.ref b101)]))
  refine Go.st (fun t' k' => XS.iload X121.here hx rfl (hb hby at_119) rfl k') ?_
  show Go p e below _ (T121.setTop (mkF m 121 #[.val (.int len), .val (.int bits), .val (.int (4 : Int32)), .val (.int b0), .val (.int b1), .val (.int b2), .val (.int b3), .val (.ref b101), .val (.ref b_115), .unset, .unset, .unset] [(.int b2), (.int (2 : Int32)), (.ref b101)]))
  refine Go.st (fun t' k' => XS.iconst X121.here hx rfl (hb hby at_121) k') ?_
  show Go p e below _ (T121.setTop (mkF m 122 #[.val (.int len), .val (.int bits), .val (.int (4 : Int32)), .val (.int b0), .val (.int b1), .val (.int b2), .val (.int b3), .val (.ref b101), .val (.ref b_115), .unset, .unset, .unset] [(.int (-1 : Int32)), (.int b2), (.int (2 : Int32)), (.ref b101)]))
  refine Go.st (fun t' k' => XS.ixor X121.here hx rfl (hb hby at_122) rfl k') ?_
  show Go p e below _ (T121.setTop (mkF m 123 #[.val (.int len), .val (.int bits), .val (.int (4 : Int32)), .val (.int b0), .val (.int b1), .val (.int b2), .val (.int b3), .val (.ref b101), .val (.ref b_115), .unset, .unset, .unset] [(.int (b2 ^^^ (-1 : Int32))), (.int (2 : Int32)), (.ref b101)]))
  refine Go.st (fun t' k' => XS.i2b X121.here hx rfl (hb hby at_123) rfl k') ?_
  show Go p e below _ (T121.setTop (mkF m 124 #[.val (.int len), .val (.int bits), .val (.int (4 : Int32)), .val (.int b0), .val (.int b1), .val (.int b2), .val (.int b3), .val (.ref b101), .val (.ref b_115), .unset, .unset, .unset] [(.int ((b2 ^^^ (-1 : Int32)).toInt8.toInt32)), (.int (2 : Int32)), (.ref b101)]))
  obtain ⟨cls123, Ars123, qs123, Szs123, Nzs123, Hss123, Gss123⟩ := (id V_b101_121)
  have hins123 : ¬ ((2 : Int32) < 0 ∨ cls123.slots.size ≤ ((2 : Int32)).toNatClampNeg) := inb_of Szs123 ⟨by decide, by decide⟩
  obtain ⟨T124, h124, X124, e124, W124, st124⟩ := stB X121 hx hZ115 e121 Ars123 (j := (2 : Int32)) hins123 (g := (mkF m 124 #[.val (.int len), .val (.int bits), .val (.int (4 : Int32)), .val (.int b0), .val (.int b1), .val (.int b2), .val (.int b3), .val (.ref b101), .val (.ref b_115), .unset, .unset, .unset] [(.int ((b2 ^^^ (-1 : Int32)).toInt8.toInt32)), (.int (2 : Int32)), (.ref b101)])) rfl rfl (hb hby at_124)
  refine Go.st st124 ?_
  have V_b101_124 : Arv Z h124 b101 k101 .byte (4 : Int32) [(.int ((b0 ^^^ (-1 : Int32)).toInt8.toInt32).toInt8.toInt32), (.int ((b1 ^^^ (-1 : Int32)).toInt8.toInt32).toInt8.toInt32), (.int ((b2 ^^^ (-1 : Int32)).toInt8.toInt32).toInt8.toInt32), (.int b3)] (.int (0 : Int32)) := own_set (vs := [(.int ((b0 ^^^ (-1 : Int32)).toInt8.toInt32).toInt8.toInt32), (.int ((b1 ^^^ (-1 : Int32)).toInt8.toInt32).toInt8.toInt32), (.int b2), (.int b3)]) (v' := (.int ((b2 ^^^ (-1 : Int32)).toInt8.toInt32).toInt8.toInt32)) Ars123 qs123 Szs123 Nzs123 Hss123 Gss123 (fits_nar_byte _) W124 2 rfl (Nat.le_of_ble_eq_true rfl) rfl rfl
  have Q101_h125 := Q101_h122.wr W124
  have Eb_115_h125 := Eb_115_h122.wr W124
  have Pp_115_h125 := Pp_115_h122.other W124 (Or.inl (Ne.symm ne_b101_b_115))
  have Pq_115_h125 := Pq_115_h122.other W124 (Or.inl (Ne.symm ne_b101_b_115))
  have Eq__115_h125 := Eq__115_h122.wr W124
  have Aq_115_h125 := Aq_115_h122.other W124 (Ne.symm ne_b101_q_115)
  have hk124 := Nat.le_trans hk121 (Keep.of_wr W124).1
  have O124 := own_ext_wr O121 W124 g_b101
  have N124 := Fr.snoc X124 N121 g_b101
  show Go p e below _ (T124.setTop (mkF m 125 #[.val (.int len), .val (.int bits), .val (.int (4 : Int32)), .val (.int b0), .val (.int b1), .val (.int b2), .val (.int b3), .val (.ref b101), .val (.ref b_115), .unset, .unset, .unset] []))
  refine Go.st (fun t' k' => XS.iloadN X124.here hx rfl (hb hby at_125) rfl k') ?_
  show Go p e below _ (T124.setTop (mkF m 126 #[.val (.int len), .val (.int bits), .val (.int (4 : Int32)), .val (.int b0), .val (.int b1), .val (.int b2), .val (.int b3), .val (.ref b101), .val (.ref b_115), .unset, .unset, .unset] [(.int (4 : Int32))]))
  refine Go.st (fun t' k' => XS.iconst X124.here hx rfl (hb hby at_126) k') ?_
  show Go p e below _ (T124.setTop (mkF m 127 #[.val (.int len), .val (.int bits), .val (.int (4 : Int32)), .val (.int b0), .val (.int b1), .val (.int b2), .val (.int b3), .val (.ref b101), .val (.ref b_115), .unset, .unset, .unset] [(.int (3 : Int32)), (.int (4 : Int32))]))
  refine Go.st (fun t' k' => XS.icmpNo X124.here hx rfl (hb hby at_127) rfl (tlt (by decide : (3 : Int32) < (4 : Int32))).2.2.2 k') ?_
  show Go p e below _ (T124.setTop (mkF m 130 #[.val (.int len), .val (.int bits), .val (.int (4 : Int32)), .val (.int b0), .val (.int b1), .val (.int b2), .val (.int b3), .val (.ref b101), .val (.ref b_115), .unset, .unset, .unset] []))
  refine Go.st (fun t' k' => XS.aload X124.here hx rfl (hb hby at_130) rfl rfl k') ?_
  show Go p e below _ (T124.setTop (mkF m 132 #[.val (.int len), .val (.int bits), .val (.int (4 : Int32)), .val (.int b0), .val (.int b1), .val (.int b2), .val (.int b3), .val (.ref b101), .val (.ref b_115), .unset, .unset, .unset] [(.ref b101)]))
  refine Go.st (fun t' k' => XS.iconst X124.here hx rfl (hb hby at_132) k') ?_
  show Go p e below _ (T124.setTop (mkF m 133 #[.val (.int len), .val (.int bits), .val (.int (4 : Int32)), .val (.int b0), .val (.int b1), .val (.int b2), .val (.int b3), .val (.ref b101), .val (.ref b_115), .unset, .unset, .unset] [(.int (3 : Int32)), (.ref b101)]))
  refine Go.st (fun t' k' => XS.iload X124.here hx rfl (hb hby at_133) rfl k') ?_
  show Go p e below _ (T124.setTop (mkF m 135 #[.val (.int len), .val (.int bits), .val (.int (4 : Int32)), .val (.int b0), .val (.int b1), .val (.int b2), .val (.int b3), .val (.ref b101), .val (.ref b_115), .unset, .unset, .unset] [(.int b3), (.int (3 : Int32)), (.ref b101)]))
  refine Go.st (fun t' k' => XS.iconst X124.here hx rfl (hb hby at_135) k') ?_
  show Go p e below _ (T124.setTop (mkF m 136 #[.val (.int len), .val (.int bits), .val (.int (4 : Int32)), .val (.int b0), .val (.int b1), .val (.int b2), .val (.int b3), .val (.ref b101), .val (.ref b_115), .unset, .unset, .unset] [(.int (-1 : Int32)), (.int b3), (.int (3 : Int32)), (.ref b101)]))
  refine Go.st (fun t' k' => XS.ixor X124.here hx rfl (hb hby at_136) rfl k') ?_
  show Go p e below _ (T124.setTop (mkF m 137 #[.val (.int len), .val (.int bits), .val (.int (4 : Int32)), .val (.int b0), .val (.int b1), .val (.int b2), .val (.int b3), .val (.ref b101), .val (.ref b_115), .unset, .unset, .unset] [(.int (b3 ^^^ (-1 : Int32))), (.int (3 : Int32)), (.ref b101)]))
  refine Go.st (fun t' k' => XS.i2b X124.here hx rfl (hb hby at_137) rfl k') ?_
  show Go p e below _ (T124.setTop (mkF m 138 #[.val (.int len), .val (.int bits), .val (.int (4 : Int32)), .val (.int b0), .val (.int b1), .val (.int b2), .val (.int b3), .val (.ref b101), .val (.ref b_115), .unset, .unset, .unset] [(.int ((b3 ^^^ (-1 : Int32)).toInt8.toInt32)), (.int (3 : Int32)), (.ref b101)]))
  obtain ⟨cls126, Ars126, qs126, Szs126, Nzs126, Hss126, Gss126⟩ := (id V_b101_124)
  have hins126 : ¬ ((3 : Int32) < 0 ∨ cls126.slots.size ≤ ((3 : Int32)).toNatClampNeg) := inb_of Szs126 ⟨by decide, by decide⟩
  obtain ⟨T127, h127, X127, e127, W127, st127⟩ := stB X124 hx hZ115 e124 Ars126 (j := (3 : Int32)) hins126 (g := (mkF m 138 #[.val (.int len), .val (.int bits), .val (.int (4 : Int32)), .val (.int b0), .val (.int b1), .val (.int b2), .val (.int b3), .val (.ref b101), .val (.ref b_115), .unset, .unset, .unset] [(.int ((b3 ^^^ (-1 : Int32)).toInt8.toInt32)), (.int (3 : Int32)), (.ref b101)])) rfl rfl (hb hby at_138)
  refine Go.st st127 ?_
  have V_b101_127 : Arv Z h127 b101 k101 .byte (4 : Int32) [(.int ((b0 ^^^ (-1 : Int32)).toInt8.toInt32).toInt8.toInt32), (.int ((b1 ^^^ (-1 : Int32)).toInt8.toInt32).toInt8.toInt32), (.int ((b2 ^^^ (-1 : Int32)).toInt8.toInt32).toInt8.toInt32), (.int ((b3 ^^^ (-1 : Int32)).toInt8.toInt32).toInt8.toInt32)] (.int (0 : Int32)) := own_set (vs := [(.int ((b0 ^^^ (-1 : Int32)).toInt8.toInt32).toInt8.toInt32), (.int ((b1 ^^^ (-1 : Int32)).toInt8.toInt32).toInt8.toInt32), (.int ((b2 ^^^ (-1 : Int32)).toInt8.toInt32).toInt8.toInt32), (.int b3)]) (v' := (.int ((b3 ^^^ (-1 : Int32)).toInt8.toInt32).toInt8.toInt32)) Ars126 qs126 Szs126 Nzs126 Hss126 Gss126 (fits_nar_byte _) W127 3 rfl (Nat.le_of_ble_eq_true rfl) rfl rfl
  have Q101_h128 := Q101_h125.wr W127
  have Eb_115_h128 := Eb_115_h125.wr W127
  have Pp_115_h128 := Pp_115_h125.other W127 (Or.inl (Ne.symm ne_b101_b_115))
  have Pq_115_h128 := Pq_115_h125.other W127 (Or.inl (Ne.symm ne_b101_b_115))
  have Eq__115_h128 := Eq__115_h125.wr W127
  have Aq_115_h128 := Aq_115_h125.other W127 (Ne.symm ne_b101_q_115)
  have hk127 := Nat.le_trans hk124 (Keep.of_wr W127).1
  have O127 := own_ext_wr O124 W127 g_b101
  have N127 := Fr.snoc X127 N124 g_b101
  show Go p e below _ (T127.setTop (mkF m 139 #[.val (.int len), .val (.int bits), .val (.int (4 : Int32)), .val (.int b0), .val (.int b1), .val (.int b2), .val (.int b3), .val (.ref b101), .val (.ref b_115), .unset, .unset, .unset] []))
  refine Go.st (fun t' k' => XS.aload X127.here hx rfl (hb hby at_139) rfl rfl k') ?_
  show Go p e below _ (T127.setTop (mkF m 141 #[.val (.int len), .val (.int bits), .val (.int (4 : Int32)), .val (.int b0), .val (.int b1), .val (.int b2), .val (.int b3), .val (.ref b101), .val (.ref b_115), .unset, .unset, .unset] [(.ref b_115)]))
  obtain ⟨cq129, kq129, q129a, q129b, q129c⟩ := isOf hZ115 e127 Eb_115_h128
  obtain ⟨_, _, ⟨T129, L129, k129, n129⟩, -, X129, ⟨Lc129, hQ129, l129, y129, z129⟩, st129⟩ := X127.virtualBack hx (y := (⟨"com/example/claim/claim/model/VerificationResult", "isAccepted", "()Z"⟩ : MethodName)) (z := (⟨"com/example/claim/claim/model/VerificationResult", "isAccepted", "()Z"⟩ : MethodName)) hown115 (mvT hZ115 (hw _ (List.mem_of_getElem? (i := 38) rfl))) (mvT hZ115 (hw _ (List.mem_of_getElem? (i := 39) rfl))) (notFace_of_selects (args := #[]) (mvT hZ115 (hw _ (List.mem_of_getElem? (i := 41) rfl)))) (mvT hZ115 (hw _ (List.mem_of_getElem? (i := 41) rfl))) (mvT hZ115 (hw _ (List.mem_of_getElem? (i := 40) rfl))) (by decide) (backOf (W := 0) (rmIA l Z a0 hw [] b_115 q_115 h127 O127 Pp_115_h128) hZ115 (hw _ (List.mem_of_getElem? (i := 42) rfl)) (hw _ (List.mem_of_getElem? (i := 4) rfl)) (by decide) (by decide)) q129a q129c (g := (mkF m 141 #[.val (.int len), .val (.int bits), .val (.int (4 : Int32)), .val (.int b0), .val (.int b1), .val (.int b2), .val (.int b3), .val (.ref b101), .val (.ref b_115), .unset, .unset, .unset] [(.ref b_115)])) rfl (by rw [hml]; rfl) (Steps.refl _) (argsL := []) (rest := []) (lenOf pd___Z rfl) rfl (by show 2 * 0 + _ ≤ _; exact Nat.le_of_eq rfl) (hb hby at_141) (fun _ _ => ⟨rfl, e127, (by decide : 5 + 0 ≤ _), (by decide : 52 + 0 ≤ _)⟩)
  dsimp only [Pt.U, Pt.locs, Pt.cells, Pt.slots] at X129 l129 y129 z129 st129 hQ129
  subst y129 z129
  obtain ⟨rfl, rfl, e129⟩ := hQ129
  have N129 : Fr Z.heap.size L129 := by rw [l129]; exact Fr.app N127 (Fr.nil _)
  refine Go.tr st129 ?_
  show Go p e below _ (T129.setTop (mkF m 144 #[.val (.int len), .val (.int bits), .val (.int (4 : Int32)), .val (.int b0), .val (.int b1), .val (.int b2), .val (.int b3), .val (.ref b101), .val (.ref b_115), .unset, .unset, .unset] [(.int (1 : Int32))]))
  refine Go.st (fun t' k' => XS.ifYes X129.here hx rfl (pc0 := 144) (pc' := 149) rfl (hb hby at_144) rfl ((if0 _ _).trans (feq (by decide : ¬ ((1 : Int32) = (0 : Int32)))).2) (by decide) (by decide) k') ?_
  show Go p e below _ (T129.setTop (mkF m 149 #[.val (.int len), .val (.int bits), .val (.int (4 : Int32)), .val (.int b0), .val (.int b1), .val (.int b2), .val (.int b3), .val (.ref b101), .val (.ref b_115), .unset, .unset, .unset] []))
  refine Go.st (fun t' k' => XS.aload X129.here hx rfl (hb hby at_149) rfl rfl k') ?_
  show Go p e below _ (T129.setTop (mkF m 151 #[.val (.int len), .val (.int bits), .val (.int (4 : Int32)), .val (.int b0), .val (.int b1), .val (.int b2), .val (.int b3), .val (.ref b101), .val (.ref b_115), .unset, .unset, .unset] [(.ref b_115)]))
  obtain ⟨cq130, kq130, q130a, q130b, q130c⟩ := isOf hZ115 e129 Eb_115_h128
  obtain ⟨_, _, ⟨T130, L130, k130, n130⟩, -, X130, ⟨Lc130, hQ130, l130, y130, z130⟩, st130⟩ := X129.virtualBack hx (y := (⟨"com/example/claim/claim/model/VerificationResult", "refusal", "()Ljava/util/Optional;"⟩ : MethodName)) (z := (⟨"com/example/claim/claim/model/VerificationResult", "refusal", "()Ljava/util/Optional;"⟩ : MethodName)) hown115 (mvT hZ115 (hw _ (List.mem_of_getElem? (i := 43) rfl))) (mvT hZ115 (hw _ (List.mem_of_getElem? (i := 44) rfl))) (notFace_of_selects (args := #[]) (mvT hZ115 (hw _ (List.mem_of_getElem? (i := 46) rfl)))) (mvT hZ115 (hw _ (List.mem_of_getElem? (i := 46) rfl))) (mvT hZ115 (hw _ (List.mem_of_getElem? (i := 45) rfl))) (by decide) (backOf (W := 0) (rmRq l Z a0 hw [] b_115 w_EMPTY h127 O127 S_EMPTY Pq_115_h128) hZ115 (hw _ (List.mem_of_getElem? (i := 47) rfl)) (hw _ (List.mem_of_getElem? (i := 4) rfl)) (by decide) (by decide)) q130a q130c (g := (mkF m 151 #[.val (.int len), .val (.int bits), .val (.int (4 : Int32)), .val (.int b0), .val (.int b1), .val (.int b2), .val (.int b3), .val (.ref b101), .val (.ref b_115), .unset, .unset, .unset] [(.ref b_115)])) rfl (by rw [hml]; rfl) (Steps.refl _) (argsL := []) (rest := []) (lenOf pd___Ljava_util_Optional_ rfl) rfl (by show 2 * 0 + _ ≤ _; exact Nat.le_of_eq rfl) (hb hby at_151) (fun _ _ => ⟨rfl, e129, (by decide : 5 + 0 ≤ _), (by decide : 52 + 0 ≤ _)⟩)
  dsimp only [Pt.U, Pt.locs, Pt.cells, Pt.slots] at X130 l130 y130 z130 st130 hQ130
  subst y130 z130
  obtain ⟨rfl, rfl, e130⟩ := hQ130
  have N130 : Fr Z.heap.size L130 := by rw [l130]; exact Fr.app N129 (Fr.nil _)
  refine Go.tr st130 ?_
  show Go p e below _ (T130.setTop (mkF m 154 #[.val (.int len), .val (.int bits), .val (.int (4 : Int32)), .val (.int b0), .val (.int b1), .val (.int b2), .val (.int b3), .val (.ref b101), .val (.ref b_115), .unset, .unset, .unset] [(.ref w_EMPTY)]))
  obtain ⟨cq131, kq131, q131a, q131b, q131c⟩ := isOf hZ115 e130 (E_EMPTY.ext O127)
  obtain ⟨_, _, ⟨T131, L131, k131, n131⟩, -, X131, ⟨Lc131, hQ131, l131, y131, z131⟩, st131⟩ := X130.virtualBack hx (y := (⟨"java/util/Optional", "isPresent", "()Z"⟩ : MethodName)) (z := (⟨"java/util/Optional", "isPresent", "()Z"⟩ : MethodName)) hown115 (mvT hZ115 (hw _ (List.mem_of_getElem? (i := 53) rfl))) (mvT hZ115 (hw _ (List.mem_of_getElem? (i := 54) rfl))) (notFace_of_selects (args := #[]) (mvT hZ115 (hw _ (List.mem_of_getElem? (i := 56) rfl)))) (mvT hZ115 (hw _ (List.mem_of_getElem? (i := 56) rfl))) (mvT hZ115 (hw _ (List.mem_of_getElem? (i := 55) rfl))) (by decide) (backOf (W := 0) (rmIs0 l Z a0 hw [] w_EMPTY h127 O127 (F_EMPTY_value.ext O127)) hZ115 (hw _ (List.mem_of_getElem? (i := 57) rfl)) (hw _ (List.mem_of_getElem? (i := 50) rfl)) (by decide) (by decide)) q131a q131c (g := (mkF m 154 #[.val (.int len), .val (.int bits), .val (.int (4 : Int32)), .val (.int b0), .val (.int b1), .val (.int b2), .val (.int b3), .val (.ref b101), .val (.ref b_115), .unset, .unset, .unset] [(.ref w_EMPTY)])) rfl (by rw [hml]; rfl) (Steps.refl _) (argsL := []) (rest := []) (lenOf pd___Z rfl) rfl (by show 2 * 0 + _ ≤ _; exact Nat.le_of_eq rfl) (hb hby at_154) (fun _ _ => ⟨rfl, e130, (by decide : 5 + 0 ≤ _), (by decide : 52 + 0 ≤ _)⟩)
  dsimp only [Pt.U, Pt.locs, Pt.cells, Pt.slots] at X131 l131 y131 z131 st131 hQ131
  subst y131 z131
  obtain ⟨rfl, rfl, e131⟩ := hQ131
  have N131 : Fr Z.heap.size L131 := by rw [l131]; exact Fr.app N130 (Fr.nil _)
  refine Go.tr st131 ?_
  show Go p e below _ (T131.setTop (mkF m 157 #[.val (.int len), .val (.int bits), .val (.int (4 : Int32)), .val (.int b0), .val (.int b1), .val (.int b2), .val (.int b3), .val (.ref b101), .val (.ref b_115), .unset, .unset, .unset] [(.int (0 : Int32))]))
  refine Go.st (fun t' k' => XS.ifYes X131.here hx rfl (pc0 := 157) (pc' := 162) rfl (hb hby at_157) rfl ((if0 _ _).trans (teq (by decide : (0 : Int32) = (0 : Int32))).1) (by decide) (by decide) k') ?_
  show Go p e below _ (T131.setTop (mkF m 162 #[.val (.int len), .val (.int bits), .val (.int (4 : Int32)), .val (.int b0), .val (.int b1), .val (.int b2), .val (.int b3), .val (.ref b101), .val (.ref b_115), .unset, .unset, .unset] []))
  refine Go.st (fun t' k' => XS.aload X131.here hx rfl (hb hby at_162) rfl rfl k') ?_
  show Go p e below _ (T131.setTop (mkF m 164 #[.val (.int len), .val (.int bits), .val (.int (4 : Int32)), .val (.int b0), .val (.int b1), .val (.int b2), .val (.int b3), .val (.ref b101), .val (.ref b_115), .unset, .unset, .unset] [(.ref b_115)]))
  obtain ⟨cq132, kq132, q132a, q132b, q132c⟩ := isOf hZ115 e131 Eb_115_h128
  obtain ⟨_, _, ⟨T132, L132, k132, n132⟩, -, X132, ⟨Lc132, hQ132, l132, y132, z132⟩, st132⟩ := X131.virtualBack hx (y := (⟨"com/example/claim/claim/model/VerificationResult", "payload", "()Ljava/util/Optional;"⟩ : MethodName)) (z := (⟨"com/example/claim/claim/model/VerificationResult", "payload", "()Ljava/util/Optional;"⟩ : MethodName)) hown115 (mvT hZ115 (hw _ (List.mem_of_getElem? (i := 60) rfl))) (mvT hZ115 (hw _ (List.mem_of_getElem? (i := 61) rfl))) (notFace_of_selects (args := #[]) (mvT hZ115 (hw _ (List.mem_of_getElem? (i := 63) rfl)))) (mvT hZ115 (hw _ (List.mem_of_getElem? (i := 63) rfl))) (mvT hZ115 (hw _ (List.mem_of_getElem? (i := 62) rfl))) (by decide) (backOf (W := 0) (rmPl l Z a0 hw [] b_115 q_115 k101 ((4 : Int32)) ([(.int b0), (.int b1), (.int b2), (.int b3)]) h127 O127 Pp_115_h128 Eq__115_h128 Aq_115_h128 (by decide)) hZ115 (hw _ (List.mem_of_getElem? (i := 64) rfl)) (hw _ (List.mem_of_getElem? (i := 4) rfl)) (by decide) (by decide)) q132a q132c (g := (mkF m 164 #[.val (.int len), .val (.int bits), .val (.int (4 : Int32)), .val (.int b0), .val (.int b1), .val (.int b2), .val (.int b3), .val (.ref b101), .val (.ref b_115), .unset, .unset, .unset] [(.ref b_115)])) rfl (by rw [hml]; rfl) (Steps.refl _) (argsL := []) (rest := []) (lenOf pd___Ljava_util_Optional_ rfl) rfl (by show 2 * 0 + _ ≤ _; exact Nat.le_of_eq rfl) (hb hby at_164) (fun _ _ => ⟨rfl, e131, (by decide : 5 + 3 ≤ _), (by decide : 52 + 6 ≤ _)⟩)
  dsimp only [Pt.U, Pt.locs, Pt.cells, Pt.slots] at X132 l132 y132 z132 st132 hQ132
  subst y132 z132
  obtain ⟨b_132, u_132, rfl, N132q, O132, Kc132, Eb_132, Pv_132, Eu_132, Au_132, Gb_132, Gu_132, Sb_132, Su_132, Nbu_132⟩ := hQ132
  have N132 : Fr Z.heap.size L132 := by rw [l132]; exact Fr.app N131 N132q
  refine Go.tr st132 ?_
  have hk132 := Nat.le_trans hk127 Kc132.1
  have Q101_h133 := Q101_h128.keep Kc132
  have Eb_115_h133 := Eb_115_h128.keep Kc132
  have Pp_115_h133 := Pp_115_h128.keep Kc132 nin0
  have Pq_115_h133 := Pq_115_h128.keep Kc132 nin0
  have Eq__115_h133 := Eq__115_h128.keep Kc132
  have Aq_115_h133 := Aq_115_h128.keep Kc132 nin0
  have V_b101_127_h133 := V_b101_127.keep Kc132 nin0
  have ne_w_EMPTY_b_132 : w_EMPTY ≠ b_132 := Nat.ne_of_lt (Nat.lt_of_lt_of_le (E_EMPTY.ext O127).lt Sb_132)
  have ne_b101_b_132 : b101 ≠ b_132 := Nat.ne_of_lt (Nat.lt_of_lt_of_le Q101_h128.lt Sb_132)
  have ne_b_115_b_132 : b_115 ≠ b_132 := Nat.ne_of_lt (Nat.lt_of_lt_of_le Eb_115_h128.lt Sb_132)
  have ne_q_115_b_132 : q_115 ≠ b_132 := Nat.ne_of_lt (Nat.lt_of_lt_of_le Eq__115_h128.lt Sb_132)
  have ne_w_EMPTY_u_132 : w_EMPTY ≠ u_132 := Nat.ne_of_lt (Nat.lt_of_lt_of_le (E_EMPTY.ext O127).lt Su_132)
  have ne_b101_u_132 : b101 ≠ u_132 := Nat.ne_of_lt (Nat.lt_of_lt_of_le Q101_h128.lt Su_132)
  have ne_b_115_u_132 : b_115 ≠ u_132 := Nat.ne_of_lt (Nat.lt_of_lt_of_le Eb_115_h128.lt Su_132)
  have ne_q_115_u_132 : q_115 ≠ u_132 := Nat.ne_of_lt (Nat.lt_of_lt_of_le Eq__115_h128.lt Su_132)
  show Go p e below _ (T132.setTop (mkF m 167 #[.val (.int len), .val (.int bits), .val (.int (4 : Int32)), .val (.int b0), .val (.int b1), .val (.int b2), .val (.int b3), .val (.ref b101), .val (.ref b_115), .unset, .unset, .unset] [(.ref b_132)]))
  refine Go.st (fun t' k' => XS.astore X132.here hx rfl (hb hby at_167) rfl rfl (l' := #[.val (.int len), .val (.int bits), .val (.int (4 : Int32)), .val (.int b0), .val (.int b1), .val (.int b2), .val (.int b3), .val (.ref b101), .val (.ref b_115), .val (.ref b_132), .unset, .unset]) rfl k') ?_
  show Go p e below _ (T132.setTop (mkF m 169 #[.val (.int len), .val (.int bits), .val (.int (4 : Int32)), .val (.int b0), .val (.int b1), .val (.int b2), .val (.int b3), .val (.ref b101), .val (.ref b_115), .val (.ref b_132), .unset, .unset] []))
  refine Go.st (fun t' k' => XS.aload X132.here hx rfl (hb hby at_169) rfl rfl k') ?_
  show Go p e below _ (T132.setTop (mkF m 171 #[.val (.int len), .val (.int bits), .val (.int (4 : Int32)), .val (.int b0), .val (.int b1), .val (.int b2), .val (.int b3), .val (.ref b101), .val (.ref b_115), .val (.ref b_132), .unset, .unset] [(.ref b_132)]))
  obtain ⟨cq134, kq134, q134a, q134b, q134c⟩ := isOf hZ115 rfl Eb_132
  obtain ⟨_, _, ⟨T134, L134, k134, n134⟩, -, X134, ⟨Lc134, hQ134, l134, y134, z134⟩, st134⟩ := X132.virtualBack hx (y := (⟨"java/util/Optional", "isPresent", "()Z"⟩ : MethodName)) (z := (⟨"java/util/Optional", "isPresent", "()Z"⟩ : MethodName)) hown115 (mvT hZ115 (hw _ (List.mem_of_getElem? (i := 53) rfl))) (mvT hZ115 (hw _ (List.mem_of_getElem? (i := 54) rfl))) (notFace_of_selects (args := #[]) (mvT hZ115 (hw _ (List.mem_of_getElem? (i := 56) rfl)))) (mvT hZ115 (hw _ (List.mem_of_getElem? (i := 56) rfl))) (mvT hZ115 (hw _ (List.mem_of_getElem? (i := 55) rfl))) (by decide) (backOf (W := 0) (rmIs1 l Z a0 hw [] b_132 u_132 T132.heap O132 Pv_132) hZ115 (hw _ (List.mem_of_getElem? (i := 57) rfl)) (hw _ (List.mem_of_getElem? (i := 50) rfl)) (by decide) (by decide)) q134a q134c (g := (mkF m 171 #[.val (.int len), .val (.int bits), .val (.int (4 : Int32)), .val (.int b0), .val (.int b1), .val (.int b2), .val (.int b3), .val (.ref b101), .val (.ref b_115), .val (.ref b_132), .unset, .unset] [(.ref b_132)])) rfl (by rw [hml]; rfl) (Steps.refl _) (argsL := []) (rest := []) (lenOf pd___Z rfl) rfl (by show 2 * 0 + _ ≤ _; exact Nat.le_of_eq rfl) (hb hby at_171) (fun _ _ => ⟨rfl, rfl, (by decide : 8 + 0 ≤ _), (by decide : 58 + 0 ≤ _)⟩)
  dsimp only [Pt.U, Pt.locs, Pt.cells, Pt.slots] at X134 l134 y134 z134 st134 hQ134
  subst y134 z134
  obtain ⟨rfl, rfl, e134⟩ := hQ134
  have N134 : Fr Z.heap.size L134 := by rw [l134]; exact Fr.app N132 (Fr.nil _)
  refine Go.tr st134 ?_
  show Go p e below _ (T134.setTop (mkF m 174 #[.val (.int len), .val (.int bits), .val (.int (4 : Int32)), .val (.int b0), .val (.int b1), .val (.int b2), .val (.int b3), .val (.ref b101), .val (.ref b_115), .val (.ref b_132), .unset, .unset] [(.int (1 : Int32))]))
  refine Go.st (fun t' k' => XS.ifYes X134.here hx rfl (pc0 := 174) (pc' := 179) rfl (hb hby at_174) rfl ((if0 _ _).trans (feq (by decide : ¬ ((1 : Int32) = (0 : Int32)))).2) (by decide) (by decide) k') ?_
  show Go p e below _ (T134.setTop (mkF m 179 #[.val (.int len), .val (.int bits), .val (.int (4 : Int32)), .val (.int b0), .val (.int b1), .val (.int b2), .val (.int b3), .val (.ref b101), .val (.ref b_115), .val (.ref b_132), .unset, .unset] []))
  refine Go.st (fun t' k' => XS.aload X134.here hx rfl (hb hby at_179) rfl rfl k') ?_
  show Go p e below _ (T134.setTop (mkF m 181 #[.val (.int len), .val (.int bits), .val (.int (4 : Int32)), .val (.int b0), .val (.int b1), .val (.int b2), .val (.int b3), .val (.ref b101), .val (.ref b_115), .val (.ref b_132), .unset, .unset] [(.ref b_132)]))
  obtain ⟨cq135, kq135, q135a, q135b, q135c⟩ := isOf hZ115 e134 Eb_132
  obtain ⟨_, _, ⟨T135, L135, k135, n135⟩, -, X135, ⟨Lc135, hQ135, l135, y135, z135⟩, st135⟩ := X134.virtualBack hx (y := (⟨"java/util/Optional", "get", "()Ljava/lang/Object;"⟩ : MethodName)) (z := (⟨"java/util/Optional", "get", "()Ljava/lang/Object;"⟩ : MethodName)) hown115 (mvT hZ115 (hw _ (List.mem_of_getElem? (i := 94) rfl))) (mvT hZ115 (hw _ (List.mem_of_getElem? (i := 95) rfl))) (notFace_of_selects (args := #[]) (mvT hZ115 (hw _ (List.mem_of_getElem? (i := 97) rfl)))) (mvT hZ115 (hw _ (List.mem_of_getElem? (i := 97) rfl))) (mvT hZ115 (hw _ (List.mem_of_getElem? (i := 96) rfl))) (by decide) (backOf (W := 0) (rmGet l Z a0 hw [] b_132 u_132 T132.heap O132 Pv_132) hZ115 (hw _ (List.mem_of_getElem? (i := 98) rfl)) (hw _ (List.mem_of_getElem? (i := 50) rfl)) (by decide) (by decide)) q135a q135c (g := (mkF m 181 #[.val (.int len), .val (.int bits), .val (.int (4 : Int32)), .val (.int b0), .val (.int b1), .val (.int b2), .val (.int b3), .val (.ref b101), .val (.ref b_115), .val (.ref b_132), .unset, .unset] [(.ref b_132)])) rfl (by rw [hml]; rfl) (Steps.refl _) (argsL := []) (rest := []) (lenOf pd___Ljava_lang_Object_ rfl) rfl (by show 2 * 0 + _ ≤ _; exact Nat.le_of_eq rfl) (hb hby at_181) (fun _ _ => ⟨rfl, e134, (by decide : 8 + 0 ≤ _), (by decide : 58 + 0 ≤ _)⟩)
  dsimp only [Pt.U, Pt.locs, Pt.cells, Pt.slots] at X135 l135 y135 z135 st135 hQ135
  subst y135 z135
  obtain ⟨rfl, rfl, e135⟩ := hQ135
  have N135 : Fr Z.heap.size L135 := by rw [l135]; exact Fr.app N134 (Fr.nil _)
  refine Go.tr st135 ?_
  show Go p e below _ (T135.setTop (mkF m 184 #[.val (.int len), .val (.int bits), .val (.int (4 : Int32)), .val (.int b0), .val (.int b1), .val (.int b2), .val (.int b3), .val (.ref b101), .val (.ref b_115), .val (.ref b_132), .unset, .unset] [(.ref u_132)]))
  obtain ⟨T136, X136, e136, st136⟩ := castY X135 hx hZ115 hown115 (hw _ (List.mem_of_getElem? (i := 99) rfl)) e135 (Ins.self Eu_132) (g := (mkF m 184 #[.val (.int len), .val (.int bits), .val (.int (4 : Int32)), .val (.int b0), .val (.int b1), .val (.int b2), .val (.int b3), .val (.ref b101), .val (.ref b_115), .val (.ref b_132), .unset, .unset] [(.ref u_132)])) rfl rfl (hb hby at_184)
  refine Go.st st136 ?_
  show Go p e below _ (T136.setTop (mkF m 187 #[.val (.int len), .val (.int bits), .val (.int (4 : Int32)), .val (.int b0), .val (.int b1), .val (.int b2), .val (.int b3), .val (.ref b101), .val (.ref b_115), .val (.ref b_132), .unset, .unset] [(.ref u_132)]))
  refine Go.st (fun t' k' => XS.astore X136.here hx rfl (hb hby at_187) rfl rfl (l' := #[.val (.int len), .val (.int bits), .val (.int (4 : Int32)), .val (.int b0), .val (.int b1), .val (.int b2), .val (.int b3), .val (.ref b101), .val (.ref b_115), .val (.ref b_132), .val (.ref u_132), .unset]) rfl k') ?_
  show Go p e below _ (T136.setTop (mkF m 189 #[.val (.int len), .val (.int bits), .val (.int (4 : Int32)), .val (.int b0), .val (.int b1), .val (.int b2), .val (.int b3), .val (.ref b101), .val (.ref b_115), .val (.ref b_132), .val (.ref u_132), .unset] []))
  refine Go.st (fun t' k' => XS.aload X136.here hx rfl (hb hby at_189) rfl rfl k') ?_
  show Go p e below _ (T136.setTop (mkF m 191 #[.val (.int len), .val (.int bits), .val (.int (4 : Int32)), .val (.int b0), .val (.int b1), .val (.int b2), .val (.int b3), .val (.ref b101), .val (.ref b_115), .val (.ref b_132), .val (.ref u_132), .unset] [(.ref u_132)]))
  refine Go.st (fun t' k' => XS.aload X136.here hx rfl (hb hby at_191) rfl rfl k') ?_
  show Go p e below _ (T136.setTop (mkF m 193 #[.val (.int len), .val (.int bits), .val (.int (4 : Int32)), .val (.int b0), .val (.int b1), .val (.int b2), .val (.int b3), .val (.ref b101), .val (.ref b_115), .val (.ref b_132), .val (.ref u_132), .unset] [(.ref b101), (.ref u_132)]))
  refine Go.st (fun t' k' => Jvm.RoadKit.acmp (g := (mkF m 193 #[.val (.int len), .val (.int bits), .val (.int (4 : Int32)), .val (.int b0), .val (.int b1), .val (.int b2), .val (.int b3), .val (.ref b101), .val (.ref b_115), .val (.ref b_132), .val (.ref u_132), .unset] [(.ref b101), (.ref u_132)])) X136 hx rfl rfl rfl (pc0 := 193) (pc' := 198) (same := false) rfl (hb hby at_193) rfl (decide_eq_false fun q => (Ne.symm ne_b101_u_132) (Value.ref.inj q)) (by decide) (by decide) k') ?_
  show Go p e below _ (T136.setTop (mkF m 198 #[.val (.int len), .val (.int bits), .val (.int (4 : Int32)), .val (.int b0), .val (.int b1), .val (.int b2), .val (.int b3), .val (.ref b101), .val (.ref b_115), .val (.ref b_132), .val (.ref u_132), .unset] []))
  refine Go.st (fun t' k' => XS.aload X136.here hx rfl (hb hby at_198) rfl rfl k') ?_
  show Go p e below _ (T136.setTop (mkF m 200 #[.val (.int len), .val (.int bits), .val (.int (4 : Int32)), .val (.int b0), .val (.int b1), .val (.int b2), .val (.int b3), .val (.ref b101), .val (.ref b_115), .val (.ref b_132), .val (.ref u_132), .unset] [(.ref u_132)]))
  refine Go.st (fun t' k' => XS.iloadN X136.here hx rfl (hb hby at_200) rfl k') ?_
  show Go p e below _ (T136.setTop (mkF m 201 #[.val (.int len), .val (.int bits), .val (.int (4 : Int32)), .val (.int b0), .val (.int b1), .val (.int b2), .val (.int b3), .val (.ref b101), .val (.ref b_115), .val (.ref b_132), .val (.ref u_132), .unset] [(.int (4 : Int32)), (.ref u_132)]))
  refine Go.st (fun t' k' => XS.iloadN X136.here hx rfl (hb hby at_201) rfl k') ?_
  show Go p e below _ (T136.setTop (mkF m 202 #[.val (.int len), .val (.int bits), .val (.int (4 : Int32)), .val (.int b0), .val (.int b1), .val (.int b2), .val (.int b3), .val (.ref b101), .val (.ref b_115), .val (.ref b_132), .val (.ref u_132), .unset] [(.int b0), (.int (4 : Int32)), (.ref u_132)]))
  refine Go.st (fun t' k' => XS.iload X136.here hx rfl (hb hby at_202) rfl k') ?_
  show Go p e below _ (T136.setTop (mkF m 204 #[.val (.int len), .val (.int bits), .val (.int (4 : Int32)), .val (.int b0), .val (.int b1), .val (.int b2), .val (.int b3), .val (.ref b101), .val (.ref b_115), .val (.ref b_132), .val (.ref u_132), .unset] [(.int b1), (.int b0), (.int (4 : Int32)), (.ref u_132)]))
  refine Go.st (fun t' k' => XS.iload X136.here hx rfl (hb hby at_204) rfl k') ?_
  show Go p e below _ (T136.setTop (mkF m 206 #[.val (.int len), .val (.int bits), .val (.int (4 : Int32)), .val (.int b0), .val (.int b1), .val (.int b2), .val (.int b3), .val (.ref b101), .val (.ref b_115), .val (.ref b_132), .val (.ref u_132), .unset] [(.int b2), (.int b1), (.int b0), (.int (4 : Int32)), (.ref u_132)]))
  refine Go.st (fun t' k' => XS.iload X136.here hx rfl (hb hby at_206) rfl k') ?_
  show Go p e below _ (T136.setTop (mkF m 208 #[.val (.int len), .val (.int bits), .val (.int (4 : Int32)), .val (.int b0), .val (.int b1), .val (.int b2), .val (.int b3), .val (.ref b101), .val (.ref b_115), .val (.ref b_132), .val (.ref u_132), .unset] [(.int b3), (.int b2), (.int b1), (.int b0), (.int (4 : Int32)), (.ref u_132)]))
  obtain ⟨_, _, ⟨T137, L137, k137, n137⟩, -, X137, ⟨Lc137, hQ137, l137, y137, z137⟩, st137⟩ := Jvm.LawKit.callS X136 hx (y := (⟨"com/example/claim/claim/model/VerificationResultAcceptedPinLaw", "same", "([BIBBBB)Z"⟩ : MethodName)) hown115 (mvT hZ115 (hw _ (List.mem_of_getElem? (i := 100) rfl))) (mvT hZ115 (hw _ (List.mem_of_getElem? (i := 101) rfl))) (mvT hZ115 (hw _ (List.mem_of_getElem? (i := 102) rfl))) (mvT hZ115 (hw _ (List.mem_of_getElem? (i := 103) rfl))) (by decide) (backOf (W := 0) (rmSm4 l Z a0 hw [] u_132 b0 b1 b2 b3 k101 T132.heap O132 Au_132) hZ115 (hw _ (List.mem_of_getElem? (i := 103) rfl)) (hw _ (List.mem_of_getElem? (i := 102) rfl)) (by decide) (by decide)) (g := (mkF m 208 #[.val (.int len), .val (.int bits), .val (.int (4 : Int32)), .val (.int b0), .val (.int b1), .val (.int b2), .val (.int b3), .val (.ref b101), .val (.ref b_115), .val (.ref b_132), .val (.ref u_132), .unset] [(.int b3), (.int b2), (.int b1), (.int b0), (.int (4 : Int32)), (.ref u_132)])) rfl (by rw [hml]; rfl) (argsL := [(.ref u_132), (.int (4 : Int32)), (.int b0), (.int b1), (.int b2), (.int b3)]) (rest := []) (lenOf pd___BIBBBB_Z rfl) rfl (by show 2 * 0 + _ ≤ _; exact Nat.le_of_eq rfl) (hb hby at_208) (fun _ _ => ⟨rfl, e136, (by decide : 8 + 0 ≤ _), (by decide : 58 + 0 ≤ _)⟩)
  dsimp only [Pt.U, Pt.locs, Pt.cells, Pt.slots] at X137 l137 y137 z137 st137 hQ137
  subst y137 z137
  obtain ⟨rfl, rfl, e137⟩ := hQ137
  have N137 : Fr Z.heap.size L137 := by rw [l137]; exact Fr.app N135 (Fr.nil _)
  refine Go.st st137 ?_
  show Go p e below _ (T137.setTop (mkF m 211 #[.val (.int len), .val (.int bits), .val (.int (4 : Int32)), .val (.int b0), .val (.int b1), .val (.int b2), .val (.int b3), .val (.ref b101), .val (.ref b_115), .val (.ref b_132), .val (.ref u_132), .unset] [(.int (1 : Int32))]))
  refine Go.st (fun t' k' => XS.ifYes X137.here hx rfl (pc0 := 211) (pc' := 216) rfl (hb hby at_211) rfl ((if0 _ _).trans (feq (by decide : ¬ ((1 : Int32) = (0 : Int32)))).2) (by decide) (by decide) k') ?_
  show Go p e below _ (T137.setTop (mkF m 216 #[.val (.int len), .val (.int bits), .val (.int (4 : Int32)), .val (.int b0), .val (.int b1), .val (.int b2), .val (.int b3), .val (.ref b101), .val (.ref b_115), .val (.ref b_132), .val (.ref u_132), .unset] []))
  refine Go.st (fun t' k' => XS.iloadN X137.here hx rfl (hb hby at_216) rfl k') ?_
  show Go p e below _ (T137.setTop (mkF m 217 #[.val (.int len), .val (.int bits), .val (.int (4 : Int32)), .val (.int b0), .val (.int b1), .val (.int b2), .val (.int b3), .val (.ref b101), .val (.ref b_115), .val (.ref b_132), .val (.ref u_132), .unset] [(.int (4 : Int32))]))
  refine Go.st (fun t' k' => XS.ifNo X137.here hx rfl (hb hby at_217) rfl ((if0 _ _).trans (tlt (by decide : (0 : Int32) < (4 : Int32))).2.2.2) k') ?_
  show Go p e below _ (T137.setTop (mkF m 220 #[.val (.int len), .val (.int bits), .val (.int (4 : Int32)), .val (.int b0), .val (.int b1), .val (.int b2), .val (.int b3), .val (.ref b101), .val (.ref b_115), .val (.ref b_132), .val (.ref u_132), .unset] []))
  refine Go.st (fun t' k' => XS.aload X137.here hx rfl (hb hby at_220) rfl rfl k') ?_
  show Go p e below _ (T137.setTop (mkF m 222 #[.val (.int len), .val (.int bits), .val (.int (4 : Int32)), .val (.int b0), .val (.int b1), .val (.int b2), .val (.int b3), .val (.ref b101), .val (.ref b_115), .val (.ref b_132), .val (.ref u_132), .unset] [(.ref u_132)]))
  refine Go.st (fun t' k' => XS.iconst X137.here hx rfl (hb hby at_222) k') ?_
  show Go p e below _ (T137.setTop (mkF m 223 #[.val (.int len), .val (.int bits), .val (.int (4 : Int32)), .val (.int b0), .val (.int b1), .val (.int b2), .val (.int b3), .val (.ref b101), .val (.ref b_115), .val (.ref b_132), .val (.ref u_132), .unset] [(.int (0 : Int32)), (.ref u_132)]))
  refine Go.st (fun t' k' => XS.iloadN X137.here hx rfl (hb hby at_223) rfl k') ?_
  show Go p e below _ (T137.setTop (mkF m 224 #[.val (.int len), .val (.int bits), .val (.int (4 : Int32)), .val (.int b0), .val (.int b1), .val (.int b2), .val (.int b3), .val (.ref b101), .val (.ref b_115), .val (.ref b_132), .val (.ref u_132), .unset] [(.int b0), (.int (0 : Int32)), (.ref u_132)]))
  refine Go.st (fun t' k' => XS.iconst X137.here hx rfl (hb hby at_224) k') ?_
  show Go p e below _ (T137.setTop (mkF m 225 #[.val (.int len), .val (.int bits), .val (.int (4 : Int32)), .val (.int b0), .val (.int b1), .val (.int b2), .val (.int b3), .val (.ref b101), .val (.ref b_115), .val (.ref b_132), .val (.ref u_132), .unset] [(.int (-1 : Int32)), (.int b0), (.int (0 : Int32)), (.ref u_132)]))
  refine Go.st (fun t' k' => XS.ixor X137.here hx rfl (hb hby at_225) rfl k') ?_
  show Go p e below _ (T137.setTop (mkF m 226 #[.val (.int len), .val (.int bits), .val (.int (4 : Int32)), .val (.int b0), .val (.int b1), .val (.int b2), .val (.int b3), .val (.ref b101), .val (.ref b_115), .val (.ref b_132), .val (.ref u_132), .unset] [(.int (b0 ^^^ (-1 : Int32))), (.int (0 : Int32)), (.ref u_132)]))
  refine Go.st (fun t' k' => XS.i2b X137.here hx rfl (hb hby at_226) rfl k') ?_
  show Go p e below _ (T137.setTop (mkF m 227 #[.val (.int len), .val (.int bits), .val (.int (4 : Int32)), .val (.int b0), .val (.int b1), .val (.int b2), .val (.int b3), .val (.ref b101), .val (.ref b_115), .val (.ref b_132), .val (.ref u_132), .unset] [(.int ((b0 ^^^ (-1 : Int32)).toInt8.toInt32)), (.int (0 : Int32)), (.ref u_132)]))
  obtain ⟨cls138, Ars138, qs138, Szs138, Nzs138, Hss138, Gss138⟩ := (id Au_132)
  have hins138 : ¬ ((0 : Int32) < 0 ∨ cls138.slots.size ≤ ((0 : Int32)).toNatClampNeg) := inb_of Szs138 ⟨by decide, by decide⟩
  obtain ⟨T139, h139, X139, e139, W139, st139⟩ := stB X137 hx hZ115 e137 Ars138 (j := (0 : Int32)) hins138 (g := (mkF m 227 #[.val (.int len), .val (.int bits), .val (.int (4 : Int32)), .val (.int b0), .val (.int b1), .val (.int b2), .val (.int b3), .val (.ref b101), .val (.ref b_115), .val (.ref b_132), .val (.ref u_132), .unset] [(.int ((b0 ^^^ (-1 : Int32)).toInt8.toInt32)), (.int (0 : Int32)), (.ref u_132)])) rfl rfl (hb hby at_227)
  refine Go.st st139 ?_
  have V_u_132_139 : Arv Z h139 u_132 k101 .byte (4 : Int32) [(.int ((b0 ^^^ (-1 : Int32)).toInt8.toInt32).toInt8.toInt32), (.int b1), (.int b2), (.int b3)] (.int (0 : Int32)) := own_set (vs := [(.int b0), (.int b1), (.int b2), (.int b3)]) (v' := (.int ((b0 ^^^ (-1 : Int32)).toInt8.toInt32).toInt8.toInt32)) Ars138 qs138 Szs138 Nzs138 Hss138 Gss138 (fits_nar_byte _) W139 0 rfl (Nat.le_of_ble_eq_true rfl) rfl rfl
  have Q101_h140 := Q101_h133.wr W139
  have Eb_115_h140 := Eb_115_h133.wr W139
  have Pp_115_h140 := Pp_115_h133.other W139 (Or.inl ne_b_115_u_132)
  have Pq_115_h140 := Pq_115_h133.other W139 (Or.inl ne_b_115_u_132)
  have Eq__115_h140 := Eq__115_h133.wr W139
  have Aq_115_h140 := Aq_115_h133.other W139 ne_q_115_u_132
  have V_b101_127_h140 := V_b101_127_h133.other W139 ne_b101_u_132
  have Eb_132_h140 := Eb_132.wr W139
  have Pv_132_h140 := Pv_132.other W139 (Or.inl Nbu_132)
  have Eu_132_h140 := Eu_132.wr W139
  have hk139 := Nat.le_trans hk132 (Keep.of_wr W139).1
  have O139 := own_ext_wr O132 W139 Gu_132
  have N139 := Fr.snoc X139 N137 Gu_132
  show Go p e below _ (T139.setTop (mkF m 228 #[.val (.int len), .val (.int bits), .val (.int (4 : Int32)), .val (.int b0), .val (.int b1), .val (.int b2), .val (.int b3), .val (.ref b101), .val (.ref b_115), .val (.ref b_132), .val (.ref u_132), .unset] []))
  refine Go.st (fun t' k' => XS.iloadN X139.here hx rfl (hb hby at_228) rfl k') ?_
  show Go p e below _ (T139.setTop (mkF m 229 #[.val (.int len), .val (.int bits), .val (.int (4 : Int32)), .val (.int b0), .val (.int b1), .val (.int b2), .val (.int b3), .val (.ref b101), .val (.ref b_115), .val (.ref b_132), .val (.ref u_132), .unset] [(.int (4 : Int32))]))
  refine Go.st (fun t' k' => XS.iconst X139.here hx rfl (hb hby at_229) k') ?_
  show Go p e below _ (T139.setTop (mkF m 230 #[.val (.int len), .val (.int bits), .val (.int (4 : Int32)), .val (.int b0), .val (.int b1), .val (.int b2), .val (.int b3), .val (.ref b101), .val (.ref b_115), .val (.ref b_132), .val (.ref u_132), .unset] [(.int (1 : Int32)), (.int (4 : Int32))]))
  refine Go.st (fun t' k' => XS.icmpNo X139.here hx rfl (hb hby at_230) rfl (tlt (by decide : (1 : Int32) < (4 : Int32))).2.2.2 k') ?_
  show Go p e below _ (T139.setTop (mkF m 233 #[.val (.int len), .val (.int bits), .val (.int (4 : Int32)), .val (.int b0), .val (.int b1), .val (.int b2), .val (.int b3), .val (.ref b101), .val (.ref b_115), .val (.ref b_132), .val (.ref u_132), .unset] []))
  refine Go.st (fun t' k' => XS.aload X139.here hx rfl (hb hby at_233) rfl rfl k') ?_
  show Go p e below _ (T139.setTop (mkF m 235 #[.val (.int len), .val (.int bits), .val (.int (4 : Int32)), .val (.int b0), .val (.int b1), .val (.int b2), .val (.int b3), .val (.ref b101), .val (.ref b_115), .val (.ref b_132), .val (.ref u_132), .unset] [(.ref u_132)]))
  refine Go.st (fun t' k' => XS.iconst X139.here hx rfl (hb hby at_235) k') ?_
  show Go p e below _ (T139.setTop (mkF m 236 #[.val (.int len), .val (.int bits), .val (.int (4 : Int32)), .val (.int b0), .val (.int b1), .val (.int b2), .val (.int b3), .val (.ref b101), .val (.ref b_115), .val (.ref b_132), .val (.ref u_132), .unset] [(.int (1 : Int32)), (.ref u_132)]))
  refine Go.st (fun t' k' => XS.iload X139.here hx rfl (hb hby at_236) rfl k') ?_
  show Go p e below _ (T139.setTop (mkF m 238 #[.val (.int len), .val (.int bits), .val (.int (4 : Int32)), .val (.int b0), .val (.int b1), .val (.int b2), .val (.int b3), .val (.ref b101), .val (.ref b_115), .val (.ref b_132), .val (.ref u_132), .unset] [(.int b1), (.int (1 : Int32)), (.ref u_132)]))
  refine Go.st (fun t' k' => XS.iconst X139.here hx rfl (hb hby at_238) k') ?_
  show Go p e below _ (T139.setTop (mkF m 239 #[.val (.int len), .val (.int bits), .val (.int (4 : Int32)), .val (.int b0), .val (.int b1), .val (.int b2), .val (.int b3), .val (.ref b101), .val (.ref b_115), .val (.ref b_132), .val (.ref u_132), .unset] [(.int (-1 : Int32)), (.int b1), (.int (1 : Int32)), (.ref u_132)]))
  refine Go.st (fun t' k' => XS.ixor X139.here hx rfl (hb hby at_239) rfl k') ?_
  show Go p e below _ (T139.setTop (mkF m 240 #[.val (.int len), .val (.int bits), .val (.int (4 : Int32)), .val (.int b0), .val (.int b1), .val (.int b2), .val (.int b3), .val (.ref b101), .val (.ref b_115), .val (.ref b_132), .val (.ref u_132), .unset] [(.int (b1 ^^^ (-1 : Int32))), (.int (1 : Int32)), (.ref u_132)]))
  refine Go.st (fun t' k' => XS.i2b X139.here hx rfl (hb hby at_240) rfl k') ?_
  show Go p e below _ (T139.setTop (mkF m 241 #[.val (.int len), .val (.int bits), .val (.int (4 : Int32)), .val (.int b0), .val (.int b1), .val (.int b2), .val (.int b3), .val (.ref b101), .val (.ref b_115), .val (.ref b_132), .val (.ref u_132), .unset] [(.int ((b1 ^^^ (-1 : Int32)).toInt8.toInt32)), (.int (1 : Int32)), (.ref u_132)]))
  obtain ⟨cls141, Ars141, qs141, Szs141, Nzs141, Hss141, Gss141⟩ := (id V_u_132_139)
  have hins141 : ¬ ((1 : Int32) < 0 ∨ cls141.slots.size ≤ ((1 : Int32)).toNatClampNeg) := inb_of Szs141 ⟨by decide, by decide⟩
  obtain ⟨T142, h142, X142, e142, W142, st142⟩ := stB X139 hx hZ115 e139 Ars141 (j := (1 : Int32)) hins141 (g := (mkF m 241 #[.val (.int len), .val (.int bits), .val (.int (4 : Int32)), .val (.int b0), .val (.int b1), .val (.int b2), .val (.int b3), .val (.ref b101), .val (.ref b_115), .val (.ref b_132), .val (.ref u_132), .unset] [(.int ((b1 ^^^ (-1 : Int32)).toInt8.toInt32)), (.int (1 : Int32)), (.ref u_132)])) rfl rfl (hb hby at_241)
  refine Go.st st142 ?_
  have V_u_132_142 : Arv Z h142 u_132 k101 .byte (4 : Int32) [(.int ((b0 ^^^ (-1 : Int32)).toInt8.toInt32).toInt8.toInt32), (.int ((b1 ^^^ (-1 : Int32)).toInt8.toInt32).toInt8.toInt32), (.int b2), (.int b3)] (.int (0 : Int32)) := own_set (vs := [(.int ((b0 ^^^ (-1 : Int32)).toInt8.toInt32).toInt8.toInt32), (.int b1), (.int b2), (.int b3)]) (v' := (.int ((b1 ^^^ (-1 : Int32)).toInt8.toInt32).toInt8.toInt32)) Ars141 qs141 Szs141 Nzs141 Hss141 Gss141 (fits_nar_byte _) W142 1 rfl (Nat.le_of_ble_eq_true rfl) rfl rfl
  have Q101_h143 := Q101_h140.wr W142
  have Eb_115_h143 := Eb_115_h140.wr W142
  have Pp_115_h143 := Pp_115_h140.other W142 (Or.inl ne_b_115_u_132)
  have Pq_115_h143 := Pq_115_h140.other W142 (Or.inl ne_b_115_u_132)
  have Eq__115_h143 := Eq__115_h140.wr W142
  have Aq_115_h143 := Aq_115_h140.other W142 ne_q_115_u_132
  have V_b101_127_h143 := V_b101_127_h140.other W142 ne_b101_u_132
  have Eb_132_h143 := Eb_132_h140.wr W142
  have Pv_132_h143 := Pv_132_h140.other W142 (Or.inl Nbu_132)
  have Eu_132_h143 := Eu_132_h140.wr W142
  have hk142 := Nat.le_trans hk139 (Keep.of_wr W142).1
  have O142 := own_ext_wr O139 W142 Gu_132
  have N142 := Fr.snoc X142 N139 Gu_132
  show Go p e below _ (T142.setTop (mkF m 242 #[.val (.int len), .val (.int bits), .val (.int (4 : Int32)), .val (.int b0), .val (.int b1), .val (.int b2), .val (.int b3), .val (.ref b101), .val (.ref b_115), .val (.ref b_132), .val (.ref u_132), .unset] []))
  refine Go.st (fun t' k' => XS.iloadN X142.here hx rfl (hb hby at_242) rfl k') ?_
  show Go p e below _ (T142.setTop (mkF m 243 #[.val (.int len), .val (.int bits), .val (.int (4 : Int32)), .val (.int b0), .val (.int b1), .val (.int b2), .val (.int b3), .val (.ref b101), .val (.ref b_115), .val (.ref b_132), .val (.ref u_132), .unset] [(.int (4 : Int32))]))
  refine Go.st (fun t' k' => XS.iconst X142.here hx rfl (hb hby at_243) k') ?_
  show Go p e below _ (T142.setTop (mkF m 244 #[.val (.int len), .val (.int bits), .val (.int (4 : Int32)), .val (.int b0), .val (.int b1), .val (.int b2), .val (.int b3), .val (.ref b101), .val (.ref b_115), .val (.ref b_132), .val (.ref u_132), .unset] [(.int (2 : Int32)), (.int (4 : Int32))]))
  refine Go.st (fun t' k' => XS.icmpNo X142.here hx rfl (hb hby at_244) rfl (tlt (by decide : (2 : Int32) < (4 : Int32))).2.2.2 k') ?_
  show Go p e below _ (T142.setTop (mkF m 247 #[.val (.int len), .val (.int bits), .val (.int (4 : Int32)), .val (.int b0), .val (.int b1), .val (.int b2), .val (.int b3), .val (.ref b101), .val (.ref b_115), .val (.ref b_132), .val (.ref u_132), .unset] []))
  refine Go.st (fun t' k' => XS.aload X142.here hx rfl (hb hby at_247) rfl rfl k') ?_
  show Go p e below _ (T142.setTop (mkF m 249 #[.val (.int len), .val (.int bits), .val (.int (4 : Int32)), .val (.int b0), .val (.int b1), .val (.int b2), .val (.int b3), .val (.ref b101), .val (.ref b_115), .val (.ref b_132), .val (.ref u_132), .unset] [(.ref u_132)]))
  refine Go.st (fun t' k' => XS.iconst X142.here hx rfl (hb hby at_249) k') ?_
  show Go p e below _ (T142.setTop (mkF m 250 #[.val (.int len), .val (.int bits), .val (.int (4 : Int32)), .val (.int b0), .val (.int b1), .val (.int b2), .val (.int b3), .val (.ref b101), .val (.ref b_115), .val (.ref b_132), .val (.ref u_132), .unset] [(.int (2 : Int32)), (.ref u_132)]))
  refine Go.st (fun t' k' => XS.iload X142.here hx rfl (hb hby at_250) rfl k') ?_
  show Go p e below _ (T142.setTop (mkF m 252 #[.val (.int len), .val (.int bits), .val (.int (4 : Int32)), .val (.int b0), .val (.int b1), .val (.int b2), .val (.int b3), .val (.ref b101), .val (.ref b_115), .val (.ref b_132), .val (.ref u_132), .unset] [(.int b2), (.int (2 : Int32)), (.ref u_132)]))
  refine Go.st (fun t' k' => XS.iconst X142.here hx rfl (hb hby at_252) k') ?_
  show Go p e below _ (T142.setTop (mkF m 253 #[.val (.int len), .val (.int bits), .val (.int (4 : Int32)), .val (.int b0), .val (.int b1), .val (.int b2), .val (.int b3), .val (.ref b101), .val (.ref b_115), .val (.ref b_132), .val (.ref u_132), .unset] [(.int (-1 : Int32)), (.int b2), (.int (2 : Int32)), (.ref u_132)]))
  refine Go.st (fun t' k' => XS.ixor X142.here hx rfl (hb hby at_253) rfl k') ?_
  show Go p e below _ (T142.setTop (mkF m 254 #[.val (.int len), .val (.int bits), .val (.int (4 : Int32)), .val (.int b0), .val (.int b1), .val (.int b2), .val (.int b3), .val (.ref b101), .val (.ref b_115), .val (.ref b_132), .val (.ref u_132), .unset] [(.int (b2 ^^^ (-1 : Int32))), (.int (2 : Int32)), (.ref u_132)]))
  refine Go.st (fun t' k' => XS.i2b X142.here hx rfl (hb hby at_254) rfl k') ?_
  show Go p e below _ (T142.setTop (mkF m 255 #[.val (.int len), .val (.int bits), .val (.int (4 : Int32)), .val (.int b0), .val (.int b1), .val (.int b2), .val (.int b3), .val (.ref b101), .val (.ref b_115), .val (.ref b_132), .val (.ref u_132), .unset] [(.int ((b2 ^^^ (-1 : Int32)).toInt8.toInt32)), (.int (2 : Int32)), (.ref u_132)]))
  obtain ⟨cls144, Ars144, qs144, Szs144, Nzs144, Hss144, Gss144⟩ := (id V_u_132_142)
  have hins144 : ¬ ((2 : Int32) < 0 ∨ cls144.slots.size ≤ ((2 : Int32)).toNatClampNeg) := inb_of Szs144 ⟨by decide, by decide⟩
  obtain ⟨T145, h145, X145, e145, W145, st145⟩ := stB X142 hx hZ115 e142 Ars144 (j := (2 : Int32)) hins144 (g := (mkF m 255 #[.val (.int len), .val (.int bits), .val (.int (4 : Int32)), .val (.int b0), .val (.int b1), .val (.int b2), .val (.int b3), .val (.ref b101), .val (.ref b_115), .val (.ref b_132), .val (.ref u_132), .unset] [(.int ((b2 ^^^ (-1 : Int32)).toInt8.toInt32)), (.int (2 : Int32)), (.ref u_132)])) rfl rfl (hb hby at_255)
  refine Go.st st145 ?_
  have V_u_132_145 : Arv Z h145 u_132 k101 .byte (4 : Int32) [(.int ((b0 ^^^ (-1 : Int32)).toInt8.toInt32).toInt8.toInt32), (.int ((b1 ^^^ (-1 : Int32)).toInt8.toInt32).toInt8.toInt32), (.int ((b2 ^^^ (-1 : Int32)).toInt8.toInt32).toInt8.toInt32), (.int b3)] (.int (0 : Int32)) := own_set (vs := [(.int ((b0 ^^^ (-1 : Int32)).toInt8.toInt32).toInt8.toInt32), (.int ((b1 ^^^ (-1 : Int32)).toInt8.toInt32).toInt8.toInt32), (.int b2), (.int b3)]) (v' := (.int ((b2 ^^^ (-1 : Int32)).toInt8.toInt32).toInt8.toInt32)) Ars144 qs144 Szs144 Nzs144 Hss144 Gss144 (fits_nar_byte _) W145 2 rfl (Nat.le_of_ble_eq_true rfl) rfl rfl
  have Q101_h146 := Q101_h143.wr W145
  have Eb_115_h146 := Eb_115_h143.wr W145
  have Pp_115_h146 := Pp_115_h143.other W145 (Or.inl ne_b_115_u_132)
  have Pq_115_h146 := Pq_115_h143.other W145 (Or.inl ne_b_115_u_132)
  have Eq__115_h146 := Eq__115_h143.wr W145
  have Aq_115_h146 := Aq_115_h143.other W145 ne_q_115_u_132
  have V_b101_127_h146 := V_b101_127_h143.other W145 ne_b101_u_132
  have Eb_132_h146 := Eb_132_h143.wr W145
  have Pv_132_h146 := Pv_132_h143.other W145 (Or.inl Nbu_132)
  have Eu_132_h146 := Eu_132_h143.wr W145
  have hk145 := Nat.le_trans hk142 (Keep.of_wr W145).1
  have O145 := own_ext_wr O142 W145 Gu_132
  have N145 := Fr.snoc X145 N142 Gu_132
  show Go p e below _ (T145.setTop (mkF m 256 #[.val (.int len), .val (.int bits), .val (.int (4 : Int32)), .val (.int b0), .val (.int b1), .val (.int b2), .val (.int b3), .val (.ref b101), .val (.ref b_115), .val (.ref b_132), .val (.ref u_132), .unset] []))
  refine Go.st (fun t' k' => XS.iloadN X145.here hx rfl (hb hby at_256) rfl k') ?_
  show Go p e below _ (T145.setTop (mkF m 257 #[.val (.int len), .val (.int bits), .val (.int (4 : Int32)), .val (.int b0), .val (.int b1), .val (.int b2), .val (.int b3), .val (.ref b101), .val (.ref b_115), .val (.ref b_132), .val (.ref u_132), .unset] [(.int (4 : Int32))]))
  refine Go.st (fun t' k' => XS.iconst X145.here hx rfl (hb hby at_257) k') ?_
  show Go p e below _ (T145.setTop (mkF m 258 #[.val (.int len), .val (.int bits), .val (.int (4 : Int32)), .val (.int b0), .val (.int b1), .val (.int b2), .val (.int b3), .val (.ref b101), .val (.ref b_115), .val (.ref b_132), .val (.ref u_132), .unset] [(.int (3 : Int32)), (.int (4 : Int32))]))
  refine Go.st (fun t' k' => XS.icmpNo X145.here hx rfl (hb hby at_258) rfl (tlt (by decide : (3 : Int32) < (4 : Int32))).2.2.2 k') ?_
  show Go p e below _ (T145.setTop (mkF m 261 #[.val (.int len), .val (.int bits), .val (.int (4 : Int32)), .val (.int b0), .val (.int b1), .val (.int b2), .val (.int b3), .val (.ref b101), .val (.ref b_115), .val (.ref b_132), .val (.ref u_132), .unset] []))
  refine Go.st (fun t' k' => XS.aload X145.here hx rfl (hb hby at_261) rfl rfl k') ?_
  show Go p e below _ (T145.setTop (mkF m 263 #[.val (.int len), .val (.int bits), .val (.int (4 : Int32)), .val (.int b0), .val (.int b1), .val (.int b2), .val (.int b3), .val (.ref b101), .val (.ref b_115), .val (.ref b_132), .val (.ref u_132), .unset] [(.ref u_132)]))
  refine Go.st (fun t' k' => XS.iconst X145.here hx rfl (hb hby at_263) k') ?_
  show Go p e below _ (T145.setTop (mkF m 264 #[.val (.int len), .val (.int bits), .val (.int (4 : Int32)), .val (.int b0), .val (.int b1), .val (.int b2), .val (.int b3), .val (.ref b101), .val (.ref b_115), .val (.ref b_132), .val (.ref u_132), .unset] [(.int (3 : Int32)), (.ref u_132)]))
  refine Go.st (fun t' k' => XS.iload X145.here hx rfl (hb hby at_264) rfl k') ?_
  show Go p e below _ (T145.setTop (mkF m 266 #[.val (.int len), .val (.int bits), .val (.int (4 : Int32)), .val (.int b0), .val (.int b1), .val (.int b2), .val (.int b3), .val (.ref b101), .val (.ref b_115), .val (.ref b_132), .val (.ref u_132), .unset] [(.int b3), (.int (3 : Int32)), (.ref u_132)]))
  refine Go.st (fun t' k' => XS.iconst X145.here hx rfl (hb hby at_266) k') ?_
  show Go p e below _ (T145.setTop (mkF m 267 #[.val (.int len), .val (.int bits), .val (.int (4 : Int32)), .val (.int b0), .val (.int b1), .val (.int b2), .val (.int b3), .val (.ref b101), .val (.ref b_115), .val (.ref b_132), .val (.ref u_132), .unset] [(.int (-1 : Int32)), (.int b3), (.int (3 : Int32)), (.ref u_132)]))
  refine Go.st (fun t' k' => XS.ixor X145.here hx rfl (hb hby at_267) rfl k') ?_
  show Go p e below _ (T145.setTop (mkF m 268 #[.val (.int len), .val (.int bits), .val (.int (4 : Int32)), .val (.int b0), .val (.int b1), .val (.int b2), .val (.int b3), .val (.ref b101), .val (.ref b_115), .val (.ref b_132), .val (.ref u_132), .unset] [(.int (b3 ^^^ (-1 : Int32))), (.int (3 : Int32)), (.ref u_132)]))
  refine Go.st (fun t' k' => XS.i2b X145.here hx rfl (hb hby at_268) rfl k') ?_
  show Go p e below _ (T145.setTop (mkF m 269 #[.val (.int len), .val (.int bits), .val (.int (4 : Int32)), .val (.int b0), .val (.int b1), .val (.int b2), .val (.int b3), .val (.ref b101), .val (.ref b_115), .val (.ref b_132), .val (.ref u_132), .unset] [(.int ((b3 ^^^ (-1 : Int32)).toInt8.toInt32)), (.int (3 : Int32)), (.ref u_132)]))
  obtain ⟨cls147, Ars147, qs147, Szs147, Nzs147, Hss147, Gss147⟩ := (id V_u_132_145)
  have hins147 : ¬ ((3 : Int32) < 0 ∨ cls147.slots.size ≤ ((3 : Int32)).toNatClampNeg) := inb_of Szs147 ⟨by decide, by decide⟩
  obtain ⟨T148, h148, X148, e148, W148, st148⟩ := stB X145 hx hZ115 e145 Ars147 (j := (3 : Int32)) hins147 (g := (mkF m 269 #[.val (.int len), .val (.int bits), .val (.int (4 : Int32)), .val (.int b0), .val (.int b1), .val (.int b2), .val (.int b3), .val (.ref b101), .val (.ref b_115), .val (.ref b_132), .val (.ref u_132), .unset] [(.int ((b3 ^^^ (-1 : Int32)).toInt8.toInt32)), (.int (3 : Int32)), (.ref u_132)])) rfl rfl (hb hby at_269)
  refine Go.st st148 ?_
  have V_u_132_148 : Arv Z h148 u_132 k101 .byte (4 : Int32) [(.int ((b0 ^^^ (-1 : Int32)).toInt8.toInt32).toInt8.toInt32), (.int ((b1 ^^^ (-1 : Int32)).toInt8.toInt32).toInt8.toInt32), (.int ((b2 ^^^ (-1 : Int32)).toInt8.toInt32).toInt8.toInt32), (.int ((b3 ^^^ (-1 : Int32)).toInt8.toInt32).toInt8.toInt32)] (.int (0 : Int32)) := own_set (vs := [(.int ((b0 ^^^ (-1 : Int32)).toInt8.toInt32).toInt8.toInt32), (.int ((b1 ^^^ (-1 : Int32)).toInt8.toInt32).toInt8.toInt32), (.int ((b2 ^^^ (-1 : Int32)).toInt8.toInt32).toInt8.toInt32), (.int b3)]) (v' := (.int ((b3 ^^^ (-1 : Int32)).toInt8.toInt32).toInt8.toInt32)) Ars147 qs147 Szs147 Nzs147 Hss147 Gss147 (fits_nar_byte _) W148 3 rfl (Nat.le_of_ble_eq_true rfl) rfl rfl
  have Q101_h149 := Q101_h146.wr W148
  have Eb_115_h149 := Eb_115_h146.wr W148
  have Pp_115_h149 := Pp_115_h146.other W148 (Or.inl ne_b_115_u_132)
  have Pq_115_h149 := Pq_115_h146.other W148 (Or.inl ne_b_115_u_132)
  have Eq__115_h149 := Eq__115_h146.wr W148
  have Aq_115_h149 := Aq_115_h146.other W148 ne_q_115_u_132
  have V_b101_127_h149 := V_b101_127_h146.other W148 ne_b101_u_132
  have Eb_132_h149 := Eb_132_h146.wr W148
  have Pv_132_h149 := Pv_132_h146.other W148 (Or.inl Nbu_132)
  have Eu_132_h149 := Eu_132_h146.wr W148
  have hk148 := Nat.le_trans hk145 (Keep.of_wr W148).1
  have O148 := own_ext_wr O145 W148 Gu_132
  have N148 := Fr.snoc X148 N145 Gu_132
  show Go p e below _ (T148.setTop (mkF m 270 #[.val (.int len), .val (.int bits), .val (.int (4 : Int32)), .val (.int b0), .val (.int b1), .val (.int b2), .val (.int b3), .val (.ref b101), .val (.ref b_115), .val (.ref b_132), .val (.ref u_132), .unset] []))
  refine Go.st (fun t' k' => XS.aload X148.here hx rfl (hb hby at_270) rfl rfl k') ?_
  show Go p e below _ (T148.setTop (mkF m 272 #[.val (.int len), .val (.int bits), .val (.int (4 : Int32)), .val (.int b0), .val (.int b1), .val (.int b2), .val (.int b3), .val (.ref b101), .val (.ref b_115), .val (.ref b_132), .val (.ref u_132), .unset] [(.ref b_115)]))
  obtain ⟨cq150, kq150, q150a, q150b, q150c⟩ := isOf hZ115 e148 Eb_115_h149
  obtain ⟨_, _, ⟨T150, L150, k150, n150⟩, -, X150, ⟨Lc150, hQ150, l150, y150, z150⟩, st150⟩ := X148.virtualBack hx (y := (⟨"com/example/claim/claim/model/VerificationResult", "payload", "()Ljava/util/Optional;"⟩ : MethodName)) (z := (⟨"com/example/claim/claim/model/VerificationResult", "payload", "()Ljava/util/Optional;"⟩ : MethodName)) hown115 (mvT hZ115 (hw _ (List.mem_of_getElem? (i := 60) rfl))) (mvT hZ115 (hw _ (List.mem_of_getElem? (i := 61) rfl))) (notFace_of_selects (args := #[]) (mvT hZ115 (hw _ (List.mem_of_getElem? (i := 63) rfl)))) (mvT hZ115 (hw _ (List.mem_of_getElem? (i := 63) rfl))) (mvT hZ115 (hw _ (List.mem_of_getElem? (i := 62) rfl))) (by decide) (backOf (W := 0) (rmPl l Z a0 hw [] b_115 q_115 k101 ((4 : Int32)) ([(.int b0), (.int b1), (.int b2), (.int b3)]) h148 O148 Pp_115_h149 Eq__115_h149 Aq_115_h149 (by decide)) hZ115 (hw _ (List.mem_of_getElem? (i := 64) rfl)) (hw _ (List.mem_of_getElem? (i := 4) rfl)) (by decide) (by decide)) q150a q150c (g := (mkF m 272 #[.val (.int len), .val (.int bits), .val (.int (4 : Int32)), .val (.int b0), .val (.int b1), .val (.int b2), .val (.int b3), .val (.ref b101), .val (.ref b_115), .val (.ref b_132), .val (.ref u_132), .unset] [(.ref b_115)])) rfl (by rw [hml]; rfl) (Steps.refl _) (argsL := []) (rest := []) (lenOf pd___Ljava_util_Optional_ rfl) rfl (by show 2 * 0 + _ ≤ _; exact Nat.le_of_eq rfl) (hb hby at_272) (fun _ _ => ⟨rfl, e148, (by decide : 8 + 3 ≤ _), (by decide : 58 + 6 ≤ _)⟩)
  dsimp only [Pt.U, Pt.locs, Pt.cells, Pt.slots] at X150 l150 y150 z150 st150 hQ150
  subst y150 z150
  obtain ⟨b_150, u_150, rfl, N150q, O150, Kc150, Eb_150, Pv_150, Eu_150, Au_150, Gb_150, Gu_150, Sb_150, Su_150, Nbu_150⟩ := hQ150
  have N150 : Fr Z.heap.size L150 := by rw [l150]; exact Fr.app N148 N150q
  refine Go.tr st150 ?_
  have hk150 := Nat.le_trans hk148 Kc150.1
  have Q101_h151 := Q101_h149.keep Kc150
  have Eb_115_h151 := Eb_115_h149.keep Kc150
  have Pp_115_h151 := Pp_115_h149.keep Kc150 nin0
  have Pq_115_h151 := Pq_115_h149.keep Kc150 nin0
  have Eq__115_h151 := Eq__115_h149.keep Kc150
  have Aq_115_h151 := Aq_115_h149.keep Kc150 nin0
  have V_b101_127_h151 := V_b101_127_h149.keep Kc150 nin0
  have Eb_132_h151 := Eb_132_h149.keep Kc150
  have Pv_132_h151 := Pv_132_h149.keep Kc150 nin0
  have Eu_132_h151 := Eu_132_h149.keep Kc150
  have V_u_132_148_h151 := V_u_132_148.keep Kc150 nin0
  have ne_w_EMPTY_b_150 : w_EMPTY ≠ b_150 := Nat.ne_of_lt (Nat.lt_of_lt_of_le (E_EMPTY.ext O148).lt Sb_150)
  have ne_b101_b_150 : b101 ≠ b_150 := Nat.ne_of_lt (Nat.lt_of_lt_of_le Q101_h149.lt Sb_150)
  have ne_b_115_b_150 : b_115 ≠ b_150 := Nat.ne_of_lt (Nat.lt_of_lt_of_le Eb_115_h149.lt Sb_150)
  have ne_q_115_b_150 : q_115 ≠ b_150 := Nat.ne_of_lt (Nat.lt_of_lt_of_le Eq__115_h149.lt Sb_150)
  have ne_b_132_b_150 : b_132 ≠ b_150 := Nat.ne_of_lt (Nat.lt_of_lt_of_le Eb_132_h149.lt Sb_150)
  have ne_u_132_b_150 : u_132 ≠ b_150 := Nat.ne_of_lt (Nat.lt_of_lt_of_le Eu_132_h149.lt Sb_150)
  have ne_w_EMPTY_u_150 : w_EMPTY ≠ u_150 := Nat.ne_of_lt (Nat.lt_of_lt_of_le (E_EMPTY.ext O148).lt Su_150)
  have ne_b101_u_150 : b101 ≠ u_150 := Nat.ne_of_lt (Nat.lt_of_lt_of_le Q101_h149.lt Su_150)
  have ne_b_115_u_150 : b_115 ≠ u_150 := Nat.ne_of_lt (Nat.lt_of_lt_of_le Eb_115_h149.lt Su_150)
  have ne_q_115_u_150 : q_115 ≠ u_150 := Nat.ne_of_lt (Nat.lt_of_lt_of_le Eq__115_h149.lt Su_150)
  have ne_b_132_u_150 : b_132 ≠ u_150 := Nat.ne_of_lt (Nat.lt_of_lt_of_le Eb_132_h149.lt Su_150)
  have ne_u_132_u_150 : u_132 ≠ u_150 := Nat.ne_of_lt (Nat.lt_of_lt_of_le Eu_132_h149.lt Su_150)
  show Go p e below _ (T150.setTop (mkF m 275 #[.val (.int len), .val (.int bits), .val (.int (4 : Int32)), .val (.int b0), .val (.int b1), .val (.int b2), .val (.int b3), .val (.ref b101), .val (.ref b_115), .val (.ref b_132), .val (.ref u_132), .unset] [(.ref b_150)]))
  refine Go.st (fun t' k' => XS.astore X150.here hx rfl (hb hby at_275) rfl rfl (l' := #[.val (.int len), .val (.int bits), .val (.int (4 : Int32)), .val (.int b0), .val (.int b1), .val (.int b2), .val (.int b3), .val (.ref b101), .val (.ref b_115), .val (.ref b_132), .val (.ref u_132), .val (.ref b_150)]) rfl k') ?_
  show Go p e below _ (T150.setTop (mkF m 277 #[.val (.int len), .val (.int bits), .val (.int (4 : Int32)), .val (.int b0), .val (.int b1), .val (.int b2), .val (.int b3), .val (.ref b101), .val (.ref b_115), .val (.ref b_132), .val (.ref u_132), .val (.ref b_150)] []))
  refine Go.st (fun t' k' => XS.aload X150.here hx rfl (hb hby at_277) rfl rfl k') ?_
  show Go p e below _ (T150.setTop (mkF m 279 #[.val (.int len), .val (.int bits), .val (.int (4 : Int32)), .val (.int b0), .val (.int b1), .val (.int b2), .val (.int b3), .val (.ref b101), .val (.ref b_115), .val (.ref b_132), .val (.ref u_132), .val (.ref b_150)] [(.ref b_150)]))
  obtain ⟨cq152, kq152, q152a, q152b, q152c⟩ := isOf hZ115 rfl Eb_150
  obtain ⟨_, _, ⟨T152, L152, k152, n152⟩, -, X152, ⟨Lc152, hQ152, l152, y152, z152⟩, st152⟩ := X150.virtualBack hx (y := (⟨"java/util/Optional", "isPresent", "()Z"⟩ : MethodName)) (z := (⟨"java/util/Optional", "isPresent", "()Z"⟩ : MethodName)) hown115 (mvT hZ115 (hw _ (List.mem_of_getElem? (i := 53) rfl))) (mvT hZ115 (hw _ (List.mem_of_getElem? (i := 54) rfl))) (notFace_of_selects (args := #[]) (mvT hZ115 (hw _ (List.mem_of_getElem? (i := 56) rfl)))) (mvT hZ115 (hw _ (List.mem_of_getElem? (i := 56) rfl))) (mvT hZ115 (hw _ (List.mem_of_getElem? (i := 55) rfl))) (by decide) (backOf (W := 0) (rmIs1 l Z a0 hw [] b_150 u_150 T150.heap O150 Pv_150) hZ115 (hw _ (List.mem_of_getElem? (i := 57) rfl)) (hw _ (List.mem_of_getElem? (i := 50) rfl)) (by decide) (by decide)) q152a q152c (g := (mkF m 279 #[.val (.int len), .val (.int bits), .val (.int (4 : Int32)), .val (.int b0), .val (.int b1), .val (.int b2), .val (.int b3), .val (.ref b101), .val (.ref b_115), .val (.ref b_132), .val (.ref u_132), .val (.ref b_150)] [(.ref b_150)])) rfl (by rw [hml]; rfl) (Steps.refl _) (argsL := []) (rest := []) (lenOf pd___Z rfl) rfl (by show 2 * 0 + _ ≤ _; exact Nat.le_of_eq rfl) (hb hby at_279) (fun _ _ => ⟨rfl, rfl, (by decide : 11 + 0 ≤ _), (by decide : 64 + 0 ≤ _)⟩)
  dsimp only [Pt.U, Pt.locs, Pt.cells, Pt.slots] at X152 l152 y152 z152 st152 hQ152
  subst y152 z152
  obtain ⟨rfl, rfl, e152⟩ := hQ152
  have N152 : Fr Z.heap.size L152 := by rw [l152]; exact Fr.app N150 (Fr.nil _)
  refine Go.tr st152 ?_
  show Go p e below _ (T152.setTop (mkF m 282 #[.val (.int len), .val (.int bits), .val (.int (4 : Int32)), .val (.int b0), .val (.int b1), .val (.int b2), .val (.int b3), .val (.ref b101), .val (.ref b_115), .val (.ref b_132), .val (.ref u_132), .val (.ref b_150)] [(.int (1 : Int32))]))
  refine Go.st (fun t' k' => XS.ifYes X152.here hx rfl (pc0 := 282) (pc' := 287) rfl (hb hby at_282) rfl ((if0 _ _).trans (feq (by decide : ¬ ((1 : Int32) = (0 : Int32)))).2) (by decide) (by decide) k') ?_
  show Go p e below _ (T152.setTop (mkF m 287 #[.val (.int len), .val (.int bits), .val (.int (4 : Int32)), .val (.int b0), .val (.int b1), .val (.int b2), .val (.int b3), .val (.ref b101), .val (.ref b_115), .val (.ref b_132), .val (.ref u_132), .val (.ref b_150)] []))
  refine Go.st (fun t' k' => XS.aload X152.here hx rfl (hb hby at_287) rfl rfl k') ?_
  show Go p e below _ (T152.setTop (mkF m 289 #[.val (.int len), .val (.int bits), .val (.int (4 : Int32)), .val (.int b0), .val (.int b1), .val (.int b2), .val (.int b3), .val (.ref b101), .val (.ref b_115), .val (.ref b_132), .val (.ref u_132), .val (.ref b_150)] [(.ref b_150)]))
  obtain ⟨cq153, kq153, q153a, q153b, q153c⟩ := isOf hZ115 e152 Eb_150
  obtain ⟨_, _, ⟨T153, L153, k153, n153⟩, -, X153, ⟨Lc153, hQ153, l153, y153, z153⟩, st153⟩ := X152.virtualBack hx (y := (⟨"java/util/Optional", "get", "()Ljava/lang/Object;"⟩ : MethodName)) (z := (⟨"java/util/Optional", "get", "()Ljava/lang/Object;"⟩ : MethodName)) hown115 (mvT hZ115 (hw _ (List.mem_of_getElem? (i := 94) rfl))) (mvT hZ115 (hw _ (List.mem_of_getElem? (i := 95) rfl))) (notFace_of_selects (args := #[]) (mvT hZ115 (hw _ (List.mem_of_getElem? (i := 97) rfl)))) (mvT hZ115 (hw _ (List.mem_of_getElem? (i := 97) rfl))) (mvT hZ115 (hw _ (List.mem_of_getElem? (i := 96) rfl))) (by decide) (backOf (W := 0) (rmGet l Z a0 hw [] b_150 u_150 T150.heap O150 Pv_150) hZ115 (hw _ (List.mem_of_getElem? (i := 98) rfl)) (hw _ (List.mem_of_getElem? (i := 50) rfl)) (by decide) (by decide)) q153a q153c (g := (mkF m 289 #[.val (.int len), .val (.int bits), .val (.int (4 : Int32)), .val (.int b0), .val (.int b1), .val (.int b2), .val (.int b3), .val (.ref b101), .val (.ref b_115), .val (.ref b_132), .val (.ref u_132), .val (.ref b_150)] [(.ref b_150)])) rfl (by rw [hml]; rfl) (Steps.refl _) (argsL := []) (rest := []) (lenOf pd___Ljava_lang_Object_ rfl) rfl (by show 2 * 0 + _ ≤ _; exact Nat.le_of_eq rfl) (hb hby at_289) (fun _ _ => ⟨rfl, e152, (by decide : 11 + 0 ≤ _), (by decide : 64 + 0 ≤ _)⟩)
  dsimp only [Pt.U, Pt.locs, Pt.cells, Pt.slots] at X153 l153 y153 z153 st153 hQ153
  subst y153 z153
  obtain ⟨rfl, rfl, e153⟩ := hQ153
  have N153 : Fr Z.heap.size L153 := by rw [l153]; exact Fr.app N152 (Fr.nil _)
  refine Go.tr st153 ?_
  show Go p e below _ (T153.setTop (mkF m 292 #[.val (.int len), .val (.int bits), .val (.int (4 : Int32)), .val (.int b0), .val (.int b1), .val (.int b2), .val (.int b3), .val (.ref b101), .val (.ref b_115), .val (.ref b_132), .val (.ref u_132), .val (.ref b_150)] [(.ref u_150)]))
  obtain ⟨T154, X154, e154, st154⟩ := castY X153 hx hZ115 hown115 (hw _ (List.mem_of_getElem? (i := 99) rfl)) e153 (Ins.self Eu_150) (g := (mkF m 292 #[.val (.int len), .val (.int bits), .val (.int (4 : Int32)), .val (.int b0), .val (.int b1), .val (.int b2), .val (.int b3), .val (.ref b101), .val (.ref b_115), .val (.ref b_132), .val (.ref u_132), .val (.ref b_150)] [(.ref u_150)])) rfl rfl (hb hby at_292)
  refine Go.st st154 ?_
  show Go p e below _ (T154.setTop (mkF m 295 #[.val (.int len), .val (.int bits), .val (.int (4 : Int32)), .val (.int b0), .val (.int b1), .val (.int b2), .val (.int b3), .val (.ref b101), .val (.ref b_115), .val (.ref b_132), .val (.ref u_132), .val (.ref b_150)] [(.ref u_150)]))
  refine Go.st (fun t' k' => XS.iloadN X154.here hx rfl (hb hby at_295) rfl k') ?_
  show Go p e below _ (T154.setTop (mkF m 296 #[.val (.int len), .val (.int bits), .val (.int (4 : Int32)), .val (.int b0), .val (.int b1), .val (.int b2), .val (.int b3), .val (.ref b101), .val (.ref b_115), .val (.ref b_132), .val (.ref u_132), .val (.ref b_150)] [(.int (4 : Int32)), (.ref u_150)]))
  refine Go.st (fun t' k' => XS.iloadN X154.here hx rfl (hb hby at_296) rfl k') ?_
  show Go p e below _ (T154.setTop (mkF m 297 #[.val (.int len), .val (.int bits), .val (.int (4 : Int32)), .val (.int b0), .val (.int b1), .val (.int b2), .val (.int b3), .val (.ref b101), .val (.ref b_115), .val (.ref b_132), .val (.ref u_132), .val (.ref b_150)] [(.int b0), (.int (4 : Int32)), (.ref u_150)]))
  refine Go.st (fun t' k' => XS.iload X154.here hx rfl (hb hby at_297) rfl k') ?_
  show Go p e below _ (T154.setTop (mkF m 299 #[.val (.int len), .val (.int bits), .val (.int (4 : Int32)), .val (.int b0), .val (.int b1), .val (.int b2), .val (.int b3), .val (.ref b101), .val (.ref b_115), .val (.ref b_132), .val (.ref u_132), .val (.ref b_150)] [(.int b1), (.int b0), (.int (4 : Int32)), (.ref u_150)]))
  refine Go.st (fun t' k' => XS.iload X154.here hx rfl (hb hby at_299) rfl k') ?_
  show Go p e below _ (T154.setTop (mkF m 301 #[.val (.int len), .val (.int bits), .val (.int (4 : Int32)), .val (.int b0), .val (.int b1), .val (.int b2), .val (.int b3), .val (.ref b101), .val (.ref b_115), .val (.ref b_132), .val (.ref u_132), .val (.ref b_150)] [(.int b2), (.int b1), (.int b0), (.int (4 : Int32)), (.ref u_150)]))
  refine Go.st (fun t' k' => XS.iload X154.here hx rfl (hb hby at_301) rfl k') ?_
  show Go p e below _ (T154.setTop (mkF m 303 #[.val (.int len), .val (.int bits), .val (.int (4 : Int32)), .val (.int b0), .val (.int b1), .val (.int b2), .val (.int b3), .val (.ref b101), .val (.ref b_115), .val (.ref b_132), .val (.ref u_132), .val (.ref b_150)] [(.int b3), (.int b2), (.int b1), (.int b0), (.int (4 : Int32)), (.ref u_150)]))
  obtain ⟨_, _, ⟨T155, L155, k155, n155⟩, -, X155, ⟨Lc155, hQ155, l155, y155, z155⟩, st155⟩ := Jvm.LawKit.callS X154 hx (y := (⟨"com/example/claim/claim/model/VerificationResultAcceptedPinLaw", "same", "([BIBBBB)Z"⟩ : MethodName)) hown115 (mvT hZ115 (hw _ (List.mem_of_getElem? (i := 100) rfl))) (mvT hZ115 (hw _ (List.mem_of_getElem? (i := 101) rfl))) (mvT hZ115 (hw _ (List.mem_of_getElem? (i := 102) rfl))) (mvT hZ115 (hw _ (List.mem_of_getElem? (i := 103) rfl))) (by decide) (backOf (W := 0) (rmSm4 l Z a0 hw [] u_150 b0 b1 b2 b3 k101 T150.heap O150 Au_150) hZ115 (hw _ (List.mem_of_getElem? (i := 103) rfl)) (hw _ (List.mem_of_getElem? (i := 102) rfl)) (by decide) (by decide)) (g := (mkF m 303 #[.val (.int len), .val (.int bits), .val (.int (4 : Int32)), .val (.int b0), .val (.int b1), .val (.int b2), .val (.int b3), .val (.ref b101), .val (.ref b_115), .val (.ref b_132), .val (.ref u_132), .val (.ref b_150)] [(.int b3), (.int b2), (.int b1), (.int b0), (.int (4 : Int32)), (.ref u_150)])) rfl (by rw [hml]; rfl) (argsL := [(.ref u_150), (.int (4 : Int32)), (.int b0), (.int b1), (.int b2), (.int b3)]) (rest := []) (lenOf pd___BIBBBB_Z rfl) rfl (by show 2 * 0 + _ ≤ _; exact Nat.le_of_eq rfl) (hb hby at_303) (fun _ _ => ⟨rfl, e154, (by decide : 11 + 0 ≤ _), (by decide : 64 + 0 ≤ _)⟩)
  dsimp only [Pt.U, Pt.locs, Pt.cells, Pt.slots] at X155 l155 y155 z155 st155 hQ155
  subst y155 z155
  obtain ⟨rfl, rfl, e155⟩ := hQ155
  have N155 : Fr Z.heap.size L155 := by rw [l155]; exact Fr.app N153 (Fr.nil _)
  refine Go.st st155 ?_
  show Go p e below _ (T155.setTop (mkF m 306 #[.val (.int len), .val (.int bits), .val (.int (4 : Int32)), .val (.int b0), .val (.int b1), .val (.int b2), .val (.int b3), .val (.ref b101), .val (.ref b_115), .val (.ref b_132), .val (.ref u_132), .val (.ref b_150)] [(.int (1 : Int32))]))
  exact Go.outW X155 hS115 (by rw [e155]; exact hk150) (v := (some (.int (1 : Int32)))) (fun h => by rw [hret] at h; cases h) hlk (fun fs hr => retN X155 hx (t := .boolean) hret (by simp) (hb hby at_306) hr) (Q := Q_rm0 Z len bits w_EMPTY h0) (by rw [e155]; exact ⟨rfl, N155⟩) (by decide) (by decide)
theorem ef_rm0 (m : MethodId) (x0 : Int32) (x1 : Int32) : entryFrame m #[(.int x0), (.int x1)] maxLocals = mkF m 0 #[.val (.int x0), .val (.int x1), .unset, .unset, .unset, .unset, .unset, .unset, .unset, .unset, .unset, .unset] [] := by first | (simp [entryFrame, mkF, argsToLocals, Value.category, maxLocals]; done) | rfl
set_option maxRecDepth 65536 in
set_option maxHeartbeats 40000000 in
theorem rm0 (l : Launch) (Z : State) (a0 : Array Value) (hw : ∀ d ∈ tables_1, d.before a0 Z = true) (ws : List Jvm.Cond) (len : Int32) (bits : Int32) (w_EMPTY : Addr) (h0 : Heap) (O0 : Ext Z.heap h0) (S_EMPTY : Sta Z Z.heap "java/util/Optional" "EMPTY" "Ljava/util/Optional;" (.ref w_EMPTY)) (E_EMPTY : Exa Z Z.heap w_EMPTY "java/util/Optional") (F_EMPTY_value : Fld Z Z.heap w_EMPTY "java/util/Optional" "value" "Ljava/lang/Object;" .null) :
    MetFree l x (head1 (Jvm.Cond.code x code maxLocals ret :: ws) room_1) (fun av' U => av' = #[(.int len), (.int bits)] ∧ Z.Warmed39 U.vm ∧ U.heap = h0) (fun _ _ _ _ _ => True) (fun _ U o U' => ∃ v L, o = .returned v ∧ Q_rm0 Z len bits w_EMPTY h0 v U'.heap L ∧ ReturnedEndW U o U' L room_1.cells room_1.slots) := by
  refine MetFree.of_bodySF (plainFor_of_name pn_com_example_claim_claim_model_VerificationResultAcceptedPinLaw) hisR ?_
  intro p e s m args below meth c s₁ Bd hml0 hP hK
  obtain ⟨rfl, hZ, hh⟩ := hP
  have hx := Bd.exec
  have hby := Bd.bytes
  have hret := Bd.returns
  have hlk : meth.locks = false := Bd.notSynchronized
  have hml : c.maxLocals = 12 := hml0
  have hown : s.vm.findClass "com/example/claim/claim/model/VerificationResultAcceptedPinLaw" = some m.cls := findClass_of_methodNamed Bd.named
  have hnm := (name_of_methodNamed Bd.named Bd.method).1
  have X0 : Stand p l e room_1 (s.setVm s.vm) m #[(.int len), (.int bits)] below meth c s₁ [] 0 0 := Stand.of_body Bd
  have hS0 : s.Since s.vm s.heap.size := (State.WarmedH.refl s).since _
  have hk0 : s.heap.size ≤ h0.size := Nat.le_of_eq (by rw [hh])
  -- the walk
  have e0 : s₁.heap = h0 := by rw [← hh, Bd.state]; rfl
  have N0 := Fr.nil Z.heap.size
  show Go p e below (GOW s (Q_rm0 Z len bits w_EMPTY h0) room_1.cells room_1.slots) (s₁.setTop (entryFrame m #[(.int len), (.int bits)] maxLocals))
  refine Go.st (fun t' k' => castTop (ef_rm0 m len bits) k') ?_
  show Go p e below _ (s₁.setTop (mkF m 0 #[.val (.int len), .val (.int bits), .unset, .unset, .unset, .unset, .unset, .unset, .unset, .unset, .unset, .unset] []))
  refine Go.st (fun t' k' => XS.iloadN X0.here hx rfl (hb hby at_0) rfl k') ?_
  show Go p e below _ (s₁.setTop (mkF m 1 #[.val (.int len), .val (.int bits), .unset, .unset, .unset, .unset, .unset, .unset, .unset, .unset, .unset, .unset] [(.int len)]))
  refine Go.st (X0.ldcInt hx hown (mvT hZ (hw _ (List.mem_of_getElem? (i := 0) rfl))) (g := (mkF m 1 #[.val (.int len), .val (.int bits), .unset, .unset, .unset, .unset, .unset, .unset, .unset, .unset, .unset, .unset] [(.int len)])) rfl (hb hby at_1)) ?_
  show Go p e below _ (s₁.setTop (mkF m 3 #[.val (.int len), .val (.int bits), .unset, .unset, .unset, .unset, .unset, .unset, .unset, .unset, .unset, .unset] [(.int (2147483647 : Int32)), (.int len)]))
  refine Go.st (fun t' k' => XS.iand X0.here hx rfl (hb hby at_3) rfl k') ?_
  show Go p e below _ (s₁.setTop (mkF m 4 #[.val (.int len), .val (.int bits), .unset, .unset, .unset, .unset, .unset, .unset, .unset, .unset, .unset, .unset] [(.int (len &&& (2147483647 : Int32)))]))
  refine Go.st (fun t' k' => XS.iconst X0.here hx rfl (hb hby at_4) k') ?_
  show Go p e below _ (s₁.setTop (mkF m 5 #[.val (.int len), .val (.int bits), .unset, .unset, .unset, .unset, .unset, .unset, .unset, .unset, .unset, .unset] [(.int (5 : Int32)), (.int (len &&& (2147483647 : Int32)))]))
  refine Go.st (fun t' k' => Jvm.RoadKit.iremM (g := (mkF m 5 #[.val (.int len), .val (.int bits), .unset, .unset, .unset, .unset, .unset, .unset, .unset, .unset, .unset, .unset] [(.int (5 : Int32)), (.int (len &&& (2147483647 : Int32)))])) X0 hx rfl (hb hby at_5) rfl (by decide) k') ?_
  show Go p e below _ (s₁.setTop (mkF m 6 #[.val (.int len), .val (.int bits), .unset, .unset, .unset, .unset, .unset, .unset, .unset, .unset, .unset, .unset] [(.int ((len &&& (2147483647 : Int32)) % (5 : Int32)))]))
  refine Go.st (fun t' k' => XS.istoreN X0.here hx rfl (hb hby at_6) rfl (l' := #[.val (.int len), .val (.int bits), .val (.int ((len &&& (2147483647 : Int32)) % (5 : Int32))), .unset, .unset, .unset, .unset, .unset, .unset, .unset, .unset, .unset]) rfl k') ?_
  show Go p e below _ (s₁.setTop (mkF m 7 #[.val (.int len), .val (.int bits), .val (.int ((len &&& (2147483647 : Int32)) % (5 : Int32))), .unset, .unset, .unset, .unset, .unset, .unset, .unset, .unset, .unset] []))
  refine Go.st (fun t' k' => XS.iloadN X0.here hx rfl (hb hby at_7) rfl k') ?_
  show Go p e below _ (s₁.setTop (mkF m 8 #[.val (.int len), .val (.int bits), .val (.int ((len &&& (2147483647 : Int32)) % (5 : Int32))), .unset, .unset, .unset, .unset, .unset, .unset, .unset, .unset, .unset] [(.int bits)]))
  refine Go.st (fun t' k' => XS.i2b X0.here hx rfl (hb hby at_8) rfl k') ?_
  show Go p e below _ (s₁.setTop (mkF m 9 #[.val (.int len), .val (.int bits), .val (.int ((len &&& (2147483647 : Int32)) % (5 : Int32))), .unset, .unset, .unset, .unset, .unset, .unset, .unset, .unset, .unset] [(.int (bits.toInt8.toInt32))]))
  refine Go.st (fun t' k' => XS.istoreN X0.here hx rfl (hb hby at_9) rfl (l' := #[.val (.int len), .val (.int bits), .val (.int ((len &&& (2147483647 : Int32)) % (5 : Int32))), .val (.int (bits.toInt8.toInt32)), .unset, .unset, .unset, .unset, .unset, .unset, .unset, .unset]) rfl k') ?_
  show Go p e below _ (s₁.setTop (mkF m 10 #[.val (.int len), .val (.int bits), .val (.int ((len &&& (2147483647 : Int32)) % (5 : Int32))), .val (.int (bits.toInt8.toInt32)), .unset, .unset, .unset, .unset, .unset, .unset, .unset, .unset] []))
  refine Go.st (fun t' k' => XS.iloadN X0.here hx rfl (hb hby at_10) rfl k') ?_
  show Go p e below _ (s₁.setTop (mkF m 11 #[.val (.int len), .val (.int bits), .val (.int ((len &&& (2147483647 : Int32)) % (5 : Int32))), .val (.int (bits.toInt8.toInt32)), .unset, .unset, .unset, .unset, .unset, .unset, .unset, .unset] [(.int bits)]))
  refine Go.st (fun t' k' => XS.bipush X0.here hx rfl (hb hby at_11) k') ?_
  show Go p e below _ (s₁.setTop (mkF m 13 #[.val (.int len), .val (.int bits), .val (.int ((len &&& (2147483647 : Int32)) % (5 : Int32))), .val (.int (bits.toInt8.toInt32)), .unset, .unset, .unset, .unset, .unset, .unset, .unset, .unset] [(.int (8 : Int32)), (.int bits)]))
  refine Go.st (fun t' k' => XS.iushr X0.here hx rfl (hb hby at_13) rfl k') ?_
  show Go p e below _ (s₁.setTop (mkF m 14 #[.val (.int len), .val (.int bits), .val (.int ((len &&& (2147483647 : Int32)) % (5 : Int32))), .val (.int (bits.toInt8.toInt32)), .unset, .unset, .unset, .unset, .unset, .unset, .unset, .unset] [(.int ((bits.toUInt32 >>> ((8 : Int32) &&& 31).toUInt32).toInt32))]))
  refine Go.st (fun t' k' => XS.i2b X0.here hx rfl (hb hby at_14) rfl k') ?_
  show Go p e below _ (s₁.setTop (mkF m 15 #[.val (.int len), .val (.int bits), .val (.int ((len &&& (2147483647 : Int32)) % (5 : Int32))), .val (.int (bits.toInt8.toInt32)), .unset, .unset, .unset, .unset, .unset, .unset, .unset, .unset] [(.int (((bits.toUInt32 >>> ((8 : Int32) &&& 31).toUInt32).toInt32).toInt8.toInt32))]))
  refine Go.st (fun t' k' => XS.istore X0.here hx rfl (hb hby at_15) rfl (l' := #[.val (.int len), .val (.int bits), .val (.int ((len &&& (2147483647 : Int32)) % (5 : Int32))), .val (.int (bits.toInt8.toInt32)), .val (.int (((bits.toUInt32 >>> ((8 : Int32) &&& 31).toUInt32).toInt32).toInt8.toInt32)), .unset, .unset, .unset, .unset, .unset, .unset, .unset]) rfl k') ?_
  show Go p e below _ (s₁.setTop (mkF m 17 #[.val (.int len), .val (.int bits), .val (.int ((len &&& (2147483647 : Int32)) % (5 : Int32))), .val (.int (bits.toInt8.toInt32)), .val (.int (((bits.toUInt32 >>> ((8 : Int32) &&& 31).toUInt32).toInt32).toInt8.toInt32)), .unset, .unset, .unset, .unset, .unset, .unset, .unset] []))
  refine Go.st (fun t' k' => XS.iloadN X0.here hx rfl (hb hby at_17) rfl k') ?_
  show Go p e below _ (s₁.setTop (mkF m 18 #[.val (.int len), .val (.int bits), .val (.int ((len &&& (2147483647 : Int32)) % (5 : Int32))), .val (.int (bits.toInt8.toInt32)), .val (.int (((bits.toUInt32 >>> ((8 : Int32) &&& 31).toUInt32).toInt32).toInt8.toInt32)), .unset, .unset, .unset, .unset, .unset, .unset, .unset] [(.int bits)]))
  refine Go.st (fun t' k' => XS.bipush X0.here hx rfl (hb hby at_18) k') ?_
  show Go p e below _ (s₁.setTop (mkF m 20 #[.val (.int len), .val (.int bits), .val (.int ((len &&& (2147483647 : Int32)) % (5 : Int32))), .val (.int (bits.toInt8.toInt32)), .val (.int (((bits.toUInt32 >>> ((8 : Int32) &&& 31).toUInt32).toInt32).toInt8.toInt32)), .unset, .unset, .unset, .unset, .unset, .unset, .unset] [(.int (16 : Int32)), (.int bits)]))
  refine Go.st (fun t' k' => XS.iushr X0.here hx rfl (hb hby at_20) rfl k') ?_
  show Go p e below _ (s₁.setTop (mkF m 21 #[.val (.int len), .val (.int bits), .val (.int ((len &&& (2147483647 : Int32)) % (5 : Int32))), .val (.int (bits.toInt8.toInt32)), .val (.int (((bits.toUInt32 >>> ((8 : Int32) &&& 31).toUInt32).toInt32).toInt8.toInt32)), .unset, .unset, .unset, .unset, .unset, .unset, .unset] [(.int ((bits.toUInt32 >>> ((16 : Int32) &&& 31).toUInt32).toInt32))]))
  refine Go.st (fun t' k' => XS.i2b X0.here hx rfl (hb hby at_21) rfl k') ?_
  show Go p e below _ (s₁.setTop (mkF m 22 #[.val (.int len), .val (.int bits), .val (.int ((len &&& (2147483647 : Int32)) % (5 : Int32))), .val (.int (bits.toInt8.toInt32)), .val (.int (((bits.toUInt32 >>> ((8 : Int32) &&& 31).toUInt32).toInt32).toInt8.toInt32)), .unset, .unset, .unset, .unset, .unset, .unset, .unset] [(.int (((bits.toUInt32 >>> ((16 : Int32) &&& 31).toUInt32).toInt32).toInt8.toInt32))]))
  refine Go.st (fun t' k' => XS.istore X0.here hx rfl (hb hby at_22) rfl (l' := #[.val (.int len), .val (.int bits), .val (.int ((len &&& (2147483647 : Int32)) % (5 : Int32))), .val (.int (bits.toInt8.toInt32)), .val (.int (((bits.toUInt32 >>> ((8 : Int32) &&& 31).toUInt32).toInt32).toInt8.toInt32)), .val (.int (((bits.toUInt32 >>> ((16 : Int32) &&& 31).toUInt32).toInt32).toInt8.toInt32)), .unset, .unset, .unset, .unset, .unset, .unset]) rfl k') ?_
  show Go p e below _ (s₁.setTop (mkF m 24 #[.val (.int len), .val (.int bits), .val (.int ((len &&& (2147483647 : Int32)) % (5 : Int32))), .val (.int (bits.toInt8.toInt32)), .val (.int (((bits.toUInt32 >>> ((8 : Int32) &&& 31).toUInt32).toInt32).toInt8.toInt32)), .val (.int (((bits.toUInt32 >>> ((16 : Int32) &&& 31).toUInt32).toInt32).toInt8.toInt32)), .unset, .unset, .unset, .unset, .unset, .unset] []))
  refine Go.st (fun t' k' => XS.iloadN X0.here hx rfl (hb hby at_24) rfl k') ?_
  show Go p e below _ (s₁.setTop (mkF m 25 #[.val (.int len), .val (.int bits), .val (.int ((len &&& (2147483647 : Int32)) % (5 : Int32))), .val (.int (bits.toInt8.toInt32)), .val (.int (((bits.toUInt32 >>> ((8 : Int32) &&& 31).toUInt32).toInt32).toInt8.toInt32)), .val (.int (((bits.toUInt32 >>> ((16 : Int32) &&& 31).toUInt32).toInt32).toInt8.toInt32)), .unset, .unset, .unset, .unset, .unset, .unset] [(.int bits)]))
  refine Go.st (fun t' k' => XS.bipush X0.here hx rfl (hb hby at_25) k') ?_
  show Go p e below _ (s₁.setTop (mkF m 27 #[.val (.int len), .val (.int bits), .val (.int ((len &&& (2147483647 : Int32)) % (5 : Int32))), .val (.int (bits.toInt8.toInt32)), .val (.int (((bits.toUInt32 >>> ((8 : Int32) &&& 31).toUInt32).toInt32).toInt8.toInt32)), .val (.int (((bits.toUInt32 >>> ((16 : Int32) &&& 31).toUInt32).toInt32).toInt8.toInt32)), .unset, .unset, .unset, .unset, .unset, .unset] [(.int (24 : Int32)), (.int bits)]))
  refine Go.st (fun t' k' => XS.iushr X0.here hx rfl (hb hby at_27) rfl k') ?_
  show Go p e below _ (s₁.setTop (mkF m 28 #[.val (.int len), .val (.int bits), .val (.int ((len &&& (2147483647 : Int32)) % (5 : Int32))), .val (.int (bits.toInt8.toInt32)), .val (.int (((bits.toUInt32 >>> ((8 : Int32) &&& 31).toUInt32).toInt32).toInt8.toInt32)), .val (.int (((bits.toUInt32 >>> ((16 : Int32) &&& 31).toUInt32).toInt32).toInt8.toInt32)), .unset, .unset, .unset, .unset, .unset, .unset] [(.int ((bits.toUInt32 >>> ((24 : Int32) &&& 31).toUInt32).toInt32))]))
  refine Go.st (fun t' k' => XS.i2b X0.here hx rfl (hb hby at_28) rfl k') ?_
  show Go p e below _ (s₁.setTop (mkF m 29 #[.val (.int len), .val (.int bits), .val (.int ((len &&& (2147483647 : Int32)) % (5 : Int32))), .val (.int (bits.toInt8.toInt32)), .val (.int (((bits.toUInt32 >>> ((8 : Int32) &&& 31).toUInt32).toInt32).toInt8.toInt32)), .val (.int (((bits.toUInt32 >>> ((16 : Int32) &&& 31).toUInt32).toInt32).toInt8.toInt32)), .unset, .unset, .unset, .unset, .unset, .unset] [(.int (((bits.toUInt32 >>> ((24 : Int32) &&& 31).toUInt32).toInt32).toInt8.toInt32))]))
  refine Go.st (fun t' k' => XS.istore X0.here hx rfl (hb hby at_29) rfl (l' := #[.val (.int len), .val (.int bits), .val (.int ((len &&& (2147483647 : Int32)) % (5 : Int32))), .val (.int (bits.toInt8.toInt32)), .val (.int (((bits.toUInt32 >>> ((8 : Int32) &&& 31).toUInt32).toInt32).toInt8.toInt32)), .val (.int (((bits.toUInt32 >>> ((16 : Int32) &&& 31).toUInt32).toInt32).toInt8.toInt32)), .val (.int (((bits.toUInt32 >>> ((24 : Int32) &&& 31).toUInt32).toInt32).toInt8.toInt32)), .unset, .unset, .unset, .unset, .unset]) rfl k') ?_
  -- pc 31: behind the cut
  show Go p e below _ (s₁.setTop (mkF m 31 #[.val (.int len), .val (.int bits), .val (.int ((len &&& (2147483647 : Int32)) % (5 : Int32))), .val (.int (bits.toInt8.toInt32)), .val (.int (((bits.toUInt32 >>> ((8 : Int32) &&& 31).toUInt32).toInt32).toInt8.toInt32)), .val (.int (((bits.toUInt32 >>> ((16 : Int32) &&& 31).toUInt32).toInt32).toInt8.toInt32)), .val (.int (((bits.toUInt32 >>> ((24 : Int32) &&& 31).toUInt32).toInt32).toInt8.toInt32)), .unset, .unset, .unset, .unset, .unset] []))
  rcases own_five len with hn | hn | hn | hn | hn
  · rw [hn]
    exact blk0 Z a0 hw len bits w_EMPTY h0 S_EMPTY E_EMPTY F_EMPTY_value (bits.toInt8.toInt32) ((((bits.toUInt32 >>> ((8 : Int32) &&& 31).toUInt32).toInt32).toInt8.toInt32)) ((((bits.toUInt32 >>> ((16 : Int32) &&& 31).toUInt32).toInt32).toInt8.toInt32)) ((((bits.toUInt32 >>> ((24 : Int32) &&& 31).toUInt32).toInt32).toInt8.toInt32)) h0 (own_stand_mono X0 (by decide) (by decide)) hx hZ hby hml hown hret hlk e0 N0 O0 hS0 hk0 (own_i8 _) (own_i8 _) (own_i8 _) (own_i8 _)
  · rw [hn]
    exact blk1 Z a0 hw len bits w_EMPTY h0 S_EMPTY E_EMPTY F_EMPTY_value (bits.toInt8.toInt32) ((((bits.toUInt32 >>> ((8 : Int32) &&& 31).toUInt32).toInt32).toInt8.toInt32)) ((((bits.toUInt32 >>> ((16 : Int32) &&& 31).toUInt32).toInt32).toInt8.toInt32)) ((((bits.toUInt32 >>> ((24 : Int32) &&& 31).toUInt32).toInt32).toInt8.toInt32)) h0 (own_stand_mono X0 (by decide) (by decide)) hx hZ hby hml hown hret hlk e0 N0 O0 hS0 hk0 (own_i8 _) (own_i8 _) (own_i8 _) (own_i8 _)
  · rw [hn]
    exact blk2 Z a0 hw len bits w_EMPTY h0 S_EMPTY E_EMPTY F_EMPTY_value (bits.toInt8.toInt32) ((((bits.toUInt32 >>> ((8 : Int32) &&& 31).toUInt32).toInt32).toInt8.toInt32)) ((((bits.toUInt32 >>> ((16 : Int32) &&& 31).toUInt32).toInt32).toInt8.toInt32)) ((((bits.toUInt32 >>> ((24 : Int32) &&& 31).toUInt32).toInt32).toInt8.toInt32)) h0 (own_stand_mono X0 (by decide) (by decide)) hx hZ hby hml hown hret hlk e0 N0 O0 hS0 hk0 (own_i8 _) (own_i8 _) (own_i8 _) (own_i8 _)
  · rw [hn]
    exact blk3 Z a0 hw len bits w_EMPTY h0 S_EMPTY E_EMPTY F_EMPTY_value (bits.toInt8.toInt32) ((((bits.toUInt32 >>> ((8 : Int32) &&& 31).toUInt32).toInt32).toInt8.toInt32)) ((((bits.toUInt32 >>> ((16 : Int32) &&& 31).toUInt32).toInt32).toInt8.toInt32)) ((((bits.toUInt32 >>> ((24 : Int32) &&& 31).toUInt32).toInt32).toInt8.toInt32)) h0 (own_stand_mono X0 (by decide) (by decide)) hx hZ hby hml hown hret hlk e0 N0 O0 hS0 hk0 (own_i8 _) (own_i8 _) (own_i8 _) (own_i8 _)
  · rw [hn]
    exact blk4 Z a0 hw len bits w_EMPTY h0 S_EMPTY E_EMPTY F_EMPTY_value (bits.toInt8.toInt32) ((((bits.toUInt32 >>> ((8 : Int32) &&& 31).toUInt32).toInt32).toInt8.toInt32)) ((((bits.toUInt32 >>> ((16 : Int32) &&& 31).toUInt32).toInt32).toInt8.toInt32)) ((((bits.toUInt32 >>> ((24 : Int32) &&& 31).toUInt32).toInt32).toInt8.toInt32)) h0 (own_stand_mono X0 (by decide) (by decide)) hx hZ hby hml hown hret hlk e0 N0 O0 hS0 hk0 (own_i8 _) (own_i8 _) (own_i8 _) (own_i8 _)
set_option maxRecDepth 65536 in
set_option maxHeartbeats 40000000 in
theorem comes_1 {Post : Tables → Env → Array Value → State → Outcome → State → Prop} (hpost : ∀ tb e args s v u, (limb_1_1.after args s (.returned v) u = true ∧ limb_1_2.after args s (.returned v) u = true ∧ True) → ReturnedEndW s (.returned v) u (Jvm.fieldLocs frame_1_writes args s ++ Jvm.arrayLocs frame_1_arrays args s ++ Jvm.staticLocs frame_1_statics s) 32 1152 → Post tb e args s (.returned v) u) :
    ArmFor flags0 classFile x code maxLocals ret World_1 tables_1 room_1 Calls_1 rest_1 Pre_1 Post := by
  intro l hfl _ _ p e ha hc hk s m args below hf hA hF happ hP
  obtain ⟨hcalls, hrest, hpre⟩ := hP
  obtain ⟨-, -, -, hnamed, -, -, -, hat⟩ := (Spec.applies_iff hf).mp happ
  obtain ⟨hg, hn⟩ := and_e (Cond.before_iff.mp (show (Jvm.Cond.and given_1 narrow_1).before args s = true from hpre))
  obtain ⟨c1, c2⟩ := and_e hg
  obtain ⟨c3, c4⟩ := and_e c2
  obtain ⟨w0, w1, rfl⟩ : ∃ w0 w1 : Value, args = #[w0, w1] := by
    have hs : args.size = 2 := by simpa [Cond.value, given_1] using c1
    obtain ⟨L⟩ := args
    match L, hs with
    | [w0, w1], _ => exact ⟨w0, w1, rfl⟩
  have hw := fun d (hd : d ∈ tables_1) => atoms_spec (ws := Jvm.Cond.code x code maxLocals ret :: tables_1) hat d (List.mem_cons_of_mem _ hd)
  have hfit : Fit s := fun {y c} hc i hi => by
    obtain ⟨ha, rfl⟩ := Array.getElem?_eq_some_iff.mp hc
    have q := List.all_eq_true.mp ((Array.all_eq_true_iff_forall_mem.mp hF) _ (Array.getElem_mem ha)) i (List.mem_range.mpr hi)
    simpa [Array.getElem?_eq_getElem hi] using q
  obtain ⟨i0, ei0⟩ := is_v c3
  obtain rfl : w0 = (.int i0) := Option.some.inj ei0
  obtain ⟨i1, ei1⟩ := is_v c4
  obtain rfl : w1 = (.int i1) := Option.some.inj ei1
  obtain ⟨hsets, hown0⟩ := atoms_of _ (rest_1_c_eq ▸ (show rest_1_c.before _ s = true from hrest))
  have hr0 := Cond.before_iff.mp hown0
  obtain ⟨w_EMPTY, ev_EMPTY⟩ := exa_v (Cond.before_iff.mp (hsets _ (List.mem_of_getElem? (i := 2) rfl)))
  have S_EMPTY := Sta.start ev_EMPTY (Or.inr ⟨(hw _ (List.mem_of_getElem? (i := 50) rfl)), hsets _ (List.mem_of_getElem? (i := 0) rfl)⟩)
  have E_EMPTY := Exa.start ev_EMPTY (Cond.before_iff.mp (hsets _ (List.mem_of_getElem? (i := 2) rfl)))
  have F_EMPTY_value := own_fldN ev_EMPTY (Cond.before_iff.mp (hsets _ (List.mem_of_getElem? (i := 3) rfl)))
  obtain ⟨n, o, h1, h2, h3, _, L, rfl, ⟨rfl, N⟩, hq⟩ := rm0 l s _ hw tables_1 i0 i1 w_EMPTY s.heap (own_ext_refl _) S_EMPTY E_EMPTY F_EMPTY_value p e ha hc hk s m _ below hf ((Spec.applies_iff_loose hf).mp happ).1 ⟨rfl, State.Warmed39.refl s, rfl⟩ trivial
  refine ⟨n, _, h1, h2, h3, hpost _ _ _ _ _ _ ⟨Cond.after_iff.mpr rfl, Cond.after_iff.mpr (eq_i res_at (Term.int_eval (1)) rfl), trivial⟩ ⟨hq.1, hq.2.1, hq.2.2.1, (hq.2.2.2.sift fun y hy => Or.inr (N y hy)).mono (by decide) (by decide)⟩⟩
theorem main_1_1 : Claimed_1_1 := comes_1 fun _ _ _ _ _ _ h hF => ⟨h.1, hF⟩
theorem main_1_2 : Claimed_1_2 := comes_1 fun _ _ _ _ _ _ h hF => ⟨h.2.1, hF⟩
end Jvm.Pilot.@@N@@
namespace Jvm.Pilot.@@N@@
open Jvm Jvm.ClassFile Sem Op Lib Jvm.Free Jvm.Stand Jvm.Pilot.@@N@@.Jvm.D
/-! MADE BY PROGRAM (witnessworld.py) out of the Statement's table words and the real class files: 18 classes; the members and pool entries that the words name. The judged class is class 1, her method 2. -/
namespace start1
open Jvm.ClassFile
def u (s : String) : CpInfo := .utf8 (stringToUtf16 s)
/-- a pool by its gaps: so many unusable entries, then the entry; so many at the end -/
def gap : Nat → List CpInfo → List CpInfo
  | 0, r => r
  | n + 1, r => .unusable :: gap n r
def poolList (es : List (Nat × CpInfo)) (last : Nat) : List CpInfo := es.foldr (fun e r => gap e.1 (e.2 :: r)) (gap last [])
def pool (es : List (Nat × CpInfo)) (last : Nat) : Array CpInfo := ⟨poolList es last⟩
def fileOf (pool : Array CpInfo) (this : Nat) (attrs : Array Attribute := #[]) (ms : Array MethodInfo := #[]) (fl : Nat := 33) (sup : Nat := 0) (ifs : Array Nat := #[]) (fds : Array FieldInfo := #[]) : ClassFile where
  minorVersion := 0
  majorVersion := 65
  constantPool := pool
  accessFlags := fl
  thisClass := this
  superClass := sup
  interfaces := ifs
  fields := fds
  methods := ms
  attributes := attrs
def plain (name : String) (sup : Option ClassId) : Class where
  name := name
  kind := .ordinary
  loader := none
  accessFlags := 33
  super := sup
  interfaces := #[]
  cf := none
  fields := #[]
  methods := #[]
  instanceTypes := #[]
  staticTypes := #[]
  resolved := #[]
  callSites := []
  init := .initialized
  statics := none
  mirror := none

def pool0 : Array CpInfo := pool [(5, u "<init>"), (0, u "()V"), (1, .class_ 10), (1, u "java/lang/Object"), (85, u "clone"), (0, u "()Ljava/lang/Object;")] 26

def k0c0 : Code := { maxStack := 0, maxLocals := 1, code := object_method_1_code, exceptionTable := #[], attributes := #[] }
def k0m0 : Method := { name := "<init>", desc := "()V", sig := { parameters := [], returnType := none }, accessFlags := 1, code := some k0c0 }
def k0m1 : Method := { name := "clone", desc := "()Ljava/lang/Object;", sig := { parameters := [], returnType := some (.object "java/lang/Object") }, accessFlags := 260, code := none }
/-- java/lang/Object -/
def k0 : Class := { plain "java/lang/Object" none with
  accessFlags := 33
  interfaces := #[]
  cf := some (fileOf pool0 8 #[] #[{ accessFlags := 1, nameIndex := 5, descriptorIndex := 6, attributes := #[] }, { accessFlags := 260, nameIndex := 96, descriptorIndex := 97, attributes := #[] }] 33 0 #[] #[])
  fields := #[]
  methods := #[k0m0, k0m1]
  instanceTypes := #[]
  staticTypes := #[]
  resolved := Array.replicate 124 none
  statics := none }

def pool1 : Array CpInfo := pool [(2, .class_ 4), (1, u "java/lang/Object"), (0, u "<init>"), (0, u "()V"), (0, .integer 2147483647), (0, .methodref 9 10), (0, .class_ 11), (0, .nameAndType 12 13), (0, u "com/example/claim/claim/model/VerificationResult"), (0, u "accepted"), (0, u "([B)Lcom/example/claim/claim/model/VerificationResult;"), (0, .methodref 9 15), (0, .nameAndType 16 17), (0, u "isAccepted"), (0, u "()Z"), (0, .methodref 9 19), (0, .nameAndType 20 21), (0, u "refusal"), (0, u "()Ljava/util/Optional;"), (0, .methodref 23 24), (0, .class_ 25), (0, .nameAndType 26 17), (0, u "java/util/Optional"), (0, u "isPresent"), (0, .methodref 9 28), (0, .nameAndType 29 21), (0, u "payload"), (0, .methodref 23 31), (0, .nameAndType 32 33), (0, u "get"), (0, u "()Ljava/lang/Object;"), (0, .class_ 35), (0, u "[B"), (0, .methodref 37 38), (0, .class_ 39), (0, .nameAndType 40 41), (0, u "com/example/claim/claim/model/VerificationResultAcceptedPinLaw"), (0, u "same"), (0, u "([BIBBBB)Z"), (3, u "law"), (0, u "(II)Z")] 2

def k1m0 : Method := { name := "<init>", desc := "()V", sig := { parameters := [], returnType := none }, accessFlags := 1, code := none }
def k1c1 : Code := { maxStack := 2, maxLocals := 6, code := method_2_code, exceptionTable := #[], attributes := #[] }
def k1m1 : Method := { name := "same", desc := "([BIBBBB)Z", sig := { parameters := [(.array .byte), .int, .byte, .byte, .byte, .byte], returnType := some .boolean }, accessFlags := 10, code := some k1c1 }
def k1c2 : Code := { maxStack := 6, maxLocals := 12, code := code, exceptionTable := #[], attributes := #[] }
def k1m2 : Method := { name := "law", desc := "(II)Z", sig := { parameters := [.int, .int], returnType := some .boolean }, accessFlags := 9, code := some k1c2 }
/-- com/example/claim/claim/model/VerificationResultAcceptedPinLaw -/
def k1 : Class := { plain "com/example/claim/claim/model/VerificationResultAcceptedPinLaw" (some 0) with
  accessFlags := 49
  interfaces := #[]
  cf := some (fileOf pool1 37 #[] #[{ accessFlags := 1, nameIndex := 5, descriptorIndex := 6, attributes := #[] }, { accessFlags := 10, nameIndex := 40, descriptorIndex := 41, attributes := #[] }, { accessFlags := 9, nameIndex := 45, descriptorIndex := 46, attributes := #[] }] 49 2 #[] #[])
  fields := #[]
  methods := #[k1m0, k1m1, k1m2]
  instanceTypes := #[]
  staticTypes := #[]
  resolved := Array.replicate 49 none
  statics := none }

def pool2 : Array CpInfo := pool [(1, .methodref 2 3), (0, .class_ 4), (0, .nameAndType 5 6), (0, u "java/lang/Object"), (0, u "<init>"), (0, u "()V"), (0, .fieldref 8 9), (0, .class_ 10), (0, .nameAndType 11 12), (0, u "com/example/claim/claim/model/VerificationResult"), (0, u "payload"), (0, u "[B"), (0, .fieldref 8 14), (0, .nameAndType 15 16), (0, u "refusal"), (0, u "Lcom/example/claim/claim/model/Refusal;"), (0, .string 11), (0, .methodref 19 20), (0, .class_ 21), (0, .nameAndType 22 23), (0, u "java/util/Objects"), (0, u "requireNonNull"), (0, u "(Ljava/lang/Object;Ljava/lang/String;)Ljava/lang/Object;"), (0, .class_ 12), (0, .methodref 24 26), (0, .nameAndType 27 28), (0, u "clone"), (0, u "()Ljava/lang/Object;"), (0, .methodref 8 30), (0, .nameAndType 5 31), (0, u "([BLcom/example/claim/claim/model/Refusal;)V"), (3, .methodref 36 37), (0, .class_ 38), (0, .nameAndType 39 40), (0, u "java/util/Optional"), (0, u "ofNullable"), (0, u "(Ljava/lang/Object;)Ljava/util/Optional;"), (0, .invokeDynamic 0 42), (0, .nameAndType 43 44), (0, u "apply"), (0, u "()Ljava/util/function/Function;"), (0, .methodref 36 46), (0, .nameAndType 47 48), (0, u "map"), (0, u "(Ljava/util/function/Function;)Ljava/util/Optional;"), (2, u "isAccepted"), (0, u "()Z"), (15, u "accepted"), (0, u "([B)Lcom/example/claim/claim/model/VerificationResult;"), (3, u "()Ljava/util/Optional;"), (5, u "lambda$payload$0"), (0, u "(Ljava/lang/Object;)[B"), (3, .methodType 85), (0, u "(Ljava/lang/Object;)Ljava/lang/Object;"), (0, .methodHandle 6 87), (0, .methodref 8 88), (0, .nameAndType 79 80), (0, .methodType 90), (0, u "([B)[B"), (4, .methodHandle 6 96), (0, .methodref 97 98), (0, .class_ 99), (0, .nameAndType 100 101), (0, u "java/lang/invoke/LambdaMetafactory"), (0, u "metafactory"), (0, u "(Ljava/lang/invoke/MethodHandles$Lookup;Ljava/lang/String;Ljava/lang/invoke/MethodType;Ljava/lang/invoke/MethodType;Ljava/lang/invoke/MethodHandle;Ljava/lang/invoke/MethodType;)Ljava/lang/invoke/CallSite;")] 12

def k2c0 : Code := { maxStack := 2, maxLocals := 3, code := prog_73_method_1_code, exceptionTable := #[], attributes := #[] }
def k2m0 : Method := { name := "<init>", desc := "([BLcom/example/claim/claim/model/Refusal;)V", sig := { parameters := [(.array .byte), (.object "com/example/claim/claim/model/Refusal")], returnType := none }, accessFlags := 2, code := some k2c0 }
def k2c1 : Code := { maxStack := 4, maxLocals := 1, code := prog_73_method_2_code, exceptionTable := #[], attributes := #[] }
def k2m1 : Method := { name := "accepted", desc := "([B)Lcom/example/claim/claim/model/VerificationResult;", sig := { parameters := [(.array .byte)], returnType := some (.object "com/example/claim/claim/model/VerificationResult") }, accessFlags := 9, code := some k2c1 }
def k2c2 : Code := { maxStack := 1, maxLocals := 1, code := prog_73_method_4_code, exceptionTable := #[], attributes := #[] }
def k2m2 : Method := { name := "isAccepted", desc := "()Z", sig := { parameters := [], returnType := some .boolean }, accessFlags := 1, code := some k2c2 }
def k2c3 : Code := { maxStack := 2, maxLocals := 1, code := prog_73_method_5_code, exceptionTable := #[], attributes := #[] }
def k2m3 : Method := { name := "payload", desc := "()Ljava/util/Optional;", sig := { parameters := [], returnType := some (.object "java/util/Optional") }, accessFlags := 1, code := some k2c3 }
def k2c4 : Code := { maxStack := 1, maxLocals := 1, code := prog_73_method_6_code, exceptionTable := #[], attributes := #[] }
def k2m4 : Method := { name := "refusal", desc := "()Ljava/util/Optional;", sig := { parameters := [], returnType := some (.object "java/util/Optional") }, accessFlags := 1, code := some k2c4 }
def k2c5 : Code := { maxStack := 1, maxLocals := 1, code := prog_73_method_8_code, exceptionTable := #[], attributes := #[] }
def k2m5 : Method := { name := "lambda$payload$0", desc := "(Ljava/lang/Object;)[B", sig := { parameters := [(.object "java/lang/Object")], returnType := some (.array .byte) }, accessFlags := 4106, code := some k2c5 }
/-- com/example/claim/claim/model/VerificationResult -/
def k2 : Class := { plain "com/example/claim/claim/model/VerificationResult" (some 0) with
  accessFlags := 49
  interfaces := #[]
  cf := some (fileOf pool2 8 #[.bootstrapMethods #[⟨95, #[84, 86, 89]⟩, ⟨0, #[]⟩, ⟨0, #[]⟩]] #[{ accessFlags := 2, nameIndex := 5, descriptorIndex := 31, attributes := #[] }, { accessFlags := 9, nameIndex := 68, descriptorIndex := 69, attributes := #[] }, { accessFlags := 1, nameIndex := 51, descriptorIndex := 52, attributes := #[] }, { accessFlags := 1, nameIndex := 11, descriptorIndex := 73, attributes := #[] }, { accessFlags := 1, nameIndex := 15, descriptorIndex := 73, attributes := #[] }, { accessFlags := 4106, nameIndex := 79, descriptorIndex := 80, attributes := #[] }] 49 2 #[] #[{ accessFlags := 18, nameIndex := 11, descriptorIndex := 12, attributes := #[] }, { accessFlags := 18, nameIndex := 15, descriptorIndex := 16, attributes := #[] }])
  fields := #[{ name := "payload", type := (.array .byte), accessFlags := 18, slot := 0, constantValue := 0 }, { name := "refusal", type := (.object "com/example/claim/claim/model/Refusal"), accessFlags := 18, slot := 1, constantValue := 0 }]
  methods := #[k2m0, k2m1, k2m2, k2m3, k2m4, k2m5]
  instanceTypes := #[(.array .byte), (.object "com/example/claim/claim/model/Refusal")]
  staticTypes := #[]
  resolved := Array.replicate 114 none
  callSites := [(3, 7, .constant 1)]
  statics := none }

def pool3 : Array CpInfo := pool [(1, .class_ 2), (0, u "java/io/Serializable"), (0, .class_ 4), (0, u "java/lang/Object")] 2

/-- java/io/Serializable -/
def k3 : Class := { plain "java/io/Serializable" (some 0) with
  accessFlags := 1537
  interfaces := #[]
  cf := some (fileOf pool3 1 #[] #[] 1537 3 #[] #[])
  fields := #[]
  methods := #[]
  instanceTypes := #[]
  staticTypes := #[]
  resolved := Array.replicate 7 none
  statics := none }

def pool4 : Array CpInfo := pool [(1, .class_ 2), (0, u "java/lang/Comparable"), (0, .class_ 4), (0, u "java/lang/Object")] 7

/-- java/lang/Comparable -/
def k4 : Class := { plain "java/lang/Comparable" (some 0) with
  accessFlags := 1537
  interfaces := #[]
  cf := some (fileOf pool4 1 #[] #[] 1537 3 #[] #[])
  fields := #[]
  methods := #[]
  instanceTypes := #[]
  staticTypes := #[]
  resolved := Array.replicate 12 none
  statics := none }

def pool5 : Array CpInfo := pool [(2, .class_ 4), (1, u "java/lang/CharSequence"), (42, .class_ 48), (0, u "java/lang/CharSequence$1CodePointIterator"), (10, .class_ 60), (0, u "java/lang/CharSequence$1CharIterator"), (5, .class_ 67), (0, u "java/lang/Object")] 63

/-- java/lang/CharSequence -/
def k5 : Class := { plain "java/lang/CharSequence" (some 0) with
  accessFlags := 1537
  interfaces := #[]
  cf := some (fileOf pool5 2 #[.nestMembers #[47, 59]] #[] 1537 66 #[] #[])
  fields := #[]
  methods := #[]
  instanceTypes := #[]
  staticTypes := #[]
  resolved := Array.replicate 131 none
  statics := none }

def pool6 : Array CpInfo := pool [(1, .class_ 2), (0, u "java/lang/constant/Constable"), (0, .class_ 4), (0, u "java/lang/Object")] 6

/-- java/lang/constant/Constable -/
def k6 : Class := { plain "java/lang/constant/Constable" (some 0) with
  accessFlags := 1537
  interfaces := #[]
  cf := some (fileOf pool6 1 #[] #[] 1537 3 #[] #[])
  fields := #[]
  methods := #[]
  instanceTypes := #[]
  staticTypes := #[]
  resolved := Array.replicate 11 none
  statics := none }

def pool7 : Array CpInfo := pool [(1, .class_ 2), (0, u "java/lang/constant/ConstantDesc"), (0, .class_ 4), (0, u "java/lang/Object")] 32

/-- java/lang/constant/ConstantDesc -/
def k7 : Class := { plain "java/lang/constant/ConstantDesc" (some 0) with
  accessFlags := 1537
  interfaces := #[]
  cf := some (fileOf pool7 1 #[] #[] 1537 3 #[] #[])
  fields := #[]
  methods := #[]
  instanceTypes := #[]
  staticTypes := #[]
  resolved := Array.replicate 37 none
  statics := none }

def pool8 : Array CpInfo := pool [(2, .class_ 4), (1, u "java/lang/Object"), (0, u "<init>"), (0, u "()V"), (3, .class_ 12), (1, u "java/lang/String"), (0, u "value"), (0, u "[B"), (2, u "coder"), (0, u "B"), (2, u "hash"), (0, u "I"), (2, u "hashIsZero"), (0, u "Z"), (13, u "COMPACT_STRINGS"), (534, .class_ 576), (0, u "java/lang/CharSequence"), (22, u "CASE_INSENSITIVE_ORDER"), (0, u "Ljava/util/Comparator;"), (500, u "serialPersistentFields"), (0, u "[Ljava/io/ObjectStreamField;"), (0, .class_ 1104), (0, u "java/lang/String$CaseInsensitiveComparator"), (1, .class_ 1107), (0, u "java/io/Serializable"), (0, .class_ 1109), (0, u "java/lang/Comparable"), (0, .class_ 1111), (0, u "java/lang/constant/Constable"), (0, .class_ 1113), (0, u "java/lang/constant/ConstantDesc"), (2, u "serialVersionUID"), (0, u "J"), (3, u "REPL"), (0, u "C"), (2, u "LATIN1"), (1, u "UTF16")] 323

def k8m0 : Method := { name := "<init>", desc := "()V", sig := { parameters := [], returnType := none }, accessFlags := 1, code := none }
/-- java/lang/String -/
def k8 : Class := { plain "java/lang/String" (some 0) with
  accessFlags := 49
  interfaces := #[3, 4, 5, 6, 7]
  cf := some (fileOf pool8 10 #[.nestMembers #[1103]] #[{ accessFlags := 1, nameIndex := 5, descriptorIndex := 6, attributes := #[] }] 49 2 #[1106, 1108, 575, 1110, 1112] #[{ accessFlags := 18, nameIndex := 13, descriptorIndex := 14, attributes := #[] }, { accessFlags := 18, nameIndex := 17, descriptorIndex := 18, attributes := #[] }, { accessFlags := 2, nameIndex := 21, descriptorIndex := 22, attributes := #[] }, { accessFlags := 2, nameIndex := 25, descriptorIndex := 26, attributes := #[] }, { accessFlags := 26, nameIndex := 1116, descriptorIndex := 1117, attributes := #[] }, { accessFlags := 24, nameIndex := 40, descriptorIndex := 26, attributes := #[] }, { accessFlags := 26, nameIndex := 1101, descriptorIndex := 1102, attributes := #[] }, { accessFlags := 26, nameIndex := 1121, descriptorIndex := 1122, attributes := #[] }, { accessFlags := 25, nameIndex := 599, descriptorIndex := 600, attributes := #[] }, { accessFlags := 24, nameIndex := 1125, descriptorIndex := 18, attributes := #[] }, { accessFlags := 24, nameIndex := 1127, descriptorIndex := 18, attributes := #[] }])
  fields := #[{ name := "value", type := (.array .byte), accessFlags := 18, slot := 0, constantValue := 0 }, { name := "coder", type := .byte, accessFlags := 18, slot := 1, constantValue := 0 }, { name := "hash", type := .int, accessFlags := 2, slot := 2, constantValue := 0 }, { name := "hashIsZero", type := .boolean, accessFlags := 2, slot := 3, constantValue := 0 }, { name := "serialVersionUID", type := .long, accessFlags := 26, slot := 0, constantValue := 0 }, { name := "COMPACT_STRINGS", type := .boolean, accessFlags := 24, slot := 1, constantValue := 0 }, { name := "serialPersistentFields", type := (.array (.object "java/io/ObjectStreamField")), accessFlags := 26, slot := 2, constantValue := 0 }, { name := "REPL", type := .char, accessFlags := 26, slot := 3, constantValue := 0 }, { name := "CASE_INSENSITIVE_ORDER", type := (.object "java/util/Comparator"), accessFlags := 25, slot := 4, constantValue := 0 }, { name := "LATIN1", type := .byte, accessFlags := 24, slot := 5, constantValue := 0 }, { name := "UTF16", type := .byte, accessFlags := 24, slot := 6, constantValue := 0 }]
  methods := #[k8m0]
  instanceTypes := #[(.array .byte), .byte, .int, .boolean]
  staticTypes := #[.long, .boolean, (.array (.object "java/io/ObjectStreamField")), .char, (.object "java/util/Comparator"), .byte, .byte]
  resolved := Array.replicate 1451 none
  statics := none }

def pool9 : Array CpInfo := pool [(2, .class_ 4), (1, u "java/lang/Object"), (0, u "<init>"), (0, u "()V"), (35, .class_ 44), (1, u "java/util/Objects"), (0, u "requireNonNull"), (0, u "(Ljava/lang/Object;)Ljava/lang/Object;"), (47, u "(Ljava/lang/Object;Ljava/lang/String;)Ljava/lang/Object;")] 89

def k9m0 : Method := { name := "<init>", desc := "()V", sig := { parameters := [], returnType := none }, accessFlags := 2, code := none }
def k9c1 : Code := { maxStack := 2, maxLocals := 1, code := jdk_31_method_10_code, exceptionTable := #[], attributes := #[] }
def k9m1 : Method := { name := "requireNonNull", desc := "(Ljava/lang/Object;)Ljava/lang/Object;", sig := { parameters := [(.object "java/lang/Object")], returnType := some (.object "java/lang/Object") }, accessFlags := 9, code := some k9c1 }
def k9c2 : Code := { maxStack := 3, maxLocals := 2, code := jdk_31_method_11_code, exceptionTable := #[], attributes := #[] }
def k9m2 : Method := { name := "requireNonNull", desc := "(Ljava/lang/Object;Ljava/lang/String;)Ljava/lang/Object;", sig := { parameters := [(.object "java/lang/Object"), (.object "java/lang/String")], returnType := some (.object "java/lang/Object") }, accessFlags := 9, code := some k9c2 }
/-- java/util/Objects -/
def k9 : Class := { plain "java/util/Objects" (some 0) with
  accessFlags := 49
  interfaces := #[]
  cf := some (fileOf pool9 42 #[] #[{ accessFlags := 2, nameIndex := 5, descriptorIndex := 6, attributes := #[] }, { accessFlags := 9, nameIndex := 45, descriptorIndex := 46, attributes := #[] }, { accessFlags := 9, nameIndex := 45, descriptorIndex := 94, attributes := #[] }] 49 2 #[] #[])
  fields := #[]
  methods := #[k9m0, k9m1, k9m2]
  instanceTypes := #[]
  staticTypes := #[]
  resolved := Array.replicate 184 none
  statics := none }

def pool10 : Array CpInfo := pool [(1, .class_ 2), (0, u "java/lang/Cloneable"), (0, .class_ 4), (0, u "java/lang/Object")] 2

/-- java/lang/Cloneable -/
def k10 : Class := { plain "java/lang/Cloneable" (some 0) with
  accessFlags := 1537
  interfaces := #[]
  cf := some (fileOf pool10 1 #[] #[] 1537 3 #[] #[])
  fields := #[]
  methods := #[]
  instanceTypes := #[]
  staticTypes := #[]
  resolved := Array.replicate 7 none
  statics := none }

def pool11 : Array CpInfo := pool [(1, .fieldref 2 3), (0, .class_ 4), (0, .nameAndType 5 6), (0, u "java/util/Optional"), (0, u "EMPTY"), (0, u "Ljava/util/Optional;"), (0, .methodref 8 9), (0, .class_ 10), (0, .nameAndType 11 12), (0, u "java/lang/Object"), (0, u "<init>"), (0, u "()V"), (0, .fieldref 2 14), (0, .nameAndType 15 16), (0, u "value"), (0, u "Ljava/lang/Object;"), (0, .methodref 18 19), (0, .class_ 20), (0, .nameAndType 21 22), (0, u "java/util/Objects"), (0, u "requireNonNull"), (0, u "(Ljava/lang/Object;)Ljava/lang/Object;"), (0, .methodref 2 24), (0, .nameAndType 11 25), (0, u "(Ljava/lang/Object;)V"), (17, .methodref 2 44), (0, .nameAndType 45 46), (0, u "isEmpty"), (0, u "()Z"), (10, .interfaceMethodref 58 59), (0, .class_ 60), (0, .nameAndType 61 22), (0, u "java/util/function/Function"), (0, u "apply"), (0, .methodref 2 63), (0, .nameAndType 64 65), (0, u "ofNullable"), (0, u "(Ljava/lang/Object;)Ljava/util/Optional;"), (2, u "isPresent"), (4, u "get"), (0, u "()Ljava/lang/Object;"), (71, u "map"), (0, u "(Ljava/util/function/Function;)Ljava/util/Optional;")] 39

def k11c0 : Code := { maxStack := 2, maxLocals := 2, code := jdk_32_method_2_code, exceptionTable := #[], attributes := #[] }
def k11m0 : Method := { name := "<init>", desc := "(Ljava/lang/Object;)V", sig := { parameters := [(.object "java/lang/Object")], returnType := none }, accessFlags := 2, code := some k11c0 }
def k11c1 : Code := { maxStack := 3, maxLocals := 1, code := jdk_32_method_4_code, exceptionTable := #[], attributes := #[] }
def k11m1 : Method := { name := "ofNullable", desc := "(Ljava/lang/Object;)Ljava/util/Optional;", sig := { parameters := [(.object "java/lang/Object")], returnType := some (.object "java/util/Optional") }, accessFlags := 9, code := some k11c1 }
def k11c2 : Code := { maxStack := 3, maxLocals := 1, code := jdk_32_method_5_code, exceptionTable := #[], attributes := #[] }
def k11m2 : Method := { name := "get", desc := "()Ljava/lang/Object;", sig := { parameters := [], returnType := some (.object "java/lang/Object") }, accessFlags := 1, code := some k11c2 }
def k11c3 : Code := { maxStack := 1, maxLocals := 1, code := jdk_32_method_6_code, exceptionTable := #[], attributes := #[] }
def k11m3 : Method := { name := "isPresent", desc := "()Z", sig := { parameters := [], returnType := some .boolean }, accessFlags := 1, code := some k11c3 }
def k11c4 : Code := { maxStack := 1, maxLocals := 1, code := jdk_32_method_7_code, exceptionTable := #[], attributes := #[] }
def k11m4 : Method := { name := "isEmpty", desc := "()Z", sig := { parameters := [], returnType := some .boolean }, accessFlags := 1, code := some k11c4 }
def k11c5 : Code := { maxStack := 2, maxLocals := 2, code := jdk_32_method_11_code, exceptionTable := #[], attributes := #[] }
def k11m5 : Method := { name := "map", desc := "(Ljava/util/function/Function;)Ljava/util/Optional;", sig := { parameters := [(.object "java/util/function/Function")], returnType := some (.object "java/util/Optional") }, accessFlags := 1, code := some k11c5 }
/-- java/util/Optional -/
def k11 : Class := { plain "java/util/Optional" (some 0) with
  accessFlags := 49
  interfaces := #[]
  cf := some (fileOf pool11 2 #[] #[{ accessFlags := 2, nameIndex := 11, descriptorIndex := 25, attributes := #[] }, { accessFlags := 9, nameIndex := 64, descriptorIndex := 65, attributes := #[] }, { accessFlags := 1, nameIndex := 73, descriptorIndex := 74, attributes := #[] }, { accessFlags := 1, nameIndex := 68, descriptorIndex := 46, attributes := #[] }, { accessFlags := 1, nameIndex := 45, descriptorIndex := 46, attributes := #[] }, { accessFlags := 1, nameIndex := 146, descriptorIndex := 147, attributes := #[] }] 49 8 #[] #[{ accessFlags := 26, nameIndex := 5, descriptorIndex := 6, attributes := #[] }, { accessFlags := 18, nameIndex := 15, descriptorIndex := 16, attributes := #[] }])
  fields := #[{ name := "EMPTY", type := (.object "java/util/Optional"), accessFlags := 26, slot := 0, constantValue := 0 }, { name := "value", type := (.object "java/lang/Object"), accessFlags := 18, slot := 0, constantValue := 0 }]
  methods := #[k11m0, k11m1, k11m2, k11m3, k11m4, k11m5]
  instanceTypes := #[(.object "java/lang/Object")]
  staticTypes := #[(.object "java/util/Optional")]
  resolved := Array.replicate 187 none
  statics := some 0 }

def pool12 : Array CpInfo := pool [(6, u "(Ljava/lang/Object;)Ljava/lang/Object;"), (2, u "apply"), (6, .class_ 18), (1, u "java/util/function/Function"), (0, .class_ 20), (0, u "java/lang/Object")] 56

def k12m0 : Method := { name := "apply", desc := "(Ljava/lang/Object;)Ljava/lang/Object;", sig := { parameters := [(.object "java/lang/Object")], returnType := some (.object "java/lang/Object") }, accessFlags := 1025, code := none }
/-- java/util/function/Function -/
def k12 : Class := { plain "java/util/function/Function" (some 0) with
  accessFlags := 1537
  interfaces := #[]
  cf := some (fileOf pool12 16 #[] #[{ accessFlags := 1025, nameIndex := 9, descriptorIndex := 6, attributes := #[] }] 1537 19 #[] #[])
  fields := #[]
  methods := #[k12m0]
  instanceTypes := #[]
  staticTypes := #[]
  resolved := Array.replicate 77 none
  statics := none }

/-- the primitive byte -/
def k13 : Class := { plain "byte" none with kind := .primitive 'B', accessFlags := 0x411 }
/-- [B -/
def k14 : Class := { plain "[B" (some 0) with kind := .array 13 .byte, interfaces := #[10, 3], accessFlags := 1041 }

/-- the primitive int -/
def k15 : Class := { plain "int" none with kind := .primitive 'I', accessFlags := 0x411 }
/-- [I -/
def k16 : Class := { plain "[I" (some 0) with kind := .array 15 .int, interfaces := #[10, 3], accessFlags := 1041 }

def classes0 : Array Class := #[k0, k1, k2, k3, k4, k5, k6, k7, k8, k9, k10, k11, k12, k13, k14, k15, k16]
/-- the class that the rule has made for the site at 7 of com/example/claim/claim/model/VerificationResult.payload -/
def k17 : Class := Jvm.LamKit.madeRec { classes := classes0 } "com/example/claim/claim/model/VerificationResult" (Jvm.Lambda.Shape.mk "java/util/function/Function" "apply" (Jvm.ClassFile.MethodDescriptor.mk ([(Jvm.ClassFile.FieldType.object "java/lang/Object")] : List Jvm.ClassFile.FieldType) (Option.some (Jvm.ClassFile.FieldType.object "java/lang/Object"))) ([] : List Jvm.ClassFile.FieldType) (6 : Nat) "com/example/claim/claim/model/VerificationResult" "lambda$payload$0" (Jvm.ClassFile.MethodDescriptor.mk ([(Jvm.ClassFile.FieldType.object "java/lang/Object")] : List Jvm.ClassFile.FieldType) (Option.some (Jvm.ClassFile.FieldType.array Jvm.ClassFile.FieldType.byte))) false (Jvm.ClassFile.MethodDescriptor.mk ([(Jvm.ClassFile.FieldType.array Jvm.ClassFile.FieldType.byte)] : List Jvm.ClassFile.FieldType) (Option.some (Jvm.ClassFile.FieldType.array Jvm.ClassFile.FieldType.byte)))) 17

def heap : Heap := #[{ cls := 11, slots := #[.ref 2], vm := .statics 11 },
  { cls := 17, slots := #[], vm := .none },
  { cls := 11, slots := #[.null], vm := .none }]
def classes : Array Class := #[k0, k1, k2, k3, k4, k5, k6, k7, k8, k9, k10, k11, k12, k13, k14, k15, k16, k17]
def interned : List (Array UInt16 × Addr) := []
def slotsUsed : Nat := 2
def theMethod : MethodId := ⟨1, 2⟩
def args0 : Array Value := #[.int 5, .int 77]
def aboutOver (below : List Frame) : State where
  vm := { classes := classes, interned := interned.toArray }
  heap := heap
  slotsUsed := slotsUsed
  threads := #[{ frames := .invoking theMethod args0 :: below }]
def below0 : List Frame := [.native { method := ⟨0, 0⟩, args := #[] }]
def about1 : State := aboutOver below0
def p0 : Program := .bare "" "" ""
def e0 : Env := launch0.env 0 0 0
theorem w_frames : about1.frames = Frame.invoking theMethod args0 :: below0 := rfl
set_option maxRecDepth 65536 in
theorem w_args : argsFit about1.vm theMethod args0 = true := by decide +kernel
set_option maxRecDepth 65536 in
theorem w_heap : heapFits about1 = true := by decide +kernel
set_option maxRecDepth 65536 in
theorem w_runnable : about1.curStatus? = some .runnable := by decide +kernel
set_option maxRecDepth 65536 in
theorem w_alone : about1.alone = true := by decide +kernel
set_option maxRecDepth 65536 in
theorem w_named : about1.methodNamed? x = some theMethod := by decide +kernel
set_option maxRecDepth 65536 in
theorem w_hears : about1.hears theMethod below0 = true := by decide +kernel
set_option maxRecDepth 65536 in
theorem w_ripe : about1.ripe theMethod args0 below0 = true := by decide +kernel
theorem w_running : about1.status = .running := rfl
set_option maxRecDepth 65536 in
theorem w_room : about1.hasRoom e0.platform room_1 = true :=
  launch0.hasRoom_least _ room_1 (by decide +kernel) (by decide +kernel) (by decide +kernel) (by decide +kernel) (by decide +kernel) (by decide +kernel)
theorem allAtoms_all (ts : List Jvm.Cond) (a : Array Jvm.Value) (st : Jvm.State) : (allAtoms ts).before a st = ts.all (fun c => c.before a st) := by
  induction ts with
  | nil => rfl
  | cons c t ih =>
    show (Jvm.Cond.and c (allAtoms t)).before a st = _
    rw [Jvm.Cond.before_and, ih, List.all_cons]
def words1 : List Jvm.Cond := Jvm.Cond.code x code maxLocals ret :: tables_1
/-- a 'code' word, met by the world's own term for the bytes: nothing is compared byte by byte -/
theorem code_word {y : MethodName} {bytes : ByteArray} {mx : Nat} {rt : Option FieldType} {a : Array Value} {s : State} {m : MethodId} {meth : Method} {c : Code} (h1 : s.methodNamed? y = some m) (h2 : s.vm.method? m = some meth) (h3 : meth.code = some c) (h4 : c.code = bytes)
    (h5 : (c.maxLocals == mx && c.exceptionTable.isEmpty && decide (c.maxStack ≤ mostOperands) && decide (meth.sig.returnType = rt) && !meth.locks && decide (parseMethodDescriptor y.desc = some meth.sig)) = true) : (Jvm.Cond.code y bytes mx rt).before a s = true := by
  simp only [Bool.and_eq_true, beq_iff_eq, Bool.not_eq_true', decide_eq_true_eq] at h5
  obtain ⟨⟨⟨⟨⟨g1, g2⟩, g3⟩, g4⟩, g5⟩, g6⟩ := h5
  simp [Cond.before, Cond.holds, Cond.value, h1, h2, h3, h4, g1, g2, g3, g4, g5, g6]
def isCode : Jvm.Cond → Bool
  | .code _ _ _ _ => true
  | _ => false
theorem all_split {L : List Jvm.Cond} {P : Jvm.Cond → Bool} (h1 : L.all (fun c => isCode c || P c) = true) (h2 : ∀ c ∈ L.filter isCode, P c = true) : L.all P = true := by
  refine List.all_eq_true.mpr fun c hc => ?_
  have h := List.all_eq_true.mp h1 c hc
  rcases Bool.eq_false_or_eq_true (isCode c) with hi | hi
  · exact h2 c (List.mem_filter.mpr ⟨hc, hi⟩)
  · simpa [hi] using h
set_option maxRecDepth 65536 in
theorem w_c0 : (Jvm.Cond.code x code maxLocals ret).before args0 about1 = true := code_word (m := ⟨1, 2⟩) (meth := k1m2) (c := k1c2) (by decide +kernel) rfl rfl rfl (by decide +kernel)
set_option maxRecDepth 65536 in
theorem w_c1 : (Jvm.Cond.code ({ cls := "com/example/claim/claim/model/VerificationResult", name := "accepted", desc := "([B)Lcom/example/claim/claim/model/VerificationResult;" } : Jvm.MethodName) prog_73_method_2_code (1 : Nat) (Option.some (Jvm.ClassFile.FieldType.object "com/example/claim/claim/model/VerificationResult"))).before args0 about1 = true := code_word (m := ⟨2, 1⟩) (meth := k2m1) (c := k2c1) (by decide +kernel) rfl rfl rfl (by decide +kernel)
set_option maxRecDepth 65536 in
theorem w_c2 : (Jvm.Cond.code ({ cls := "java/util/Objects", name := "requireNonNull", desc := "(Ljava/lang/Object;Ljava/lang/String;)Ljava/lang/Object;" } : Jvm.MethodName) jdk_31_method_11_code (2 : Nat) (Option.some (Jvm.ClassFile.FieldType.object "java/lang/Object"))).before args0 about1 = true := code_word (m := ⟨9, 2⟩) (meth := k9m2) (c := k9c2) (by decide +kernel) rfl rfl rfl (by decide +kernel)
set_option maxRecDepth 65536 in
theorem w_c3 : (Jvm.Cond.code ({ cls := "com/example/claim/claim/model/VerificationResult", name := "<init>", desc := "([BLcom/example/claim/claim/model/Refusal;)V" } : Jvm.MethodName) prog_73_method_1_code (3 : Nat) (Option.none : Option Jvm.ClassFile.FieldType)).before args0 about1 = true := code_word (m := ⟨2, 0⟩) (meth := k2m0) (c := k2c0) (by decide +kernel) rfl rfl rfl (by decide +kernel)
set_option maxRecDepth 65536 in
theorem w_c4 : (Jvm.Cond.code ({ cls := "java/lang/Object", name := "<init>", desc := "()V" } : Jvm.MethodName) object_method_1_code (1 : Nat) (Option.none : Option Jvm.ClassFile.FieldType)).before args0 about1 = true := code_word (m := ⟨0, 0⟩) (meth := k0m0) (c := k0c0) (by decide +kernel) rfl rfl rfl (by decide +kernel)
set_option maxRecDepth 65536 in
theorem w_c5 : (Jvm.Cond.code ({ cls := "com/example/claim/claim/model/VerificationResult", name := "isAccepted", desc := "()Z" } : Jvm.MethodName) prog_73_method_4_code (1 : Nat) (Option.some Jvm.ClassFile.FieldType.boolean)).before args0 about1 = true := code_word (m := ⟨2, 2⟩) (meth := k2m2) (c := k2c2) (by decide +kernel) rfl rfl rfl (by decide +kernel)
set_option maxRecDepth 65536 in
theorem w_c6 : (Jvm.Cond.code ({ cls := "com/example/claim/claim/model/VerificationResult", name := "refusal", desc := "()Ljava/util/Optional;" } : Jvm.MethodName) prog_73_method_6_code (1 : Nat) (Option.some (Jvm.ClassFile.FieldType.object "java/util/Optional"))).before args0 about1 = true := code_word (m := ⟨2, 4⟩) (meth := k2m4) (c := k2c4) (by decide +kernel) rfl rfl rfl (by decide +kernel)
set_option maxRecDepth 65536 in
theorem w_c7 : (Jvm.Cond.code ({ cls := "java/util/Optional", name := "ofNullable", desc := "(Ljava/lang/Object;)Ljava/util/Optional;" } : Jvm.MethodName) jdk_32_method_4_code (1 : Nat) (Option.some (Jvm.ClassFile.FieldType.object "java/util/Optional"))).before args0 about1 = true := code_word (m := ⟨11, 1⟩) (meth := k11m1) (c := k11c1) (by decide +kernel) rfl rfl rfl (by decide +kernel)
set_option maxRecDepth 65536 in
theorem w_c8 : (Jvm.Cond.code ({ cls := "java/util/Optional", name := "isPresent", desc := "()Z" } : Jvm.MethodName) jdk_32_method_6_code (1 : Nat) (Option.some Jvm.ClassFile.FieldType.boolean)).before args0 about1 = true := code_word (m := ⟨11, 3⟩) (meth := k11m3) (c := k11c3) (by decide +kernel) rfl rfl rfl (by decide +kernel)
set_option maxRecDepth 65536 in
theorem w_c9 : (Jvm.Cond.code ({ cls := "com/example/claim/claim/model/VerificationResult", name := "payload", desc := "()Ljava/util/Optional;" } : Jvm.MethodName) prog_73_method_5_code (1 : Nat) (Option.some (Jvm.ClassFile.FieldType.object "java/util/Optional"))).before args0 about1 = true := code_word (m := ⟨2, 3⟩) (meth := k2m3) (c := k2c3) (by decide +kernel) rfl rfl rfl (by decide +kernel)
set_option maxRecDepth 65536 in
theorem w_c10 : (Jvm.Cond.code ({ cls := "java/util/Optional", name := "<init>", desc := "(Ljava/lang/Object;)V" } : Jvm.MethodName) jdk_32_method_2_code (2 : Nat) (Option.none : Option Jvm.ClassFile.FieldType)).before args0 about1 = true := code_word (m := ⟨11, 0⟩) (meth := k11m0) (c := k11c0) (by decide +kernel) rfl rfl rfl (by decide +kernel)
set_option maxRecDepth 65536 in
theorem w_c11 : (Jvm.Cond.code ({ cls := "java/util/Optional", name := "map", desc := "(Ljava/util/function/Function;)Ljava/util/Optional;" } : Jvm.MethodName) jdk_32_method_11_code (2 : Nat) (Option.some (Jvm.ClassFile.FieldType.object "java/util/Optional"))).before args0 about1 = true := code_word (m := ⟨11, 5⟩) (meth := k11m5) (c := k11c5) (by decide +kernel) rfl rfl rfl (by decide +kernel)
set_option maxRecDepth 65536 in
theorem w_c12 : (Jvm.Cond.code ({ cls := "java/util/Objects", name := "requireNonNull", desc := "(Ljava/lang/Object;)Ljava/lang/Object;" } : Jvm.MethodName) jdk_31_method_10_code (1 : Nat) (Option.some (Jvm.ClassFile.FieldType.object "java/lang/Object"))).before args0 about1 = true := code_word (m := ⟨9, 1⟩) (meth := k9m1) (c := k9c1) (by decide +kernel) rfl rfl rfl (by decide +kernel)
set_option maxRecDepth 65536 in
theorem w_c13 : (Jvm.Cond.code ({ cls := "java/util/Optional", name := "isEmpty", desc := "()Z" } : Jvm.MethodName) jdk_32_method_7_code (1 : Nat) (Option.some Jvm.ClassFile.FieldType.boolean)).before args0 about1 = true := code_word (m := ⟨11, 4⟩) (meth := k11m4) (c := k11c4) (by decide +kernel) rfl rfl rfl (by decide +kernel)
set_option maxRecDepth 65536 in
theorem w_c14 : (Jvm.Cond.code ({ cls := "com/example/claim/claim/model/VerificationResult", name := "lambda$payload$0", desc := "(Ljava/lang/Object;)[B" } : Jvm.MethodName) prog_73_method_8_code (1 : Nat) (Option.some (Jvm.ClassFile.FieldType.array Jvm.ClassFile.FieldType.byte))).before args0 about1 = true := code_word (m := ⟨2, 5⟩) (meth := k2m5) (c := k2c5) (by decide +kernel) rfl rfl rfl (by decide +kernel)
set_option maxRecDepth 65536 in
theorem w_c15 : (Jvm.Cond.code ({ cls := "java/util/Optional", name := "get", desc := "()Ljava/lang/Object;" } : Jvm.MethodName) jdk_32_method_5_code (1 : Nat) (Option.some (Jvm.ClassFile.FieldType.object "java/lang/Object"))).before args0 about1 = true := code_word (m := ⟨11, 2⟩) (meth := k11m2) (c := k11c2) (by decide +kernel) rfl rfl rfl (by decide +kernel)
set_option maxRecDepth 65536 in
theorem w_c16 : (Jvm.Cond.code ({ cls := "com/example/claim/claim/model/VerificationResultAcceptedPinLaw", name := "same", desc := "([BIBBBB)Z" } : Jvm.MethodName) method_2_code (6 : Nat) (Option.some Jvm.ClassFile.FieldType.boolean)).before args0 about1 = true := code_word (m := ⟨1, 1⟩) (meth := k1m1) (c := k1c1) (by decide +kernel) rfl rfl rfl (by decide +kernel)
def codes1 : List Jvm.Cond := [Jvm.Cond.code x code maxLocals ret, Jvm.Cond.code ({ cls := "com/example/claim/claim/model/VerificationResult", name := "accepted", desc := "([B)Lcom/example/claim/claim/model/VerificationResult;" } : Jvm.MethodName) prog_73_method_2_code (1 : Nat) (Option.some (Jvm.ClassFile.FieldType.object "com/example/claim/claim/model/VerificationResult")), Jvm.Cond.code ({ cls := "java/util/Objects", name := "requireNonNull", desc := "(Ljava/lang/Object;Ljava/lang/String;)Ljava/lang/Object;" } : Jvm.MethodName) jdk_31_method_11_code (2 : Nat) (Option.some (Jvm.ClassFile.FieldType.object "java/lang/Object")), Jvm.Cond.code ({ cls := "com/example/claim/claim/model/VerificationResult", name := "<init>", desc := "([BLcom/example/claim/claim/model/Refusal;)V" } : Jvm.MethodName) prog_73_method_1_code (3 : Nat) (Option.none : Option Jvm.ClassFile.FieldType), Jvm.Cond.code ({ cls := "java/lang/Object", name := "<init>", desc := "()V" } : Jvm.MethodName) object_method_1_code (1 : Nat) (Option.none : Option Jvm.ClassFile.FieldType), Jvm.Cond.code ({ cls := "com/example/claim/claim/model/VerificationResult", name := "isAccepted", desc := "()Z" } : Jvm.MethodName) prog_73_method_4_code (1 : Nat) (Option.some Jvm.ClassFile.FieldType.boolean), Jvm.Cond.code ({ cls := "com/example/claim/claim/model/VerificationResult", name := "refusal", desc := "()Ljava/util/Optional;" } : Jvm.MethodName) prog_73_method_6_code (1 : Nat) (Option.some (Jvm.ClassFile.FieldType.object "java/util/Optional")), Jvm.Cond.code ({ cls := "java/util/Optional", name := "ofNullable", desc := "(Ljava/lang/Object;)Ljava/util/Optional;" } : Jvm.MethodName) jdk_32_method_4_code (1 : Nat) (Option.some (Jvm.ClassFile.FieldType.object "java/util/Optional")), Jvm.Cond.code ({ cls := "java/util/Optional", name := "isPresent", desc := "()Z" } : Jvm.MethodName) jdk_32_method_6_code (1 : Nat) (Option.some Jvm.ClassFile.FieldType.boolean), Jvm.Cond.code ({ cls := "com/example/claim/claim/model/VerificationResult", name := "payload", desc := "()Ljava/util/Optional;" } : Jvm.MethodName) prog_73_method_5_code (1 : Nat) (Option.some (Jvm.ClassFile.FieldType.object "java/util/Optional")), Jvm.Cond.code ({ cls := "java/util/Optional", name := "<init>", desc := "(Ljava/lang/Object;)V" } : Jvm.MethodName) jdk_32_method_2_code (2 : Nat) (Option.none : Option Jvm.ClassFile.FieldType), Jvm.Cond.code ({ cls := "java/util/Optional", name := "map", desc := "(Ljava/util/function/Function;)Ljava/util/Optional;" } : Jvm.MethodName) jdk_32_method_11_code (2 : Nat) (Option.some (Jvm.ClassFile.FieldType.object "java/util/Optional")), Jvm.Cond.code ({ cls := "java/util/Objects", name := "requireNonNull", desc := "(Ljava/lang/Object;)Ljava/lang/Object;" } : Jvm.MethodName) jdk_31_method_10_code (1 : Nat) (Option.some (Jvm.ClassFile.FieldType.object "java/lang/Object")), Jvm.Cond.code ({ cls := "java/util/Optional", name := "isEmpty", desc := "()Z" } : Jvm.MethodName) jdk_32_method_7_code (1 : Nat) (Option.some Jvm.ClassFile.FieldType.boolean), Jvm.Cond.code ({ cls := "com/example/claim/claim/model/VerificationResult", name := "lambda$payload$0", desc := "(Ljava/lang/Object;)[B" } : Jvm.MethodName) prog_73_method_8_code (1 : Nat) (Option.some (Jvm.ClassFile.FieldType.array Jvm.ClassFile.FieldType.byte)), Jvm.Cond.code ({ cls := "java/util/Optional", name := "get", desc := "()Ljava/lang/Object;" } : Jvm.MethodName) jdk_32_method_5_code (1 : Nat) (Option.some (Jvm.ClassFile.FieldType.object "java/lang/Object")), Jvm.Cond.code ({ cls := "com/example/claim/claim/model/VerificationResultAcceptedPinLaw", name := "same", desc := "([BIBBBB)Z" } : Jvm.MethodName) method_2_code (6 : Nat) (Option.some Jvm.ClassFile.FieldType.boolean)]
set_option maxRecDepth 65536 in
theorem codes_eq : words1.filter isCode = codes1 := rfl
theorem w_codes : ∀ c ∈ words1.filter isCode, c.before args0 about1 = true := by
  rw [codes_eq]
  intro c hc
  simp only [codes1, List.mem_cons, List.not_mem_nil, or_false] at hc
  rcases hc with rfl | rfl | rfl | rfl | rfl | rfl | rfl | rfl | rfl | rfl | rfl | rfl | rfl | rfl | rfl | rfl | rfl
  · exact w_c0
  · exact w_c1
  · exact w_c2
  · exact w_c3
  · exact w_c4
  · exact w_c5
  · exact w_c6
  · exact w_c7
  · exact w_c8
  · exact w_c9
  · exact w_c10
  · exact w_c11
  · exact w_c12
  · exact w_c13
  · exact w_c14
  · exact w_c15
  · exact w_c16
set_option maxRecDepth 65536 in
theorem w_t1 : (words1.take 24).all (fun c => isCode c || c.before args0 about1) = true := by decide +kernel
set_option maxRecDepth 65536 in
theorem w_t2 : ((words1.drop 24).take 24).all (fun c => isCode c || c.before args0 about1) = true := by decide +kernel
set_option maxRecDepth 65536 in
theorem w_t3 : (((words1.drop 24).drop 24).take 24).all (fun c => isCode c || c.before args0 about1) = true := by decide +kernel
set_option maxRecDepth 65536 in
theorem w_t4 : ((((words1.drop 24).drop 24).drop 24).take 24).all (fun c => isCode c || c.before args0 about1) = true := by decide +kernel
set_option maxRecDepth 65536 in
theorem w_t5 : ((((words1.drop 24).drop 24).drop 24).drop 24).all (fun c => isCode c || c.before args0 about1) = true := by decide +kernel
theorem w_tables : (allAtoms (Jvm.Cond.code x code maxLocals ret :: tables_1)).before args0 about1 = true := by
  rw [allAtoms_all]
  show words1.all (fun c => c.before args0 about1) = true
  refine all_split ?_ w_codes
  rw [← List.take_append_drop 24 words1, List.all_append, w_t1, ← List.take_append_drop 24 (words1.drop 24), List.all_append, w_t2, ← List.take_append_drop 24 ((words1.drop 24).drop 24), List.all_append, w_t3, ← List.take_append_drop 24 (((words1.drop 24).drop 24).drop 24), List.all_append, w_t4, w_t5]
  rfl
set_option maxRecDepth 65536 in
theorem w_rest : rest_1_c.before args0 about1 = true := by decide +kernel
set_option maxRecDepth 65536 in
theorem w_case : (Jvm.Cond.and given_1 narrow_1).before args0 about1 = true := by decide +kernel
theorem w_applies : (headSpec (Jvm.Cond.code x code maxLocals ret :: tables_1) room_1).applies x e0.platform about1 = true :=
  (Spec.applies_iff w_frames).mpr ⟨w_running, w_runnable, w_alone, w_named, w_hears, w_ripe, w_room, w_tables⟩
theorem atStart : AtStart classFile x code maxLocals ret World_1 tables_1 room_1 Calls_1 rest_1 Pre_1 launch0 p0 e0 about1 theMethod args0 below0 :=
  ⟨lists_1, trivial, launch0.admits_env _ _ _, launch0.least_env, fairChoices_fair.cas, fairChoices_fair.clock, w_frames, w_args, w_heap, w_applies, trivial, w_rest, w_case⟩
end start1
theorem witness_1 : WitnessClaimed_1 := ⟨start1.p0, start1.e0, start1.about1, start1.theMethod, start1.args0, start1.below0, start1.atStart⟩
end Jvm.Pilot.@@N@@
