import JvmDerived
import JvmDerived.Pilot.@@N@@Statement
import JvmDerived.Pilot.@@N@@Code
set_option linter.unusedVariables false
set_option linter.unusedSimpArgs false
@@BLOCK:NumsL.lean.txt@@
namespace Jvm.Pilot.@@N@@
open Jvm Jvm.ClassFile Sem Op Lib Jvm.Free Jvm.Stand Jvm.LawKit Jvm.RoadKit Bundle Jvm.Pilot.@@N@@.Jvm.D
/-! the goal that a walk carries along: from this state the run comes to the method's end, and Q holds there -/
def own_G (tb : Tables) (e : Env) (below : List Frame) (s : State) (Q : Option Value → Heap → List Loc → Prop) (kc ks : Nat) (st : State) : Prop :=
  ∃ u o, Steps tb e below st u ∧ u.status = .running ∧ Ended u below o ∧ ∃ v L, o = .returned v ∧ Q v u.heap L ∧ FrameEnd s o u L kc ks
theorem own_in {tb : Tables} {e : Env} {below : List Frame} {s : State} {Q : Option Value → Heap → List Loc → Prop} {kc ks : Nat} {st : State} (h : own_G tb e below s Q kc ks st) :
    ∃ u o, Steps tb e below st u ∧ u.status = .running ∧ Ended u below o ∧ ∃ v L, o = .returned v ∧ Q v u.heap L ∧ FrameEnd s o u L kc ks := h
theorem own_st {tb : Tables} {e : Env} {below : List Frame} {s : State} {Q : Option Value → Heap → List Loc → Prop} {kc ks : Nat} {a b : State} (k : ∀ t, Steps tb e below b t → Steps tb e below a t) (h : own_G tb e below s Q kc ks b) : own_G tb e below s Q kc ks a := by
  obtain ⟨u, o, h1, h2⟩ := h; exact ⟨u, o, k u h1, h2⟩
section OwnRet
variable {p : Program} {l : Launch} {e : Env} {R : Room} {s : State} {m : MethodId} {args : Array Value} {below : List Frame} {meth : Method} {c : Code} {T : State} {locs : List Loc} {cells slots : Nat} {Q : Option Value → Heap → List Loc → Prop} {kc ks : Nat} {pc : Nat} {Ls : Array Slot} {rest : List Value}
theorem own_ret (X : Stand p l e R s m args below meth c T locs cells slots) {v : Option Value} (hv : meth.sig.returnType = none → v = none) (hlk : meth.locks = false) (hc : cells ≤ kc) (hs : slots ≤ ks) (hQ : Q v T.heap locs) {st : State}
    (step : ∀ fs, (∀ (f : JFrame) (acts : List Action), f.method = m → f.locked = none → f.entered = [] → (doReturn e (T.setTop f) acts v).1 = T.setFrames fs) → Steps p.tables e below st (T.setFrames fs)) : own_G p.tables e below s Q kc ks st := by
  obtain ⟨fs, hr, hrun, hended, hW, hsame⟩ := X.leave (v := v) hv hlk
  exact ⟨_, _, step fs hr, hrun, hended, _, _, rfl, hQ, ⟨_, rfl⟩, hW, hsame.mono hc hs⟩
theorem own_retV (X : Stand p l e R s m args below meth c T locs cells slots) (hx : p.tables.exec = Jvm.exec) (hret : meth.sig.returnType = none) (hlk : meth.locks = false) (hd : decode c.code pc = .ok (.return_, 1)) (hc : cells ≤ kc) (hs : slots ≤ ks) (hQ : Q none T.heap locs) : own_G p.tables e below s Q kc ks (T.setTop (mkF m pc Ls [])) :=
  own_ret X (v := none) (fun _ => rfl) hlk hc hs hQ fun _ hr => X.returnOut hx hret hd hr
theorem own_retI {z : Int32} (X : Stand p l e R s m args below meth c T locs cells slots) (hx : p.tables.exec = Jvm.exec) (hret : meth.sig.returnType = some .int) (hlk : meth.locks = false) (hd : decode c.code pc = .ok (.ireturn, 1)) (hc : cells ≤ kc) (hs : slots ≤ ks) (hQ : Q (some (.int z)) T.heap locs) : own_G p.tables e below s Q kc ks (T.setTop (mkF m pc Ls (.int z :: rest))) :=
  own_ret X (v := some (.int z)) (fun h => by rw [hret] at h; cases h) hlk hc hs hQ fun _ hr => retOut X hx hret rfl (Or.inl ⟨rfl, Or.inl rfl, z, rfl⟩) hd hr
theorem own_retJ {z : Int64} (X : Stand p l e R s m args below meth c T locs cells slots) (hx : p.tables.exec = Jvm.exec) (hret : meth.sig.returnType = some .long) (hlk : meth.locks = false) (hd : decode c.code pc = .ok (.lreturn, 1)) (hc : cells ≤ kc) (hs : slots ≤ ks) (hQ : Q (some (.long z)) T.heap locs) : own_G p.tables e below s Q kc ks (T.setTop (mkF m pc Ls (.long z :: rest))) :=
  own_ret X (v := some (.long z)) (fun h => by rw [hret] at h; cases h) hlk hc hs hQ fun _ hr => retOut X hx hret rfl (Or.inr (Or.inl ⟨rfl, rfl, z, rfl⟩)) hd hr
theorem own_retA {ft : FieldType} {w : Value} (ht : ft.isReference = true) (hw : w.isRef = true) (X : Stand p l e R s m args below meth c T locs cells slots) (hx : p.tables.exec = Jvm.exec) (hret : meth.sig.returnType = some ft) (hlk : meth.locks = false) (hd : decode c.code pc = .ok (.areturn, 1)) (hc : cells ≤ kc) (hs : slots ≤ ks) (hQ : Q (some w) T.heap locs) : own_G p.tables e below s Q kc ks (T.setTop (mkF m pc Ls (w :: rest))) :=
  own_ret X (v := some w) (fun h => by rw [hret] at h; cases h) hlk hc hs hQ fun _ hr => retOut X hx hret (by cases ft <;> first | (cases ht; done) | (cases w <;> first | rfl | cases hw)) (Or.inr (Or.inr (Or.inr (Or.inr ⟨rfl, ht, hw⟩)))) hd hr
theorem own_retN {t : FieldType} {z : Int32} (ht : t = .boolean ∨ t = .byte ∨ t = .char ∨ t = .short) (X : Stand p l e R s m args below meth c T locs cells slots) (hx : p.tables.exec = Jvm.exec) (hret : meth.sig.returnType = some t) (hlk : meth.locks = false) (hd : decode c.code pc = .ok (.ireturn, 1)) (hc : cells ≤ kc) (hs : slots ≤ ks) (hQ : Q (some (.int (nar t z))) T.heap locs) : own_G p.tables e below s Q kc ks (T.setTop (mkF m pc Ls (.int z :: rest))) :=
  own_ret X (v := some (.int (nar t z))) (fun h => by rw [hret] at h; cases h) hlk hc hs hQ fun _ hr => retN X hx hret ht hd hr
end OwnRet
def own_b (P : Prop) [Decidable P] : Int32 := if P then 1 else 0
theorem own_bT {P : Prop} [Decidable P] (h : P) : some (Value.int (nar .boolean (1 : Int32))) = some (Value.int (own_b P)) := by rw [own_b, if_pos h]; rfl
theorem own_bF {P : Prop} [Decidable P] (h : ¬ P) : some (Value.int (nar .boolean (0 : Int32))) = some (Value.int (own_b P)) := by rw [own_b, if_neg h]; rfl
theorem own_bEq {P P' : Prop} [Decidable P] [Decidable P'] (h : P ↔ P') : own_b P = own_b P' := by simp only [own_b, h]
/-- a body that writes nothing: what it returns, the heap as it was -/
def own_Qp (r : Option Value) (h0 : Heap) (n0 : Nat) (v : Option Value) (h : Heap) (L : List Loc) : Prop := v = r ∧ Fr n0 L ∧ h = h0
/-- the law's own end: it returns 1, nothing old is written -/
def own_Q0 (n0 : Nat) (v : Option Value) (h : Heap) (L : List Loc) : Prop := v = some (.int 1) ∧ Fr n0 L
theorem own_ord {s : State} {args : Array Value} {t : Term} {a : Addr} {C n d : String} {k : Int32} (ev : t.eval args s none [] s = some (.ref a)) (h : (Jvm.Cond.eq (Term.field t C n d) (Term.int k)).value args s none s [] = some true) : Fld s s.heap a C n d (.int k) := by
  obtain ⟨x, y, e1, e2, -, k2⟩ := cmp_v (Or.inl h)
  obtain rfl : Value.int k = y := Option.some.inj e2
  obtain ⟨z, rfl⟩ := k2
  have q : z = k := by simpa [Jvm.Cond.value, e1, e2] using h
  subst q
  exact Fld.start ((fld_at ev).symm.trans e1)
theorem own_len {s : State} {args : Array Value} {t : Term} {a : Addr} {c : Cell} {ty : FieldType} {n : Int32} (ev : t.eval args s none [] s = some (.ref a)) (A : Arr s s.heap a c ty) (h : (Jvm.Cond.eq (Term.length t) (Term.int n)).value args s none s [] = some true) : c.slots.size < 2 ^ 31 ∧ c.slots.size.toInt32 = n := by
  have q := eqv_i (Term.int_eval n) h
  have f := A.fin (Vm.Alike.refl _)
  have z : c.slots.size < 2147483648 ∧ c.slots.size.toInt32 = n := by simpa [Term.eval, ev, f] using q
  exact z
theorem own_eqr {s : State} {args : Array Value} {X F : Term} {y : Addr} (hF : F.eval args s none [] s = some (.ref y)) (h : (Jvm.Cond.eq X F).value args s none s [] = some true) : X.eval args s none [] s = some (.ref y) := by
  obtain ⟨x, y', e1, e2, k1, k2⟩ := cmp_v (Or.inl h)
  cases hF.symm.trans e2
  have hx : x.isRef = true := k2.2
  have q := gotT (eq_R e1 hF hx rfl) h
  rw [q] at e1; exact e1
theorem own_el {s : State} {args : Array Value} {t : Term} {a : Addr} {c : Cell} {ty : FieldType} {j : Int32} {v : Value} (ev : t.eval args s none [] s = some (.ref a)) (A : Arr s s.heap a c ty) (h : (Term.elem t (Term.int j)).eval args s none [] s = some v) : c.slots[j.toNatClampNeg]? = some v := (elem_in h ev (Term.int_eval j) A.1).2
theorem own_nea {Z : State} {h : Heap} {a b : Addr} {C : String} {a0 : Array Value} {k : Nat} {kc : ClassId} {ty : FieldType} {z : Int32} {vs : List Value} {d : Value} (F : Exa Z h a C) (wi : (Jvm.Cond.instantiable C k).before a0 Z = true) (V : Arv Z h b kc ty z vs d) : a ≠ b := by
  obtain ⟨c, A, -⟩ := V; exact ne_arr F wi A
/-- the product of a whole number and a double of significand m and exponent -52, before rounding -/
theorem own_mul {b : Int64} {C : UInt64} {m : Nat} (hC : FP.Core.val64 C = .fin false m (-52)) (h0 : 0 ≤ b.toInt) (h1 : b.toInt < 9007199254740992) : FP.Core.val64 (FP.dmul (FP.l2d b) C) = FP.Core.round FP.Core.b64 (.fin false (b.toInt.toNat * m) (-52)) := by
  have hw := FP.Core.l2d_whole (a := b) ⟨by omega, h1⟩
  obtain ⟨c, q, hs⟩ := FP.Core.l2d_shape b
  have hd : decide (b.toInt < 0) = false := by simp; omega
  rw [hd] at hs
  rw [hs] at hw
  rw [show FP.Core.val64 (FP.dmul (FP.l2d b) C) = _ from FP.Core.val64_dmul (FP.l2d b) C, hC, show FP.Core.val64 (FP.l2d b) = _ from hs]
  show FP.Core.roundRatio FP.Core.b64 (false != false) (c * m) 1 (q + -52) = FP.Core.roundRatio FP.Core.b64 false (b.toInt.toNat * m) 1 (-52)
  have e : c * 2 ^ q.toNat = b.toInt.toNat * 2 ^ (-q).toNat := by
    have := hw
    simp only [FP.Core.Whole, FP.Core.signed] at this
    have k : (b.toInt.toNat : Int) = b.toInt := Int.toNat_of_nonneg h0
    have k2 : ((c * 2 ^ q.toNat : Nat) : Int) = ((b.toInt.toNat * 2 ^ (-q).toNat : Nat) : Int) := by
      rw [Int.natCast_mul b.toInt.toNat, k]; simpa using this
    exact Int.ofNat.inj k2
  refine FP.Core.roundRatio_congr (by decide) (by decide) ?_
  rw [show (q + -52 - -52).toNat = q.toNat by congr 1; omega, show (-52 - (q + -52)).toNat = (-q).toNat by congr 1; omega]
  calc c * m * 1 * 2 ^ q.toNat = m * (c * 2 ^ q.toNat) := by rw [Nat.mul_one, Nat.mul_comm c m, Nat.mul_assoc]
    _ = m * (b.toInt.toNat * 2 ^ (-q).toNat) := by rw [e]
    _ = b.toInt.toNat * m * 1 * 2 ^ (-q).toNat := by rw [Nat.mul_one, Nat.mul_comm b.toInt.toNat m, Nat.mul_assoc]
theorem own_pow (a b : Nat) : 2 ^ (a + b) = 2 ^ a * 2 ^ b := Nat.pow_add 2 a b
/-- rounded down to w at the most -/
theorem own_le {A w : Nat} {a : Int64} (ha : a.toInt = w) (h1 : a.toInt < 9007199254740992) (h : A ≤ w * 2 ^ 52) : FP.Core.zval FP.Core.b64 (FP.Core.round FP.Core.b64 (.fin false A (-52))) ≤ FP.Core.zval FP.Core.b64 (FP.Core.val64 (FP.l2d a)) := by
  have hw : FP.Core.Whole a.toInt (FP.Core.val64 (FP.l2d a)) := FP.Core.l2d_whole (a := a) ⟨by omega, h1⟩
  have hz := FP.Core.DInt_zval (a := FP.l2d a) hw
  refine FP.Core.zval_round_le FP.Core.good_b64 (FP.Core.val64_fits _) hw.ne_nan (e0 := FP.Core.b64.qmin) (Int.le_refl _) (by decide) ?_
  rw [hz, ha]
  have e1 : (FP.Core.b64.qmin - FP.Core.b64.qmin).toNat = 0 := by decide
  have e2 : (-52 - FP.Core.b64.qmin).toNat = 1022 := by decide
  rw [e1]
  show ((FP.Core.inUnits A (-52) FP.Core.b64.qmin : Nat) : Int) ≤ _
  unfold FP.Core.inUnits
  rw [e2, Nat.pow_zero, FP.Core.one64]
  have k : A * 2 ^ 1022 ≤ w * 2 ^ 1074 := by
    rw [show (1074 : Nat) = 52 + 1022 from rfl, own_pow 52 1022, ← Nat.mul_assoc]
    exact Nat.mul_le_mul_right _ h
  generalize hx : (2 : Nat) ^ 1022 = X at k ⊢
  generalize hy : (2 : Nat) ^ 1074 = Y at k ⊢
  have := Int.ofNat_le.mpr k
  simpa [Int.natCast_mul] using this
/-- rounded up to above w, where the product is above by an eighth -/
theorem own_gt {A w : Nat} {a : Int64} (ha : a.toInt = w) (h1 : w < 70368744177664) (h : (8 * w + 1) * 2 ^ 49 ≤ A) : FP.Core.zval FP.Core.b64 (FP.Core.val64 (FP.l2d a)) < FP.Core.zval FP.Core.b64 (FP.Core.round FP.Core.b64 (.fin false A (-52))) := by
  have hw : FP.Core.Whole a.toInt (FP.Core.val64 (FP.l2d a)) := FP.Core.l2d_whole (a := a) ⟨by omega, by omega⟩
  have hz := FP.Core.DInt_zval (a := FP.l2d a) hw
  obtain ⟨L, hL⟩ : ∃ L, L = (8 * w + 1).log2 := ⟨_, rfl⟩
  have l1 : 2 ^ L ≤ 8 * w + 1 := by rw [hL]; exact Nat.log2_self_le (by omega)
  have l2 : 8 * w + 1 < 2 ^ (L + 1) := by rw [hL]; exact Nat.lt_log2_self
  have l3 : L ≤ 49 := by
    rcases Nat.lt_or_ge 49 L with q | q
    · have : 2 ^ 50 ≤ 2 ^ L := Nat.pow_le_pow_right (by decide) q
      omega
    · exact q
  have c1 : 2 ^ 52 ≤ (8 * w + 1) * 2 ^ (52 - L) := by
    have := Nat.mul_le_mul_right (2 ^ (52 - L)) l1
    rw [← Nat.pow_add, show L + (52 - L) = 52 by omega] at this
    exact this
  have c2 : (8 * w + 1) * 2 ^ (52 - L) < 2 ^ 53 := by
    have := Nat.mul_lt_mul_of_pos_right l2 (Nat.two_pow_pos (52 - L))
    rw [← Nat.pow_add, show L + 1 + (52 - L) = 53 by omega] at this
    exact this
  have hf : FP.Core.fits FP.Core.b64 (.fin false ((8 * w + 1) * 2 ^ (52 - L)) ((L : Int) - 55)) := by
    refine ⟨c2, ?_, ?_, Or.inr c1⟩
    · rw [show FP.Core.b64.qmin = -1074 from by decide]; omega
    · rw [show FP.Core.b64.qmax = 971 from by decide]; omega
  have zv : FP.Core.zval FP.Core.b64 (.fin false ((8 * w + 1) * 2 ^ (52 - L)) ((L : Int) - 55)) = (((8 * w + 1) * 2 ^ 1071 : Nat) : Int) := by
    show ((FP.Core.inUnits ((8 * w + 1) * 2 ^ (52 - L)) ((L : Int) - 55) FP.Core.b64.qmin : Nat) : Int) = _
    unfold FP.Core.inUnits
    rw [show FP.Core.b64.qmin = -1074 from by decide, show ((L : Int) - 55 - -1074).toNat = L + 1019 by omega, Nat.mul_assoc, ← Nat.pow_add, show 52 - L + (L + 1019) = 1071 by omega]
  have g := FP.Core.zval_round_ge FP.Core.good_b64 (s := false) (c := A) (q := -52) hf (by simp) (e0 := FP.Core.b64.qmin) (Int.le_refl _) (by decide) (by
    rw [zv, show (FP.Core.b64.qmin - FP.Core.b64.qmin).toNat = 0 from by decide]
    show _ ≤ ((FP.Core.inUnits A (-52) FP.Core.b64.qmin : Nat) : Int)
    unfold FP.Core.inUnits
    rw [show (-52 - FP.Core.b64.qmin).toNat = 1022 from by decide, Nat.pow_zero]
    have k : (8 * w + 1) * 2 ^ 1071 ≤ A * 2 ^ 1022 := by
      rw [show (1071 : Nat) = 49 + 1022 from rfl, own_pow 49 1022, ← Nat.mul_assoc]
      exact Nat.mul_le_mul_right _ h
    generalize (2 : Nat) ^ 1022 = X at k ⊢
    generalize (2 : Nat) ^ 1071 = Y at k ⊢
    have := Int.ofNat_le.mpr k
    simpa [Int.natCast_mul] using this)
  refine Int.lt_of_lt_of_le ?_ g
  rw [zv, hz, ha, FP.Core.one64]
  have k : w * 2 ^ 1074 < (8 * w + 1) * 2 ^ 1071 := by
    rw [show (1074 : Nat) = 3 + 1071 from rfl, own_pow 3 1071, ← Nat.mul_assoc]
    exact Nat.mul_lt_mul_of_pos_right (by omega) (Nat.two_pow_pos _)
  generalize (2 : Nat) ^ 1071 = X at k ⊢
  generalize (2 : Nat) ^ 1074 = Y at k ⊢
  have := Int.ofNat_lt.mpr k
  simpa [Int.natCast_mul] using this
/-- a little above w, by less than half a unit: rounded to w -/
theorem own_rd {A w d k : Nat} (hk1 : 2 ^ k ≤ w) (hk2 : w < 2 ^ (k + 1)) (hk3 : k ≤ 40) (hA : A = w * 2 ^ 52 + d) (hd : 2 * d < 2 ^ k) : FP.Core.round FP.Core.b64 (.fin false A (-52)) = .fin false (w * 2 ^ (52 - k)) ((k : Int) - 52) := by
  have p1 : 2 ^ (k + 52) ≤ A := by rw [Nat.pow_add]; have := Nat.mul_le_mul_right (2 ^ 52) hk1; omega
  have p2 : A < 2 ^ (k + 53) := by
    have a1 : (w + 1) * 2 ^ 52 ≤ 2 ^ (k + 1) * 2 ^ 52 := Nat.mul_le_mul_right _ hk2
    rw [← Nat.pow_add, show k + 1 + 52 = k + 53 by omega] at a1
    have a2 : 2 ^ k ≤ 2 ^ 40 := Nat.pow_le_pow_right (by decide) hk3
    omega
  have hA0 : 0 < A := Nat.lt_of_lt_of_le (Nat.two_pow_pos _) p1
  have hq : FP.Core.quantum FP.Core.b64 A 1 (-52) = (k : Int) - 52 := by
    refine FP.Core.quantum_eq hA0 (by decide) (by rw [show FP.Core.b64.qmin = -1074 from by decide]; omega) ?_ (Or.inr ?_)
    · rw [show (k : Int) - 52 - -52 + (FP.Core.b64.p : Nat) = ((k + 53 : Nat) : Int) - ((0 : Nat) : Int) by show (k : Int) - 52 - -52 + ((53 : Nat) : Int) = _; omega, FP.Core.below_iff]
      omega
    · rw [show (k : Int) - 52 - -52 + (((FP.Core.b64.p : Nat) : Int) - 1) = ((k + 52 : Nat) : Int) - ((0 : Nat) : Int) by show (k : Int) - 52 - -52 + (((53 : Nat) : Int) - 1) = _; omega, FP.Core.below_iff]
      omega
  show FP.Core.roundRatio FP.Core.b64 false A 1 (-52) = _
  unfold FP.Core.roundRatio
  rw [if_neg (by omega), hq]
  unfold FP.Core.roundAt FP.Core.unitsNum FP.Core.unitsDen
  rw [show (-52 - ((k : Int) - 52)).toNat = 0 by omega, show ((k : Int) - 52 - -52).toNat = k by omega, Nat.pow_zero, Nat.mul_one, Nat.one_mul]
  have hdiv : A = w * 2 ^ (52 - k) * 2 ^ k + d := by rw [hA, Nat.mul_assoc, ← Nat.pow_add, show 52 - k + k = 52 by omega]
  have n1 : A / 2 ^ k = w * 2 ^ (52 - k) := by
    rw [hdiv, Nat.add_comm, Nat.add_mul_div_right _ _ (Nat.two_pow_pos k), Nat.div_eq_of_lt (by omega), Nat.zero_add]
  have n2 : A % 2 ^ k = d := by
    rw [hdiv, Nat.add_comm, Nat.add_mul_mod_self_right, Nat.mod_eq_of_lt (by omega)]
  have n3 : FP.Core.nearest A (2 ^ k) = w * 2 ^ (52 - k) := by
    unfold FP.Core.nearest
    rw [n2, if_pos hd, n1]
  have c2 : w * 2 ^ (52 - k) < 2 ^ 53 := by
    have := Nat.mul_lt_mul_of_pos_right hk2 (Nat.two_pow_pos (52 - k))
    rw [← Nat.pow_add, show k + 1 + (52 - k) = 53 by omega] at this
    exact this
  rw [n3]
  unfold FP.Core.settle FP.Core.bound
  rw [if_pos (show w * 2 ^ (52 - k) < 2 ^ FP.Core.b64.p from c2), if_pos (by rw [show FP.Core.b64.qmax = 971 from by decide]; omega)]
theorem own_eqw {A w d : Nat} {a : Int64} (ha : a.toInt = w) (hw0 : 0 < w) (h1 : w < 1099511627776) (hA : A = w * 2 ^ 52 + d) (hd : 4 * d ≤ w) : FP.Core.zval FP.Core.b64 (FP.Core.round FP.Core.b64 (.fin false A (-52))) ≤ FP.Core.zval FP.Core.b64 (FP.Core.val64 (FP.l2d a)) := by
  have hw : FP.Core.Whole a.toInt (FP.Core.val64 (FP.l2d a)) := FP.Core.l2d_whole (a := a) ⟨by omega, by omega⟩
  have hz := FP.Core.DInt_zval (a := FP.l2d a) hw
  obtain ⟨k, hk⟩ : ∃ k, k = w.log2 := ⟨_, rfl⟩
  have l1 : 2 ^ k ≤ w := by rw [hk]; exact Nat.log2_self_le (by omega)
  have l2 : w < 2 ^ (k + 1) := by rw [hk]; exact Nat.lt_log2_self
  have l3 : k ≤ 40 := by
    rcases Nat.lt_or_ge 40 k with q | q
    · have : 2 ^ 41 ≤ 2 ^ k := Nat.pow_le_pow_right (by decide) q
      omega
    · exact q
  have l4 : 2 * 2 ^ k = 2 ^ (k + 1) := by rw [Nat.pow_succ, Nat.mul_comm]
  rw [own_rd l1 l2 l3 hA (by omega), hz, ha, FP.Core.one64]
  show ((FP.Core.inUnits (w * 2 ^ (52 - k)) ((k : Int) - 52) FP.Core.b64.qmin : Nat) : Int) ≤ _
  unfold FP.Core.inUnits
  rw [show FP.Core.b64.qmin = -1074 from by decide, show ((k : Int) - 52 - -1074).toNat = k + 1022 by omega, Nat.mul_assoc, ← Nat.pow_add, show 52 - k + (k + 1022) = 1074 by omega]
  generalize (2 : Nat) ^ 1074 = Y
  rw [Int.natCast_mul]; exact Int.le_refl _
/-- the four constants: 5 m = t 2^52 + r -/
theorem own_cmp {a b : Int64} {C : UInt64} {m t : Nat} (hC : FP.Core.val64 C = .fin false m (-52)) (a0 : 0 ≤ a.toInt) (a1 : a.toInt < 17179869184) (b0 : 0 < b.toInt) (b1 : b.toInt < 4294967296)
    (hm : (m = 5404319552844595 ∧ t = 6) ∨ (m = 6305039478318694 ∧ t = 7) ∨ (m = 7205759403792794 ∧ t = 8) ∨ (m = 8106479329266893 ∧ t = 9)) :
    FP.dcmp (FP.l2d a) (FP.dmul (FP.l2d b) C) = some .lt ↔ 5 * a.toInt < t * b.toInt := by
  have hv := own_mul hC (by omega) (by omega : b.toInt < 9007199254740992)
  have ea : a.toInt = (a.toInt.toNat : Int) := (Int.toNat_of_nonneg a0).symm
  have eb : b.toInt = (b.toInt.toNat : Int) := (Int.toNat_of_nonneg (by omega)).symm
  have wn : FP.Core.val64 (FP.l2d a) ≠ .nan := (FP.Core.l2d_whole (a := a) ⟨by omega, by omega⟩ : FP.Core.Whole a.toInt _).ne_nan
  have rn : FP.Core.val64 (FP.dmul (FP.l2d b) C) ≠ .nan := by
    rw [hv]; intro q
    have : FP.Core.roundRatio FP.Core.b64 false (b.toInt.toNat * m) 1 (-52) = .nan := q
    unfold FP.Core.roundRatio at this
    split at this
    · cases this
    · unfold FP.Core.roundAt FP.Core.settle FP.Core.bound at this
      split at this <;> split at this <;> cases this
  rw [show FP.dcmp (FP.l2d a) (FP.dmul (FP.l2d b) C) = _ from FP.Core.dcmp_zval wn rn, hv, FP.Core.compare_ite]
  generalize hw : a.toInt.toNat = w at *
  generalize hp : b.toInt.toNat = p at *
  constructor
  · intro h
    rcases Int.lt_or_le (5 * a.toInt) (t * b.toInt) with q | q
    · exact q
    · exfalso
      have le : FP.Core.zval FP.Core.b64 (FP.Core.round FP.Core.b64 (.fin false (p * m) (-52))) ≤ FP.Core.zval FP.Core.b64 (FP.Core.val64 (FP.l2d a)) := by
        rw [ea, eb] at q
        rcases hm with ⟨rfl, rfl⟩ | ⟨rfl, rfl⟩ | ⟨rfl, rfl⟩ | ⟨rfl, rfl⟩
        · exact own_le (w := w) ea (by omega) (by omega)
        · exact own_le (w := w) ea (by omega) (by omega)
        · by_cases z : 5 * w = 8 * p
          · exact own_eqw (w := w) (d := w / 4) ea (by omega) (by omega) (by omega) (by omega)
          · exact own_le (w := w) ea (by omega) (by omega)
        · by_cases z : 5 * w = 9 * p
          · exact own_eqw (w := w) (d := w / 9) ea (by omega) (by omega) (by omega) (by omega)
          · exact own_le (w := w) ea (by omega) (by omega)
      rw [if_neg (by omega)] at h
      split at h <;> cases h
  · intro q
    have gt := own_gt (A := p * m) (w := w) ea (by omega) (by
      rw [ea, eb] at q
      rcases hm with ⟨rfl, rfl⟩ | ⟨rfl, rfl⟩ | ⟨rfl, rfl⟩ | ⟨rfl, rfl⟩ <;> omega)
    rw [if_pos gt]

theorem own_rn {b : Int64} {C : UInt64} {m : Nat} (hC : FP.Core.val64 C = .fin false m (-52)) (h0 : 0 ≤ b.toInt) (h1 : b.toInt < 9007199254740992) : FP.Core.val64 (FP.dmul (FP.l2d b) C) ≠ .nan := by
  rw [own_mul hC h0 h1]; intro q
  have : FP.Core.roundRatio FP.Core.b64 false (b.toInt.toNat * m) 1 (-52) = .nan := q
  unfold FP.Core.roundRatio at this
  split at this
  · cases this
  · unfold FP.Core.roundAt FP.Core.settle FP.Core.bound at this
    split at this <;> split at this <;> cases this
theorem own_cv {a b : Int64} {C : UInt64} {m t : Nat} (hC : FP.Core.val64 C = .fin false m (-52)) (a0 : 0 ≤ a.toInt) (a1 : a.toInt < 17179869184) (b0 : 0 < b.toInt) (b1 : b.toInt < 4294967296)
    (hm : (m = 5404319552844595 ∧ t = 6) ∨ (m = 6305039478318694 ∧ t = 7) ∨ (m = 7205759403792794 ∧ t = 8) ∨ (m = 8106479329266893 ∧ t = 9)) :
    cmpValue (FP.dcmp (FP.l2d a) (FP.dmul (FP.l2d b) C)) .l < 0 ↔ 5 * a.toInt < t * b.toInt := by
  rw [← own_cmp hC a0 a1 b0 b1 hm]
  have wn : FP.Core.val64 (FP.l2d a) ≠ .nan := (FP.Core.l2d_whole (a := a) ⟨by omega, by omega⟩ : FP.Core.Whole a.toInt _).ne_nan
  have rn := own_rn hC (by omega) (by omega : b.toInt < 9007199254740992)
  have e : FP.dcmp (FP.l2d a) (FP.dmul (FP.l2d b) C) = some _ := FP.Core.dcmp_zval wn rn
  cases hq : FP.dcmp (FP.l2d a) (FP.dmul (FP.l2d b) C) with
  | none => rw [e] at hq; cases hq
  | some o => cases o <;> decide
theorem own_v6 : FP.Core.val64 (4608083138725491507 : UInt64) = .fin false 5404319552844595 (-52) := by decide +kernel
theorem own_c6 {a b : Int64} (a0 : 0 ≤ a.toInt) (a1 : a.toInt < 17179869184) (b0 : 0 < b.toInt) (b1 : b.toInt < 4294967296) : cmpValue (FP.dcmp (FP.l2d a) (FP.dmul (FP.l2d b) (4608083138725491507 : UInt64))) .l < 0 ↔ 5 * a.toInt < 6 * b.toInt := own_cv (t := 6) own_v6 a0 a1 b0 b1 (Or.inl ⟨rfl, rfl⟩)
theorem own_n6 {b : Int64} (b0 : 0 < b.toInt) (b1 : b.toInt < 4294967296) : Jvm.Free.Fl.NoNaN64 (FP.dmul (FP.l2d b) (4608083138725491507 : UInt64)) := Jvm.Free.Fl.val64_no.mpr (own_rn own_v6 (by omega) (by omega))
theorem own_v7 : FP.Core.val64 (4608983858650965606 : UInt64) = .fin false 6305039478318694 (-52) := by decide +kernel
theorem own_c7 {a b : Int64} (a0 : 0 ≤ a.toInt) (a1 : a.toInt < 17179869184) (b0 : 0 < b.toInt) (b1 : b.toInt < 4294967296) : cmpValue (FP.dcmp (FP.l2d a) (FP.dmul (FP.l2d b) (4608983858650965606 : UInt64))) .l < 0 ↔ 5 * a.toInt < 7 * b.toInt := own_cv (t := 7) own_v7 a0 a1 b0 b1 (Or.inr (Or.inl ⟨rfl, rfl⟩))
theorem own_n7 {b : Int64} (b0 : 0 < b.toInt) (b1 : b.toInt < 4294967296) : Jvm.Free.Fl.NoNaN64 (FP.dmul (FP.l2d b) (4608983858650965606 : UInt64)) := Jvm.Free.Fl.val64_no.mpr (own_rn own_v7 (by omega) (by omega))
theorem own_v8 : FP.Core.val64 (4609884578576439706 : UInt64) = .fin false 7205759403792794 (-52) := by decide +kernel
theorem own_c8 {a b : Int64} (a0 : 0 ≤ a.toInt) (a1 : a.toInt < 17179869184) (b0 : 0 < b.toInt) (b1 : b.toInt < 4294967296) : cmpValue (FP.dcmp (FP.l2d a) (FP.dmul (FP.l2d b) (4609884578576439706 : UInt64))) .l < 0 ↔ 5 * a.toInt < 8 * b.toInt := own_cv (t := 8) own_v8 a0 a1 b0 b1 (Or.inr (Or.inr (Or.inl ⟨rfl, rfl⟩)))
theorem own_n8 {b : Int64} (b0 : 0 < b.toInt) (b1 : b.toInt < 4294967296) : Jvm.Free.Fl.NoNaN64 (FP.dmul (FP.l2d b) (4609884578576439706 : UInt64)) := Jvm.Free.Fl.val64_no.mpr (own_rn own_v8 (by omega) (by omega))
theorem own_v9 : FP.Core.val64 (4610785298501913805 : UInt64) = .fin false 8106479329266893 (-52) := by decide +kernel
theorem own_c9 {a b : Int64} (a0 : 0 ≤ a.toInt) (a1 : a.toInt < 17179869184) (b0 : 0 < b.toInt) (b1 : b.toInt < 4294967296) : cmpValue (FP.dcmp (FP.l2d a) (FP.dmul (FP.l2d b) (4610785298501913805 : UInt64))) .l < 0 ↔ 5 * a.toInt < 9 * b.toInt := own_cv (t := 9) own_v9 a0 a1 b0 b1 (Or.inr (Or.inr (Or.inr ⟨rfl, rfl⟩)))
theorem own_n9 {b : Int64} (b0 : 0 < b.toInt) (b1 : b.toInt < 4294967296) : Jvm.Free.Fl.NoNaN64 (FP.dmul (FP.l2d b) (4610785298501913805 : UInt64)) := Jvm.Free.Fl.val64_no.mpr (own_rn own_v9 (by omega) (by omega))
/-- the rating, in whole numbers -/
def own_dec (r : Int32) (P : Prop) [Decidable P] : Int32 := if P then r else r + (-1)
def own_rate (w p : Int64) : Int32 := if p = 0 then (if w = 0 then 5 else 1) else own_dec (own_dec (own_dec (own_dec 5 (5 * w.toInt < 6 * p.toInt)) (5 * w.toInt < 7 * p.toInt)) (5 * w.toInt < 8 * p.toInt)) (5 * w.toInt < 9 * p.toInt)
theorem own_rv {w p : Int64} (hp : ¬ p = 0) (p0 : 0 ≤ p.toInt) : (¬ 5 * w.toInt < 9 * p.toInt → own_rate w p = 1) ∧ (5 * w.toInt < 9 * p.toInt → ¬ 5 * w.toInt < 8 * p.toInt → own_rate w p = 2) ∧ (5 * w.toInt < 8 * p.toInt → ¬ 5 * w.toInt < 7 * p.toInt → own_rate w p = 3)
    ∧ (5 * w.toInt < 7 * p.toInt → ¬ 5 * w.toInt < 6 * p.toInt → own_rate w p = 4) ∧ (5 * w.toInt < 6 * p.toInt → own_rate w p = 5) := by
  unfold own_rate own_dec
  rw [if_neg hp]
  refine ⟨fun h9 => ?_, fun h9 h8 => ?_, fun h8 h7 => ?_, fun h7 h6 => ?_, fun h6 => ?_⟩
  · simp only [if_neg h9, if_neg (show ¬ 5 * w.toInt < 8 * p.toInt by omega), if_neg (show ¬ 5 * w.toInt < 7 * p.toInt by omega), if_neg (show ¬ 5 * w.toInt < 6 * p.toInt by omega)]; first | done | decide
  · simp only [if_pos h9, if_neg h8, if_neg (show ¬ 5 * w.toInt < 7 * p.toInt by omega), if_neg (show ¬ 5 * w.toInt < 6 * p.toInt by omega)]; first | done | decide
  · simp only [if_pos (show 5 * w.toInt < 9 * p.toInt by omega), if_pos h8, if_neg h7, if_neg (show ¬ 5 * w.toInt < 6 * p.toInt by omega)]; first | done | decide
  · simp only [if_pos (show 5 * w.toInt < 9 * p.toInt by omega), if_pos (show 5 * w.toInt < 8 * p.toInt by omega), if_pos h7, if_neg h6]; first | done | decide
  · simp only [if_pos (show 5 * w.toInt < 9 * p.toInt by omega), if_pos (show 5 * w.toInt < 8 * p.toInt by omega), if_pos (show 5 * w.toInt < 7 * p.toInt by omega), if_pos h6]; first | done | decide
theorem own_m {x q : Int64} {n : Int} (h : q.toInt = n) (n0 : 0 ≤ n) (n1 : n ≤ 12) (x0 : 0 ≤ x.toInt) (x1 : x.toInt < 17179869184) : (q * x).toInt = n * x.toInt := by
  have g1 : 0 ≤ n * x.toInt := Int.mul_nonneg n0 x0
  have g2 : n * x.toInt ≤ 12 * x.toInt := Int.mul_le_mul_of_nonneg_right n1 x0
  rw [← h] at g1 g2 ⊢
  exact Jvm.Kit.i64_mul (by omega) (by omega)
theorem own_lw {a b q : Int64} {n : Int} (h : q.toInt = n) (n0 : 0 ≤ n) (n1 : n ≤ 12) (a0 : 0 ≤ a.toInt) (a1 : a.toInt < 17179869184) (b0 : 0 ≤ b.toInt) (b1 : b.toInt < 4294967296) : lcmpW ((5 : Int64) * a) (q * b) < 0 ↔ 5 * a.toInt < n * b.toInt := by
  rw [lw_lt, Int64.lt_iff_toInt_lt, own_m (n := 5) (by decide) (by decide) (by decide) a0 a1, own_m h n0 n1 b0 (by omega)]
theorem own_k31 (i : Int32) : 0 ≤ (i.toInt64 &&& (2147483647 : Int64)).toInt ∧ (i.toInt64 &&& (2147483647 : Int64)).toInt < 2147483648 := by
  rw [c_maskL i.toInt64 2147483647 31 (by decide) (by decide)]; omega
theorem own_k28 (i : Int32) : 0 ≤ (i.toInt64 &&& (268435455 : Int64)).toInt ∧ (i.toInt64 &&& (268435455 : Int64)).toInt < 268435456 := by
  rw [c_maskL i.toInt64 268435455 28 (by decide) (by decide)]; omega
theorem own_wl {x : Int64} {y z : Int32} (h0 : 0 ≤ x.toInt) (h1 : x.toInt < 268435456) : -1 ≤ (x * ((5 : Int64) + (y &&& (7 : Int32)).toInt64) + ((z &&& (3 : Int32)).toInt64 - (1 : Int64))).toInt ∧ (x * ((5 : Int64) + (y &&& (7 : Int32)).toInt64) + ((z &&& (3 : Int32)).toInt64 - (1 : Int64))).toInt < 4294967296 := by
  have y1 := c_and y 7 (by decide)
  have z1 := c_and z 3 (by decide)
  rw [show (7 : Int32).toInt = 7 by decide] at y1
  rw [show (3 : Int32).toInt = 3 by decide] at z1
  have e1 : ((5 : Int64) + (y &&& (7 : Int32)).toInt64).toInt = 5 + (y &&& (7 : Int32)).toInt := by
    rw [Jvm.Kit.i64_add, Jvm.Kit.i64_of_i32, show (5 : Int64).toInt = 5 by decide] <;> rw [Jvm.Kit.i64_of_i32, show (5 : Int64).toInt = 5 by decide] <;> omega
  have e2 : ((z &&& (3 : Int32)).toInt64 - (1 : Int64)).toInt = (z &&& (3 : Int32)).toInt - 1 := by
    rw [Jvm.Kit.i64_sub, Jvm.Kit.i64_of_i32, show (1 : Int64).toInt = 1 by decide] <;> rw [Jvm.Kit.i64_of_i32, show (1 : Int64).toInt = 1 by decide] <;> omega
  generalize (5 : Int64) + (y &&& (7 : Int32)).toInt64 = u at *
  generalize (z &&& (3 : Int32)).toInt64 - (1 : Int64) = v at *
  have e3 : (x * u).toInt = u.toInt * x.toInt := by rw [Int64.mul_comm]; exact own_m rfl (by omega) (by omega) h0 (by omega)
  have g1 : 0 ≤ u.toInt * x.toInt := Int.mul_nonneg (by omega) h0
  have g2 : u.toInt * x.toInt ≤ 12 * x.toInt := Int.mul_le_mul_of_nonneg_right (by omega) h0
  rw [Jvm.Kit.i64_add (by rw [e3]; omega) (by rw [e3]; omega), e3]
  omega
theorem own_d0 : FP.dconst0 = FP.l2d 0 := by decide +kernel
theorem own_b0 : B53 0 := ⟨by decide, by decide⟩
theorem own_pos {q : Int64} (h : ¬ q = 0) (h0 : 0 ≤ q.toInt) : 0 < q.toInt := by
  rcases Int.lt_or_eq_of_le h0 with r | r
  · exact r
  · exact absurd (Int64.toInt_inj.mp (r.symm.trans (by decide))) h
theorem own_sz {n : Nat} {z : Int32} (q : n < 2 ^ 31) (e : n.toInt32 = z) : n = z.toNatClampNeg := by rw [← e]; simp only [Int32.toNatClampNeg, len_toInt q]; rfl
theorem own_eqd {Z : State} {args : Array Value} {X F : Term} {y : UInt64} (hF : F.eval args Z none [] Z = some (.double y)) (h : (Jvm.Cond.eq X F).value args Z none Z [] = some true) : X.eval args Z none [] Z = some (.double y) := by
  obtain ⟨x, y', e1, e2, k1, k2⟩ := cmp_v (Or.inl h)
  cases hF.symm.trans e2
  obtain ⟨z, rfl⟩ : ∃ z, x = .double z := k2
  have q : z = y := by simpa [Jvm.Cond.value, e1, hF] using h
  subst q; exact e1
theorem own_pn0 : plainName "com/example/matres/matres/sim/ServiceRating" = true := by first | (simp [plainName, overriddenIn]; done) | decide +kernel
theorem own_d1_0 : decode prog_112_method_2_code 0 = .ok (.dload_n 2, 1) := by decide +kernel
theorem own_d1_1 : decode prog_112_method_2_code 1 = .ok (.dconst 0, 1) := by decide +kernel
theorem own_d1_2 : decode prog_112_method_2_code 2 = .ok (.dcmp .l, 1) := by decide +kernel
theorem own_d1_3 : decode prog_112_method_2_code 3 = .ok (.ifCond .ne 19, 3) := by decide +kernel
theorem own_d1_6 : decode prog_112_method_2_code 6 = .ok (.dload_n 0, 1) := by decide +kernel
theorem own_d1_7 : decode prog_112_method_2_code 7 = .ok (.dconst 0, 1) := by decide +kernel
theorem own_d1_8 : decode prog_112_method_2_code 8 = .ok (.dcmp .l, 1) := by decide +kernel
theorem own_d1_9 : decode prog_112_method_2_code 9 = .ok (.ifCond .ne 7, 3) := by decide +kernel
theorem own_d1_12 : decode prog_112_method_2_code 12 = .ok (.iconst 5, 1) := by decide +kernel
theorem own_d1_13 : decode prog_112_method_2_code 13 = .ok (.goto 4, 3) := by decide +kernel
theorem own_d1_16 : decode prog_112_method_2_code 16 = .ok (.iconst 1, 1) := by decide +kernel
theorem own_d1_17 : decode prog_112_method_2_code 17 = .ok (.istore 4, 2) := by decide +kernel
theorem own_d1_19 : decode prog_112_method_2_code 19 = .ok (.goto 51, 3) := by decide +kernel
theorem own_d1_22 : decode prog_112_method_2_code 22 = .ok (.iconst 5, 1) := by decide +kernel
theorem own_d1_23 : decode prog_112_method_2_code 23 = .ok (.istore 4, 2) := by decide +kernel
theorem own_d1_25 : decode prog_112_method_2_code 25 = .ok (.getstatic 9, 3) := by decide +kernel
theorem own_d1_28 : decode prog_112_method_2_code 28 = .ok (.astore 5, 2) := by decide +kernel
theorem own_d1_30 : decode prog_112_method_2_code 30 = .ok (.aload 5, 2) := by decide +kernel
theorem own_d1_32 : decode prog_112_method_2_code 32 = .ok (.arraylength, 1) := by decide +kernel
theorem own_d1_33 : decode prog_112_method_2_code 33 = .ok (.istore 6, 2) := by decide +kernel
theorem own_d1_35 : decode prog_112_method_2_code 35 = .ok (.iconst 0, 1) := by decide +kernel
theorem own_d1_36 : decode prog_112_method_2_code 36 = .ok (.istore 7, 2) := by decide +kernel
theorem own_d1_38 : decode prog_112_method_2_code 38 = .ok (.iload 7, 2) := by decide +kernel
theorem own_d1_40 : decode prog_112_method_2_code 40 = .ok (.iload 6, 2) := by decide +kernel
theorem own_d1_42 : decode prog_112_method_2_code 42 = .ok (.if_icmp .ge 28, 3) := by decide +kernel
theorem own_d1_45 : decode prog_112_method_2_code 45 = .ok (.aload 5, 2) := by decide +kernel
theorem own_d1_47 : decode prog_112_method_2_code 47 = .ok (.iload 7, 2) := by decide +kernel
theorem own_d1_49 : decode prog_112_method_2_code 49 = .ok (.daload, 1) := by decide +kernel
theorem own_d1_50 : decode prog_112_method_2_code 50 = .ok (.dstore 8, 2) := by decide +kernel
theorem own_d1_52 : decode prog_112_method_2_code 52 = .ok (.dload_n 0, 1) := by decide +kernel
theorem own_d1_53 : decode prog_112_method_2_code 53 = .ok (.dload_n 2, 1) := by decide +kernel
theorem own_d1_54 : decode prog_112_method_2_code 54 = .ok (.dload 8, 2) := by decide +kernel
theorem own_d1_56 : decode prog_112_method_2_code 56 = .ok (.dmul, 1) := by decide +kernel
theorem own_d1_57 : decode prog_112_method_2_code 57 = .ok (.dcmp .l, 1) := by decide +kernel
theorem own_d1_58 : decode prog_112_method_2_code 58 = .ok (.ifCond .lt 6, 3) := by decide +kernel
theorem own_d1_61 : decode prog_112_method_2_code 61 = .ok (.iinc 4 (-1), 3) := by decide +kernel
theorem own_d1_64 : decode prog_112_method_2_code 64 = .ok (.iinc 7 1, 3) := by decide +kernel
theorem own_d1_67 : decode prog_112_method_2_code 67 = .ok (.goto (-29), 3) := by decide +kernel
theorem own_d1_70 : decode prog_112_method_2_code 70 = .ok (.iload 4, 2) := by decide +kernel
theorem own_d1_72 : decode prog_112_method_2_code 72 = .ok (.ireturn, 1) := by decide +kernel
theorem own_ef1 (m : MethodId) (wd : UInt64) (pd : UInt64) : entryFrame m #[(.double wd), (.double pd)] 10 = mkF m 0 #[.val (.double wd), .second, .val (.double pd), .second, .unset, .unset, .unset, .unset, .unset, .unset] [] := by first | (simp [entryFrame, mkF, argsToLocals, Value.category]; done) | rfl
set_option maxRecDepth 65536 in
set_option maxHeartbeats 40000000 in
theorem own_rm1 (l : Launch) (Z : State) (a0 : Array Value) (hw : ∀ d ∈ tables_1, d.before a0 Z = true) (ws : List Jvm.Cond) (wl pl : Int64) (wd pd : UInt64) (dA : Addr) (cA : Cell) (h0 : Heap) (n0 : Nat) (Z0 : n0 ≤ h0.size) (hwd : wd = FP.l2d wl) (hpd : pd = FP.l2d pl) (u0 : 0 ≤ wl.toInt) (u1 : wl.toInt < 17179869184) (v0 : 0 ≤ pl.toInt) (v1 : pl.toInt < 4294967296) (Sx : Sta Z h0 "com/example/matres/matres/sim/ServiceRating" "EXCEEDED" "[D" (.ref dA)) (Ax : Arr Z h0 dA cA .double) (sz : cA.slots.size = (4 : Int32).toNatClampNeg) (x0 : cA.slots[0]? = some (.double (4608083138725491507 : UInt64))) (x1 : cA.slots[1]? = some (.double (4608983858650965606 : UInt64))) (x2 : cA.slots[2]? = some (.double (4609884578576439706 : UInt64))) (x3 : cA.slots[3]? = some (.double (4610785298501913805 : UInt64))) :
    MetFree l (⟨"com/example/matres/matres/sim/ServiceRating", "of", "(DD)I"⟩ : MethodName) (head1 (Jvm.Cond.code (⟨"com/example/matres/matres/sim/ServiceRating", "of", "(DD)I"⟩ : MethodName) prog_112_method_2_code 10 (some .int) :: ws) ({ frames := 0, cells := 0, slots := 0, locals := 0 } : Room)) (fun a U => a = #[(.double wd), (.double pd)] ∧ Z.Warmed39 U.vm ∧ U.heap = h0) (fun _ _ _ _ _ => True) (fun _ U o U' => ∃ v L, o = .returned v ∧ own_Qp (some (.int (own_rate wl pl))) h0 n0 v U'.heap L ∧ FrameEnd U o U' L ({ frames := 0, cells := 0, slots := 0, locals := 0 } : Room).cells ({ frames := 0, cells := 0, slots := 0, locals := 0 } : Room).slots) := by
  refine MetFree.of_bodySF (plainFor_of_name own_pn0) hisR ?_
  intro p e s m args below meth c s₁ Bd hml0 hP hK
  obtain ⟨rfl, hZ, hh⟩ := hP
  have hx := Bd.exec
  have hby := Bd.bytes
  have hml : c.maxLocals = 10 := hml0
  have hown : s.vm.findClass "com/example/matres/matres/sim/ServiceRating" = some m.cls := findClass_of_methodNamed Bd.named
  have hnm := (name_of_methodNamed Bd.named Bd.method).1
  have X0 : Stand p l e ({ frames := 0, cells := 0, slots := 0, locals := 0 } : Room) s m #[(.double wd), (.double pd)] below meth c s₁ [] 0 0 := Stand.of_body Bd
  have e0 : s₁.heap = h0 := by rw [← hh, Bd.state]; rfl
  have N0 := Fr.nil n0
  refine own_in (Q := own_Qp (some (.int (own_rate wl pl))) h0 n0) ?_
  rw [own_ef1]
  show own_G _ _ _ _ _ _ _ (s₁.setTop (mkF m 0 #[.val (.double wd), .second, .val (.double pd), .second, .unset, .unset, .unset, .unset, .unset, .unset] []))
  refine own_st (fun t k => XS.dloadN X0.here hx rfl (hb hby own_d1_0) rfl k) ?_
  show own_G _ _ _ _ _ _ _ (s₁.setTop (mkF m 1 #[.val (.double wd), .second, .val (.double pd), .second, .unset, .unset, .unset, .unset, .unset, .unset] [(.double pd)]))
  refine own_st (fun t k => XS.dconst0 X0.here hx rfl (hb hby own_d1_1) (v := FP.l2d 0) own_d0 k) ?_
  show own_G _ _ _ _ _ _ _ (s₁.setTop (mkF m 2 #[.val (.double wd), .second, .val (.double pd), .second, .unset, .unset, .unset, .unset, .unset, .unset] [(.double (FP.l2d 0)), (.double pd)]))
  refine own_st (fun t k => XS.dcmpS X0.here hx rfl (hb hby own_d1_2) rfl (v := (lcmpW pl (0 : Int64))) (by rw [hpd]; exact dcmpV_w ⟨by omega, by omega⟩ own_b0 .l) k) ?_
  show own_G _ _ _ _ _ _ _ (s₁.setTop (mkF m 3 #[.val (.double wd), .second, .val (.double pd), .second, .unset, .unset, .unset, .unset, .unset, .unset] [(.int (lcmpW pl (0 : Int64)))]))
  by_cases hp : (lcmpW pl (0 : Int64)) = (0 : Int32)
  · refine own_st (fun t k => XS.ifNo X0.here hx rfl (hb hby own_d1_3) rfl ((if0 _ _).trans (teq hp).2) k) ?_
    show own_G _ _ _ _ _ _ _ (s₁.setTop (mkF m 6 #[.val (.double wd), .second, .val (.double pd), .second, .unset, .unset, .unset, .unset, .unset, .unset] []))
    refine own_st (fun t k => XS.dloadN X0.here hx rfl (hb hby own_d1_6) rfl k) ?_
    show own_G _ _ _ _ _ _ _ (s₁.setTop (mkF m 7 #[.val (.double wd), .second, .val (.double pd), .second, .unset, .unset, .unset, .unset, .unset, .unset] [(.double wd)]))
    refine own_st (fun t k => XS.dconst0 X0.here hx rfl (hb hby own_d1_7) (v := FP.l2d 0) own_d0 k) ?_
    show own_G _ _ _ _ _ _ _ (s₁.setTop (mkF m 8 #[.val (.double wd), .second, .val (.double pd), .second, .unset, .unset, .unset, .unset, .unset, .unset] [(.double (FP.l2d 0)), (.double wd)]))
    refine own_st (fun t k => XS.dcmpS X0.here hx rfl (hb hby own_d1_8) rfl (v := (lcmpW wl (0 : Int64))) (by rw [hwd]; exact dcmpV_w ⟨by omega, by omega⟩ own_b0 .l) k) ?_
    show own_G _ _ _ _ _ _ _ (s₁.setTop (mkF m 9 #[.val (.double wd), .second, .val (.double pd), .second, .unset, .unset, .unset, .unset, .unset, .unset] [(.int (lcmpW wl (0 : Int64)))]))
    by_cases hq : (lcmpW wl (0 : Int64)) = (0 : Int32)
    · refine own_st (fun t k => XS.ifNo X0.here hx rfl (hb hby own_d1_9) rfl ((if0 _ _).trans (teq hq).2) k) ?_
      show own_G _ _ _ _ _ _ _ (s₁.setTop (mkF m 12 #[.val (.double wd), .second, .val (.double pd), .second, .unset, .unset, .unset, .unset, .unset, .unset] []))
      refine own_st (fun t k => XS.iconst X0.here hx rfl (hb hby own_d1_12) k) ?_
      show own_G _ _ _ _ _ _ _ (s₁.setTop (mkF m 13 #[.val (.double wd), .second, .val (.double pd), .second, .unset, .unset, .unset, .unset, .unset, .unset] [(.int (5 : Int32))]))
      refine own_st (fun t k => XS.goto X0.here hx rfl (pc0 := 13) (pc' := 17) rfl (hb hby own_d1_13) (by decide) (by decide) k) ?_
      show own_G _ _ _ _ _ _ _ (s₁.setTop (mkF m 17 #[.val (.double wd), .second, .val (.double pd), .second, .unset, .unset, .unset, .unset, .unset, .unset] [(.int (5 : Int32))]))
      refine own_st (fun t k => XS.istore X0.here hx rfl (hb hby own_d1_17) rfl (l' := #[.val (.double wd), .second, .val (.double pd), .second, .val (.int (5 : Int32)), .unset, .unset, .unset, .unset, .unset]) rfl k) ?_
      show own_G _ _ _ _ _ _ _ (s₁.setTop (mkF m 19 #[.val (.double wd), .second, .val (.double pd), .second, .val (.int (5 : Int32)), .unset, .unset, .unset, .unset, .unset] []))
      refine own_st (fun t k => XS.goto X0.here hx rfl (pc0 := 19) (pc' := 70) rfl (hb hby own_d1_19) (by decide) (by decide) k) ?_
      show own_G _ _ _ _ _ _ _ (s₁.setTop (mkF m 70 #[.val (.double wd), .second, .val (.double pd), .second, .val (.int (5 : Int32)), .unset, .unset, .unset, .unset, .unset] []))
      refine own_st (fun t k => XS.iload X0.here hx rfl (hb hby own_d1_70) rfl k) ?_
      show own_G _ _ _ _ _ _ _ (s₁.setTop (mkF m 72 #[.val (.double wd), .second, .val (.double pd), .second, .val (.int (5 : Int32)), .unset, .unset, .unset, .unset, .unset] [(.int (5 : Int32))]))
      exact own_retI X0 hx Bd.returns (BodyLoose.notSynchronized Bd) (hb hby own_d1_72) (by decide) (by decide) ⟨by rw [own_rate, if_pos ((lw_eq _ _).mp hp), if_pos ((lw_eq _ _).mp hq)], N0, e0⟩
    · refine own_st (fun t k => XS.ifYes X0.here hx rfl (pc0 := 9) (pc' := 16) rfl (hb hby own_d1_9) rfl ((if0 _ _).trans (feq hq).2) (by decide) (by decide) k) ?_
      show own_G _ _ _ _ _ _ _ (s₁.setTop (mkF m 16 #[.val (.double wd), .second, .val (.double pd), .second, .unset, .unset, .unset, .unset, .unset, .unset] []))
      refine own_st (fun t k => XS.iconst X0.here hx rfl (hb hby own_d1_16) k) ?_
      show own_G _ _ _ _ _ _ _ (s₁.setTop (mkF m 17 #[.val (.double wd), .second, .val (.double pd), .second, .unset, .unset, .unset, .unset, .unset, .unset] [(.int (1 : Int32))]))
      refine own_st (fun t k => XS.istore X0.here hx rfl (hb hby own_d1_17) rfl (l' := #[.val (.double wd), .second, .val (.double pd), .second, .val (.int (1 : Int32)), .unset, .unset, .unset, .unset, .unset]) rfl k) ?_
      show own_G _ _ _ _ _ _ _ (s₁.setTop (mkF m 19 #[.val (.double wd), .second, .val (.double pd), .second, .val (.int (1 : Int32)), .unset, .unset, .unset, .unset, .unset] []))
      refine own_st (fun t k => XS.goto X0.here hx rfl (pc0 := 19) (pc' := 70) rfl (hb hby own_d1_19) (by decide) (by decide) k) ?_
      show own_G _ _ _ _ _ _ _ (s₁.setTop (mkF m 70 #[.val (.double wd), .second, .val (.double pd), .second, .val (.int (1 : Int32)), .unset, .unset, .unset, .unset, .unset] []))
      refine own_st (fun t k => XS.iload X0.here hx rfl (hb hby own_d1_70) rfl k) ?_
      show own_G _ _ _ _ _ _ _ (s₁.setTop (mkF m 72 #[.val (.double wd), .second, .val (.double pd), .second, .val (.int (1 : Int32)), .unset, .unset, .unset, .unset, .unset] [(.int (1 : Int32))]))
      exact own_retI X0 hx Bd.returns (BodyLoose.notSynchronized Bd) (hb hby own_d1_72) (by decide) (by decide) ⟨by rw [own_rate, if_pos ((lw_eq _ _).mp hp), if_neg (fun q => hq ((lw_eq _ _).mpr q))], N0, e0⟩
  · refine own_st (fun t k => XS.ifYes X0.here hx rfl (pc0 := 3) (pc' := 22) rfl (hb hby own_d1_3) rfl ((if0 _ _).trans (feq hp).2) (by decide) (by decide) k) ?_
    show own_G _ _ _ _ _ _ _ (s₁.setTop (mkF m 22 #[.val (.double wd), .second, .val (.double pd), .second, .unset, .unset, .unset, .unset, .unset, .unset] []))
    have hp0 : ¬ pl = 0 := (fun q => hp ((lw_eq _ _).mpr q))
    have pp : 0 < pl.toInt := own_pos hp0 v0
    have n6 : Jvm.Free.Fl.NoNaN64 (FP.dmul pd (4608083138725491507 : UInt64)) := by rw [hpd]; exact own_n6 pp v1
    have c6 : cmpValue (FP.dcmp wd (FP.dmul pd (4608083138725491507 : UInt64))) .l < 0 ↔ 5 * wl.toInt < 6 * pl.toInt := by rw [hwd, hpd]; exact own_c6 u0 u1 pp v1
    have n7 : Jvm.Free.Fl.NoNaN64 (FP.dmul pd (4608983858650965606 : UInt64)) := by rw [hpd]; exact own_n7 pp v1
    have c7 : cmpValue (FP.dcmp wd (FP.dmul pd (4608983858650965606 : UInt64))) .l < 0 ↔ 5 * wl.toInt < 7 * pl.toInt := by rw [hwd, hpd]; exact own_c7 u0 u1 pp v1
    have n8 : Jvm.Free.Fl.NoNaN64 (FP.dmul pd (4609884578576439706 : UInt64)) := by rw [hpd]; exact own_n8 pp v1
    have c8 : cmpValue (FP.dcmp wd (FP.dmul pd (4609884578576439706 : UInt64))) .l < 0 ↔ 5 * wl.toInt < 8 * pl.toInt := by rw [hwd, hpd]; exact own_c8 u0 u1 pp v1
    have n9 : Jvm.Free.Fl.NoNaN64 (FP.dmul pd (4610785298501913805 : UInt64)) := by rw [hpd]; exact own_n9 pp v1
    have c9 : cmpValue (FP.dcmp wd (FP.dmul pd (4610785298501913805 : UInt64))) .l < 0 ↔ 5 * wl.toInt < 9 * pl.toInt := by rw [hwd, hpd]; exact own_c9 u0 u1 pp v1
    refine own_st (fun t k => XS.iconst X0.here hx rfl (hb hby own_d1_22) k) ?_
    show own_G _ _ _ _ _ _ _ (s₁.setTop (mkF m 23 #[.val (.double wd), .second, .val (.double pd), .second, .unset, .unset, .unset, .unset, .unset, .unset] [(.int (5 : Int32))]))
    refine own_st (fun t k => XS.istore X0.here hx rfl (hb hby own_d1_23) rfl (l' := #[.val (.double wd), .second, .val (.double pd), .second, .val (.int (5 : Int32)), .unset, .unset, .unset, .unset, .unset]) rfl k) ?_
    show own_G _ _ _ _ _ _ _ (s₁.setTop (mkF m 25 #[.val (.double wd), .second, .val (.double pd), .second, .val (.int (5 : Int32)), .unset, .unset, .unset, .unset, .unset] []))
    obtain ⟨T1, X1, e1, st1⟩ := getS2 X0 hx hZ hown (host := "") (Or.inl (hw _ (List.mem_of_getElem? (i := 5) rfl))) Via.refl e0 Sx (g := (mkF m 25 #[.val (.double wd), .second, .val (.double pd), .second, .val (.int (5 : Int32)), .unset, .unset, .unset, .unset, .unset] [])) rfl (hb hby own_d1_25)
    refine own_st (fun t k => st1 t k) ?_
    show own_G _ _ _ _ _ _ _ (T1.setTop (mkF m 28 #[.val (.double wd), .second, .val (.double pd), .second, .val (.int (5 : Int32)), .unset, .unset, .unset, .unset, .unset] [(.ref dA)]))
    refine own_st (fun t k => XS.astore X1.here hx rfl (hb hby own_d1_28) rfl rfl (l' := #[.val (.double wd), .second, .val (.double pd), .second, .val (.int (5 : Int32)), .val (.ref dA), .unset, .unset, .unset, .unset]) rfl k) ?_
    show own_G _ _ _ _ _ _ _ (T1.setTop (mkF m 30 #[.val (.double wd), .second, .val (.double pd), .second, .val (.int (5 : Int32)), .val (.ref dA), .unset, .unset, .unset, .unset] []))
    refine own_st (fun t k => XS.aload X1.here hx rfl (hb hby own_d1_30) rfl rfl k) ?_
    show own_G _ _ _ _ _ _ _ (T1.setTop (mkF m 32 #[.val (.double wd), .second, .val (.double pd), .second, .val (.int (5 : Int32)), .val (.ref dA), .unset, .unset, .unset, .unset] [(.ref dA)]))
    refine own_st (fun t k => X1.arraylength hx (by rw [e1]; exact Ax.1) (State.isArrayOf_alike hZ.alike Ax.2.1) (g := (mkF m 32 #[.val (.double wd), .second, .val (.double pd), .second, .val (.int (5 : Int32)), .val (.ref dA), .unset, .unset, .unset, .unset] [(.ref dA)])) rfl rfl (hb hby own_d1_32) t k) ?_
    rw [len_of sz (by decide)]
    show own_G _ _ _ _ _ _ _ (T1.setTop (mkF m 33 #[.val (.double wd), .second, .val (.double pd), .second, .val (.int (5 : Int32)), .val (.ref dA), .unset, .unset, .unset, .unset] [(.int (4 : Int32))]))
    refine own_st (fun t k => XS.istore X1.here hx rfl (hb hby own_d1_33) rfl (l' := #[.val (.double wd), .second, .val (.double pd), .second, .val (.int (5 : Int32)), .val (.ref dA), .val (.int (4 : Int32)), .unset, .unset, .unset]) rfl k) ?_
    show own_G _ _ _ _ _ _ _ (T1.setTop (mkF m 35 #[.val (.double wd), .second, .val (.double pd), .second, .val (.int (5 : Int32)), .val (.ref dA), .val (.int (4 : Int32)), .unset, .unset, .unset] []))
    refine own_st (fun t k => XS.iconst X1.here hx rfl (hb hby own_d1_35) k) ?_
    show own_G _ _ _ _ _ _ _ (T1.setTop (mkF m 36 #[.val (.double wd), .second, .val (.double pd), .second, .val (.int (5 : Int32)), .val (.ref dA), .val (.int (4 : Int32)), .unset, .unset, .unset] [(.int (0 : Int32))]))
    refine own_st (fun t k => XS.istore X1.here hx rfl (hb hby own_d1_36) rfl (l' := #[.val (.double wd), .second, .val (.double pd), .second, .val (.int (5 : Int32)), .val (.ref dA), .val (.int (4 : Int32)), .val (.int (0 : Int32)), .unset, .unset]) rfl k) ?_
    show own_G _ _ _ _ _ _ _ (T1.setTop (mkF m 38 #[.val (.double wd), .second, .val (.double pd), .second, .val (.int (5 : Int32)), .val (.ref dA), .val (.int (4 : Int32)), .val (.int (0 : Int32)), .unset, .unset] []))
    refine own_st (fun t k => XS.iload X1.here hx rfl (hb hby own_d1_38) rfl k) ?_
    show own_G _ _ _ _ _ _ _ (T1.setTop (mkF m 40 #[.val (.double wd), .second, .val (.double pd), .second, .val (.int (5 : Int32)), .val (.ref dA), .val (.int (4 : Int32)), .val (.int (0 : Int32)), .unset, .unset] [(.int (0 : Int32))]))
    refine own_st (fun t k => XS.iload X1.here hx rfl (hb hby own_d1_40) rfl k) ?_
    show own_G _ _ _ _ _ _ _ (T1.setTop (mkF m 42 #[.val (.double wd), .second, .val (.double pd), .second, .val (.int (5 : Int32)), .val (.ref dA), .val (.int (4 : Int32)), .val (.int (0 : Int32)), .unset, .unset] [(.int (4 : Int32)), (.int (0 : Int32))]))
    refine own_st (fun t k => XS.icmpNo X1.here hx rfl (hb hby own_d1_42) rfl (tlt (by decide)).2.1 k) ?_
    show own_G _ _ _ _ _ _ _ (T1.setTop (mkF m 45 #[.val (.double wd), .second, .val (.double pd), .second, .val (.int (5 : Int32)), .val (.ref dA), .val (.int (4 : Int32)), .val (.int (0 : Int32)), .unset, .unset] []))
    refine own_st (fun t k => XS.aload X1.here hx rfl (hb hby own_d1_45) rfl rfl k) ?_
    show own_G _ _ _ _ _ _ _ (T1.setTop (mkF m 47 #[.val (.double wd), .second, .val (.double pd), .second, .val (.int (5 : Int32)), .val (.ref dA), .val (.int (4 : Int32)), .val (.int (0 : Int32)), .unset, .unset] [(.ref dA)]))
    refine own_st (fun t k => XS.iload X1.here hx rfl (hb hby own_d1_47) rfl k) ?_
    show own_G _ _ _ _ _ _ _ (T1.setTop (mkF m 49 #[.val (.double wd), .second, .val (.double pd), .second, .val (.int (5 : Int32)), .val (.ref dA), .val (.int (4 : Int32)), .val (.int (0 : Int32)), .unset, .unset] [(.int (0 : Int32)), (.ref dA)]))
    refine own_st (fun t k => X1.daload hx (j := (0 : Int32)) (v := (.double (4608083138725491507 : UInt64))) (by rw [e1]; exact Ax.1) (State.isArrayOf_alike hZ.alike Ax.2.1) Ax.2.2 (inb_of sz ⟨by decide, by decide⟩) x0 (g := (mkF m 49 #[.val (.double wd), .second, .val (.double pd), .second, .val (.int (5 : Int32)), .val (.ref dA), .val (.int (4 : Int32)), .val (.int (0 : Int32)), .unset, .unset] [(.int (0 : Int32)), (.ref dA)])) rfl rfl (hb hby own_d1_49) t k) ?_
    show own_G _ _ _ _ _ _ _ (T1.setTop (mkF m 50 #[.val (.double wd), .second, .val (.double pd), .second, .val (.int (5 : Int32)), .val (.ref dA), .val (.int (4 : Int32)), .val (.int (0 : Int32)), .unset, .unset] [(.double (4608083138725491507 : UInt64))]))
    refine own_st (fun t k => XS.dstore X1.here hx rfl (hb hby own_d1_50) rfl (l' := #[.val (.double wd), .second, .val (.double pd), .second, .val (.int (5 : Int32)), .val (.ref dA), .val (.int (4 : Int32)), .val (.int (0 : Int32)), .val (.double (4608083138725491507 : UInt64)), .second]) rfl k) ?_
    show own_G _ _ _ _ _ _ _ (T1.setTop (mkF m 52 #[.val (.double wd), .second, .val (.double pd), .second, .val (.int (5 : Int32)), .val (.ref dA), .val (.int (4 : Int32)), .val (.int (0 : Int32)), .val (.double (4608083138725491507 : UInt64)), .second] []))
    refine own_st (fun t k => XS.dloadN X1.here hx rfl (hb hby own_d1_52) rfl k) ?_
    show own_G _ _ _ _ _ _ _ (T1.setTop (mkF m 53 #[.val (.double wd), .second, .val (.double pd), .second, .val (.int (5 : Int32)), .val (.ref dA), .val (.int (4 : Int32)), .val (.int (0 : Int32)), .val (.double (4608083138725491507 : UInt64)), .second] [(.double wd)]))
    refine own_st (fun t k => XS.dloadN X1.here hx rfl (hb hby own_d1_53) rfl k) ?_
    show own_G _ _ _ _ _ _ _ (T1.setTop (mkF m 54 #[.val (.double wd), .second, .val (.double pd), .second, .val (.int (5 : Int32)), .val (.ref dA), .val (.int (4 : Int32)), .val (.int (0 : Int32)), .val (.double (4608083138725491507 : UInt64)), .second] [(.double pd), (.double wd)]))
    refine own_st (fun t k => XS.dload X1.here hx rfl (hb hby own_d1_54) rfl k) ?_
    show own_G _ _ _ _ _ _ _ (T1.setTop (mkF m 56 #[.val (.double wd), .second, .val (.double pd), .second, .val (.int (5 : Int32)), .val (.ref dA), .val (.int (4 : Int32)), .val (.int (0 : Int32)), .val (.double (4608083138725491507 : UInt64)), .second] [(.double (4608083138725491507 : UInt64)), (.double pd), (.double wd)]))
    refine own_st (fun t k => XS.dmulS X1.here hx rfl (hb hby own_d1_56) rfl n6 rfl k) ?_
    show own_G _ _ _ _ _ _ _ (T1.setTop (mkF m 57 #[.val (.double wd), .second, .val (.double pd), .second, .val (.int (5 : Int32)), .val (.ref dA), .val (.int (4 : Int32)), .val (.int (0 : Int32)), .val (.double (4608083138725491507 : UInt64)), .second] [(.double (FP.dmul pd (4608083138725491507 : UInt64))), (.double wd)]))
    refine own_st (fun t k => XS.dcmpS X1.here hx rfl (hb hby own_d1_57) rfl (v := (cmpValue (FP.dcmp wd (FP.dmul pd (4608083138725491507 : UInt64))) .l)) rfl k) ?_
    show own_G _ _ _ _ _ _ _ (T1.setTop (mkF m 58 #[.val (.double wd), .second, .val (.double pd), .second, .val (.int (5 : Int32)), .val (.ref dA), .val (.int (4 : Int32)), .val (.int (0 : Int32)), .val (.double (4608083138725491507 : UInt64)), .second] [(.int (cmpValue (FP.dcmp wd (FP.dmul pd (4608083138725491507 : UInt64))) .l))]))
    have J0 : ∀ (r1 : Int32), r1 = own_dec (5 : Int32) (5 * wl.toInt < 6 * pl.toInt) → own_G p.tables e below s (own_Qp (some (.int (own_rate wl pl))) h0 n0) ({ frames := 0, cells := 0, slots := 0, locals := 0 } : Room).cells ({ frames := 0, cells := 0, slots := 0, locals := 0 } : Room).slots (T1.setTop (mkF m 64 #[.val (.double wd), .second, .val (.double pd), .second, .val (.int r1), .val (.ref dA), .val (.int (4 : Int32)), .val (.int (0 : Int32)), .val (.double (4608083138725491507 : UInt64)), .second] [])) := by
      intro r1 hr1
      show own_G _ _ _ _ _ _ _ (T1.setTop (mkF m 64 #[.val (.double wd), .second, .val (.double pd), .second, .val (.int r1), .val (.ref dA), .val (.int (4 : Int32)), .val (.int (0 : Int32)), .val (.double (4608083138725491507 : UInt64)), .second] []))
      refine own_st (fun t k => XS.iinc X1.here hx rfl (hb hby own_d1_64) rfl (l' := #[.val (.double wd), .second, .val (.double pd), .second, .val (.int r1), .val (.ref dA), .val (.int (4 : Int32)), .val (.int ((0 : Int32) + (1 : Int32))), .val (.double (4608083138725491507 : UInt64)), .second]) rfl k) ?_
      show own_G _ _ _ _ _ _ _ (T1.setTop (mkF m 67 #[.val (.double wd), .second, .val (.double pd), .second, .val (.int r1), .val (.ref dA), .val (.int (4 : Int32)), .val (.int ((0 : Int32) + (1 : Int32))), .val (.double (4608083138725491507 : UInt64)), .second] []))
      rw [show ((0 : Int32) + (1 : Int32)) = (1 : Int32) from by decide]
      show own_G _ _ _ _ _ _ _ (T1.setTop (mkF m 67 #[.val (.double wd), .second, .val (.double pd), .second, .val (.int r1), .val (.ref dA), .val (.int (4 : Int32)), .val (.int (1 : Int32)), .val (.double (4608083138725491507 : UInt64)), .second] []))
      refine own_st (fun t k => XS.goto X1.here hx rfl (pc0 := 67) (pc' := 38) rfl (hb hby own_d1_67) (by decide) (by decide) k) ?_
      show own_G _ _ _ _ _ _ _ (T1.setTop (mkF m 38 #[.val (.double wd), .second, .val (.double pd), .second, .val (.int r1), .val (.ref dA), .val (.int (4 : Int32)), .val (.int (1 : Int32)), .val (.double (4608083138725491507 : UInt64)), .second] []))
      refine own_st (fun t k => XS.iload X1.here hx rfl (hb hby own_d1_38) rfl k) ?_
      show own_G _ _ _ _ _ _ _ (T1.setTop (mkF m 40 #[.val (.double wd), .second, .val (.double pd), .second, .val (.int r1), .val (.ref dA), .val (.int (4 : Int32)), .val (.int (1 : Int32)), .val (.double (4608083138725491507 : UInt64)), .second] [(.int (1 : Int32))]))
      refine own_st (fun t k => XS.iload X1.here hx rfl (hb hby own_d1_40) rfl k) ?_
      show own_G _ _ _ _ _ _ _ (T1.setTop (mkF m 42 #[.val (.double wd), .second, .val (.double pd), .second, .val (.int r1), .val (.ref dA), .val (.int (4 : Int32)), .val (.int (1 : Int32)), .val (.double (4608083138725491507 : UInt64)), .second] [(.int (4 : Int32)), (.int (1 : Int32))]))
      refine own_st (fun t k => XS.icmpNo X1.here hx rfl (hb hby own_d1_42) rfl (tlt (by decide)).2.1 k) ?_
      show own_G _ _ _ _ _ _ _ (T1.setTop (mkF m 45 #[.val (.double wd), .second, .val (.double pd), .second, .val (.int r1), .val (.ref dA), .val (.int (4 : Int32)), .val (.int (1 : Int32)), .val (.double (4608083138725491507 : UInt64)), .second] []))
      refine own_st (fun t k => XS.aload X1.here hx rfl (hb hby own_d1_45) rfl rfl k) ?_
      show own_G _ _ _ _ _ _ _ (T1.setTop (mkF m 47 #[.val (.double wd), .second, .val (.double pd), .second, .val (.int r1), .val (.ref dA), .val (.int (4 : Int32)), .val (.int (1 : Int32)), .val (.double (4608083138725491507 : UInt64)), .second] [(.ref dA)]))
      refine own_st (fun t k => XS.iload X1.here hx rfl (hb hby own_d1_47) rfl k) ?_
      show own_G _ _ _ _ _ _ _ (T1.setTop (mkF m 49 #[.val (.double wd), .second, .val (.double pd), .second, .val (.int r1), .val (.ref dA), .val (.int (4 : Int32)), .val (.int (1 : Int32)), .val (.double (4608083138725491507 : UInt64)), .second] [(.int (1 : Int32)), (.ref dA)]))
      refine own_st (fun t k => X1.daload hx (j := (1 : Int32)) (v := (.double (4608983858650965606 : UInt64))) (by rw [e1]; exact Ax.1) (State.isArrayOf_alike hZ.alike Ax.2.1) Ax.2.2 (inb_of sz ⟨by decide, by decide⟩) x1 (g := (mkF m 49 #[.val (.double wd), .second, .val (.double pd), .second, .val (.int r1), .val (.ref dA), .val (.int (4 : Int32)), .val (.int (1 : Int32)), .val (.double (4608083138725491507 : UInt64)), .second] [(.int (1 : Int32)), (.ref dA)])) rfl rfl (hb hby own_d1_49) t k) ?_
      show own_G _ _ _ _ _ _ _ (T1.setTop (mkF m 50 #[.val (.double wd), .second, .val (.double pd), .second, .val (.int r1), .val (.ref dA), .val (.int (4 : Int32)), .val (.int (1 : Int32)), .val (.double (4608083138725491507 : UInt64)), .second] [(.double (4608983858650965606 : UInt64))]))
      refine own_st (fun t k => XS.dstore X1.here hx rfl (hb hby own_d1_50) rfl (l' := #[.val (.double wd), .second, .val (.double pd), .second, .val (.int r1), .val (.ref dA), .val (.int (4 : Int32)), .val (.int (1 : Int32)), .val (.double (4608983858650965606 : UInt64)), .second]) rfl k) ?_
      show own_G _ _ _ _ _ _ _ (T1.setTop (mkF m 52 #[.val (.double wd), .second, .val (.double pd), .second, .val (.int r1), .val (.ref dA), .val (.int (4 : Int32)), .val (.int (1 : Int32)), .val (.double (4608983858650965606 : UInt64)), .second] []))
      refine own_st (fun t k => XS.dloadN X1.here hx rfl (hb hby own_d1_52) rfl k) ?_
      show own_G _ _ _ _ _ _ _ (T1.setTop (mkF m 53 #[.val (.double wd), .second, .val (.double pd), .second, .val (.int r1), .val (.ref dA), .val (.int (4 : Int32)), .val (.int (1 : Int32)), .val (.double (4608983858650965606 : UInt64)), .second] [(.double wd)]))
      refine own_st (fun t k => XS.dloadN X1.here hx rfl (hb hby own_d1_53) rfl k) ?_
      show own_G _ _ _ _ _ _ _ (T1.setTop (mkF m 54 #[.val (.double wd), .second, .val (.double pd), .second, .val (.int r1), .val (.ref dA), .val (.int (4 : Int32)), .val (.int (1 : Int32)), .val (.double (4608983858650965606 : UInt64)), .second] [(.double pd), (.double wd)]))
      refine own_st (fun t k => XS.dload X1.here hx rfl (hb hby own_d1_54) rfl k) ?_
      show own_G _ _ _ _ _ _ _ (T1.setTop (mkF m 56 #[.val (.double wd), .second, .val (.double pd), .second, .val (.int r1), .val (.ref dA), .val (.int (4 : Int32)), .val (.int (1 : Int32)), .val (.double (4608983858650965606 : UInt64)), .second] [(.double (4608983858650965606 : UInt64)), (.double pd), (.double wd)]))
      refine own_st (fun t k => XS.dmulS X1.here hx rfl (hb hby own_d1_56) rfl n7 rfl k) ?_
      show own_G _ _ _ _ _ _ _ (T1.setTop (mkF m 57 #[.val (.double wd), .second, .val (.double pd), .second, .val (.int r1), .val (.ref dA), .val (.int (4 : Int32)), .val (.int (1 : Int32)), .val (.double (4608983858650965606 : UInt64)), .second] [(.double (FP.dmul pd (4608983858650965606 : UInt64))), (.double wd)]))
      refine own_st (fun t k => XS.dcmpS X1.here hx rfl (hb hby own_d1_57) rfl (v := (cmpValue (FP.dcmp wd (FP.dmul pd (4608983858650965606 : UInt64))) .l)) rfl k) ?_
      show own_G _ _ _ _ _ _ _ (T1.setTop (mkF m 58 #[.val (.double wd), .second, .val (.double pd), .second, .val (.int r1), .val (.ref dA), .val (.int (4 : Int32)), .val (.int (1 : Int32)), .val (.double (4608983858650965606 : UInt64)), .second] [(.int (cmpValue (FP.dcmp wd (FP.dmul pd (4608983858650965606 : UInt64))) .l))]))
      have J1 : ∀ (r2 : Int32), r2 = own_dec r1 (5 * wl.toInt < 7 * pl.toInt) → own_G p.tables e below s (own_Qp (some (.int (own_rate wl pl))) h0 n0) ({ frames := 0, cells := 0, slots := 0, locals := 0 } : Room).cells ({ frames := 0, cells := 0, slots := 0, locals := 0 } : Room).slots (T1.setTop (mkF m 64 #[.val (.double wd), .second, .val (.double pd), .second, .val (.int r2), .val (.ref dA), .val (.int (4 : Int32)), .val (.int (1 : Int32)), .val (.double (4608983858650965606 : UInt64)), .second] [])) := by
        intro r2 hr2
        show own_G _ _ _ _ _ _ _ (T1.setTop (mkF m 64 #[.val (.double wd), .second, .val (.double pd), .second, .val (.int r2), .val (.ref dA), .val (.int (4 : Int32)), .val (.int (1 : Int32)), .val (.double (4608983858650965606 : UInt64)), .second] []))
        refine own_st (fun t k => XS.iinc X1.here hx rfl (hb hby own_d1_64) rfl (l' := #[.val (.double wd), .second, .val (.double pd), .second, .val (.int r2), .val (.ref dA), .val (.int (4 : Int32)), .val (.int ((1 : Int32) + (1 : Int32))), .val (.double (4608983858650965606 : UInt64)), .second]) rfl k) ?_
        show own_G _ _ _ _ _ _ _ (T1.setTop (mkF m 67 #[.val (.double wd), .second, .val (.double pd), .second, .val (.int r2), .val (.ref dA), .val (.int (4 : Int32)), .val (.int ((1 : Int32) + (1 : Int32))), .val (.double (4608983858650965606 : UInt64)), .second] []))
        rw [show ((1 : Int32) + (1 : Int32)) = (2 : Int32) from by decide]
        show own_G _ _ _ _ _ _ _ (T1.setTop (mkF m 67 #[.val (.double wd), .second, .val (.double pd), .second, .val (.int r2), .val (.ref dA), .val (.int (4 : Int32)), .val (.int (2 : Int32)), .val (.double (4608983858650965606 : UInt64)), .second] []))
        refine own_st (fun t k => XS.goto X1.here hx rfl (pc0 := 67) (pc' := 38) rfl (hb hby own_d1_67) (by decide) (by decide) k) ?_
        show own_G _ _ _ _ _ _ _ (T1.setTop (mkF m 38 #[.val (.double wd), .second, .val (.double pd), .second, .val (.int r2), .val (.ref dA), .val (.int (4 : Int32)), .val (.int (2 : Int32)), .val (.double (4608983858650965606 : UInt64)), .second] []))
        refine own_st (fun t k => XS.iload X1.here hx rfl (hb hby own_d1_38) rfl k) ?_
        show own_G _ _ _ _ _ _ _ (T1.setTop (mkF m 40 #[.val (.double wd), .second, .val (.double pd), .second, .val (.int r2), .val (.ref dA), .val (.int (4 : Int32)), .val (.int (2 : Int32)), .val (.double (4608983858650965606 : UInt64)), .second] [(.int (2 : Int32))]))
        refine own_st (fun t k => XS.iload X1.here hx rfl (hb hby own_d1_40) rfl k) ?_
        show own_G _ _ _ _ _ _ _ (T1.setTop (mkF m 42 #[.val (.double wd), .second, .val (.double pd), .second, .val (.int r2), .val (.ref dA), .val (.int (4 : Int32)), .val (.int (2 : Int32)), .val (.double (4608983858650965606 : UInt64)), .second] [(.int (4 : Int32)), (.int (2 : Int32))]))
        refine own_st (fun t k => XS.icmpNo X1.here hx rfl (hb hby own_d1_42) rfl (tlt (by decide)).2.1 k) ?_
        show own_G _ _ _ _ _ _ _ (T1.setTop (mkF m 45 #[.val (.double wd), .second, .val (.double pd), .second, .val (.int r2), .val (.ref dA), .val (.int (4 : Int32)), .val (.int (2 : Int32)), .val (.double (4608983858650965606 : UInt64)), .second] []))
        refine own_st (fun t k => XS.aload X1.here hx rfl (hb hby own_d1_45) rfl rfl k) ?_
        show own_G _ _ _ _ _ _ _ (T1.setTop (mkF m 47 #[.val (.double wd), .second, .val (.double pd), .second, .val (.int r2), .val (.ref dA), .val (.int (4 : Int32)), .val (.int (2 : Int32)), .val (.double (4608983858650965606 : UInt64)), .second] [(.ref dA)]))
        refine own_st (fun t k => XS.iload X1.here hx rfl (hb hby own_d1_47) rfl k) ?_
        show own_G _ _ _ _ _ _ _ (T1.setTop (mkF m 49 #[.val (.double wd), .second, .val (.double pd), .second, .val (.int r2), .val (.ref dA), .val (.int (4 : Int32)), .val (.int (2 : Int32)), .val (.double (4608983858650965606 : UInt64)), .second] [(.int (2 : Int32)), (.ref dA)]))
        refine own_st (fun t k => X1.daload hx (j := (2 : Int32)) (v := (.double (4609884578576439706 : UInt64))) (by rw [e1]; exact Ax.1) (State.isArrayOf_alike hZ.alike Ax.2.1) Ax.2.2 (inb_of sz ⟨by decide, by decide⟩) x2 (g := (mkF m 49 #[.val (.double wd), .second, .val (.double pd), .second, .val (.int r2), .val (.ref dA), .val (.int (4 : Int32)), .val (.int (2 : Int32)), .val (.double (4608983858650965606 : UInt64)), .second] [(.int (2 : Int32)), (.ref dA)])) rfl rfl (hb hby own_d1_49) t k) ?_
        show own_G _ _ _ _ _ _ _ (T1.setTop (mkF m 50 #[.val (.double wd), .second, .val (.double pd), .second, .val (.int r2), .val (.ref dA), .val (.int (4 : Int32)), .val (.int (2 : Int32)), .val (.double (4608983858650965606 : UInt64)), .second] [(.double (4609884578576439706 : UInt64))]))
        refine own_st (fun t k => XS.dstore X1.here hx rfl (hb hby own_d1_50) rfl (l' := #[.val (.double wd), .second, .val (.double pd), .second, .val (.int r2), .val (.ref dA), .val (.int (4 : Int32)), .val (.int (2 : Int32)), .val (.double (4609884578576439706 : UInt64)), .second]) rfl k) ?_
        show own_G _ _ _ _ _ _ _ (T1.setTop (mkF m 52 #[.val (.double wd), .second, .val (.double pd), .second, .val (.int r2), .val (.ref dA), .val (.int (4 : Int32)), .val (.int (2 : Int32)), .val (.double (4609884578576439706 : UInt64)), .second] []))
        refine own_st (fun t k => XS.dloadN X1.here hx rfl (hb hby own_d1_52) rfl k) ?_
        show own_G _ _ _ _ _ _ _ (T1.setTop (mkF m 53 #[.val (.double wd), .second, .val (.double pd), .second, .val (.int r2), .val (.ref dA), .val (.int (4 : Int32)), .val (.int (2 : Int32)), .val (.double (4609884578576439706 : UInt64)), .second] [(.double wd)]))
        refine own_st (fun t k => XS.dloadN X1.here hx rfl (hb hby own_d1_53) rfl k) ?_
        show own_G _ _ _ _ _ _ _ (T1.setTop (mkF m 54 #[.val (.double wd), .second, .val (.double pd), .second, .val (.int r2), .val (.ref dA), .val (.int (4 : Int32)), .val (.int (2 : Int32)), .val (.double (4609884578576439706 : UInt64)), .second] [(.double pd), (.double wd)]))
        refine own_st (fun t k => XS.dload X1.here hx rfl (hb hby own_d1_54) rfl k) ?_
        show own_G _ _ _ _ _ _ _ (T1.setTop (mkF m 56 #[.val (.double wd), .second, .val (.double pd), .second, .val (.int r2), .val (.ref dA), .val (.int (4 : Int32)), .val (.int (2 : Int32)), .val (.double (4609884578576439706 : UInt64)), .second] [(.double (4609884578576439706 : UInt64)), (.double pd), (.double wd)]))
        refine own_st (fun t k => XS.dmulS X1.here hx rfl (hb hby own_d1_56) rfl n8 rfl k) ?_
        show own_G _ _ _ _ _ _ _ (T1.setTop (mkF m 57 #[.val (.double wd), .second, .val (.double pd), .second, .val (.int r2), .val (.ref dA), .val (.int (4 : Int32)), .val (.int (2 : Int32)), .val (.double (4609884578576439706 : UInt64)), .second] [(.double (FP.dmul pd (4609884578576439706 : UInt64))), (.double wd)]))
        refine own_st (fun t k => XS.dcmpS X1.here hx rfl (hb hby own_d1_57) rfl (v := (cmpValue (FP.dcmp wd (FP.dmul pd (4609884578576439706 : UInt64))) .l)) rfl k) ?_
        show own_G _ _ _ _ _ _ _ (T1.setTop (mkF m 58 #[.val (.double wd), .second, .val (.double pd), .second, .val (.int r2), .val (.ref dA), .val (.int (4 : Int32)), .val (.int (2 : Int32)), .val (.double (4609884578576439706 : UInt64)), .second] [(.int (cmpValue (FP.dcmp wd (FP.dmul pd (4609884578576439706 : UInt64))) .l))]))
        have J2 : ∀ (r3 : Int32), r3 = own_dec r2 (5 * wl.toInt < 8 * pl.toInt) → own_G p.tables e below s (own_Qp (some (.int (own_rate wl pl))) h0 n0) ({ frames := 0, cells := 0, slots := 0, locals := 0 } : Room).cells ({ frames := 0, cells := 0, slots := 0, locals := 0 } : Room).slots (T1.setTop (mkF m 64 #[.val (.double wd), .second, .val (.double pd), .second, .val (.int r3), .val (.ref dA), .val (.int (4 : Int32)), .val (.int (2 : Int32)), .val (.double (4609884578576439706 : UInt64)), .second] [])) := by
          intro r3 hr3
          show own_G _ _ _ _ _ _ _ (T1.setTop (mkF m 64 #[.val (.double wd), .second, .val (.double pd), .second, .val (.int r3), .val (.ref dA), .val (.int (4 : Int32)), .val (.int (2 : Int32)), .val (.double (4609884578576439706 : UInt64)), .second] []))
          refine own_st (fun t k => XS.iinc X1.here hx rfl (hb hby own_d1_64) rfl (l' := #[.val (.double wd), .second, .val (.double pd), .second, .val (.int r3), .val (.ref dA), .val (.int (4 : Int32)), .val (.int ((2 : Int32) + (1 : Int32))), .val (.double (4609884578576439706 : UInt64)), .second]) rfl k) ?_
          show own_G _ _ _ _ _ _ _ (T1.setTop (mkF m 67 #[.val (.double wd), .second, .val (.double pd), .second, .val (.int r3), .val (.ref dA), .val (.int (4 : Int32)), .val (.int ((2 : Int32) + (1 : Int32))), .val (.double (4609884578576439706 : UInt64)), .second] []))
          rw [show ((2 : Int32) + (1 : Int32)) = (3 : Int32) from by decide]
          show own_G _ _ _ _ _ _ _ (T1.setTop (mkF m 67 #[.val (.double wd), .second, .val (.double pd), .second, .val (.int r3), .val (.ref dA), .val (.int (4 : Int32)), .val (.int (3 : Int32)), .val (.double (4609884578576439706 : UInt64)), .second] []))
          refine own_st (fun t k => XS.goto X1.here hx rfl (pc0 := 67) (pc' := 38) rfl (hb hby own_d1_67) (by decide) (by decide) k) ?_
          show own_G _ _ _ _ _ _ _ (T1.setTop (mkF m 38 #[.val (.double wd), .second, .val (.double pd), .second, .val (.int r3), .val (.ref dA), .val (.int (4 : Int32)), .val (.int (3 : Int32)), .val (.double (4609884578576439706 : UInt64)), .second] []))
          refine own_st (fun t k => XS.iload X1.here hx rfl (hb hby own_d1_38) rfl k) ?_
          show own_G _ _ _ _ _ _ _ (T1.setTop (mkF m 40 #[.val (.double wd), .second, .val (.double pd), .second, .val (.int r3), .val (.ref dA), .val (.int (4 : Int32)), .val (.int (3 : Int32)), .val (.double (4609884578576439706 : UInt64)), .second] [(.int (3 : Int32))]))
          refine own_st (fun t k => XS.iload X1.here hx rfl (hb hby own_d1_40) rfl k) ?_
          show own_G _ _ _ _ _ _ _ (T1.setTop (mkF m 42 #[.val (.double wd), .second, .val (.double pd), .second, .val (.int r3), .val (.ref dA), .val (.int (4 : Int32)), .val (.int (3 : Int32)), .val (.double (4609884578576439706 : UInt64)), .second] [(.int (4 : Int32)), (.int (3 : Int32))]))
          refine own_st (fun t k => XS.icmpNo X1.here hx rfl (hb hby own_d1_42) rfl (tlt (by decide)).2.1 k) ?_
          show own_G _ _ _ _ _ _ _ (T1.setTop (mkF m 45 #[.val (.double wd), .second, .val (.double pd), .second, .val (.int r3), .val (.ref dA), .val (.int (4 : Int32)), .val (.int (3 : Int32)), .val (.double (4609884578576439706 : UInt64)), .second] []))
          refine own_st (fun t k => XS.aload X1.here hx rfl (hb hby own_d1_45) rfl rfl k) ?_
          show own_G _ _ _ _ _ _ _ (T1.setTop (mkF m 47 #[.val (.double wd), .second, .val (.double pd), .second, .val (.int r3), .val (.ref dA), .val (.int (4 : Int32)), .val (.int (3 : Int32)), .val (.double (4609884578576439706 : UInt64)), .second] [(.ref dA)]))
          refine own_st (fun t k => XS.iload X1.here hx rfl (hb hby own_d1_47) rfl k) ?_
          show own_G _ _ _ _ _ _ _ (T1.setTop (mkF m 49 #[.val (.double wd), .second, .val (.double pd), .second, .val (.int r3), .val (.ref dA), .val (.int (4 : Int32)), .val (.int (3 : Int32)), .val (.double (4609884578576439706 : UInt64)), .second] [(.int (3 : Int32)), (.ref dA)]))
          refine own_st (fun t k => X1.daload hx (j := (3 : Int32)) (v := (.double (4610785298501913805 : UInt64))) (by rw [e1]; exact Ax.1) (State.isArrayOf_alike hZ.alike Ax.2.1) Ax.2.2 (inb_of sz ⟨by decide, by decide⟩) x3 (g := (mkF m 49 #[.val (.double wd), .second, .val (.double pd), .second, .val (.int r3), .val (.ref dA), .val (.int (4 : Int32)), .val (.int (3 : Int32)), .val (.double (4609884578576439706 : UInt64)), .second] [(.int (3 : Int32)), (.ref dA)])) rfl rfl (hb hby own_d1_49) t k) ?_
          show own_G _ _ _ _ _ _ _ (T1.setTop (mkF m 50 #[.val (.double wd), .second, .val (.double pd), .second, .val (.int r3), .val (.ref dA), .val (.int (4 : Int32)), .val (.int (3 : Int32)), .val (.double (4609884578576439706 : UInt64)), .second] [(.double (4610785298501913805 : UInt64))]))
          refine own_st (fun t k => XS.dstore X1.here hx rfl (hb hby own_d1_50) rfl (l' := #[.val (.double wd), .second, .val (.double pd), .second, .val (.int r3), .val (.ref dA), .val (.int (4 : Int32)), .val (.int (3 : Int32)), .val (.double (4610785298501913805 : UInt64)), .second]) rfl k) ?_
          show own_G _ _ _ _ _ _ _ (T1.setTop (mkF m 52 #[.val (.double wd), .second, .val (.double pd), .second, .val (.int r3), .val (.ref dA), .val (.int (4 : Int32)), .val (.int (3 : Int32)), .val (.double (4610785298501913805 : UInt64)), .second] []))
          refine own_st (fun t k => XS.dloadN X1.here hx rfl (hb hby own_d1_52) rfl k) ?_
          show own_G _ _ _ _ _ _ _ (T1.setTop (mkF m 53 #[.val (.double wd), .second, .val (.double pd), .second, .val (.int r3), .val (.ref dA), .val (.int (4 : Int32)), .val (.int (3 : Int32)), .val (.double (4610785298501913805 : UInt64)), .second] [(.double wd)]))
          refine own_st (fun t k => XS.dloadN X1.here hx rfl (hb hby own_d1_53) rfl k) ?_
          show own_G _ _ _ _ _ _ _ (T1.setTop (mkF m 54 #[.val (.double wd), .second, .val (.double pd), .second, .val (.int r3), .val (.ref dA), .val (.int (4 : Int32)), .val (.int (3 : Int32)), .val (.double (4610785298501913805 : UInt64)), .second] [(.double pd), (.double wd)]))
          refine own_st (fun t k => XS.dload X1.here hx rfl (hb hby own_d1_54) rfl k) ?_
          show own_G _ _ _ _ _ _ _ (T1.setTop (mkF m 56 #[.val (.double wd), .second, .val (.double pd), .second, .val (.int r3), .val (.ref dA), .val (.int (4 : Int32)), .val (.int (3 : Int32)), .val (.double (4610785298501913805 : UInt64)), .second] [(.double (4610785298501913805 : UInt64)), (.double pd), (.double wd)]))
          refine own_st (fun t k => XS.dmulS X1.here hx rfl (hb hby own_d1_56) rfl n9 rfl k) ?_
          show own_G _ _ _ _ _ _ _ (T1.setTop (mkF m 57 #[.val (.double wd), .second, .val (.double pd), .second, .val (.int r3), .val (.ref dA), .val (.int (4 : Int32)), .val (.int (3 : Int32)), .val (.double (4610785298501913805 : UInt64)), .second] [(.double (FP.dmul pd (4610785298501913805 : UInt64))), (.double wd)]))
          refine own_st (fun t k => XS.dcmpS X1.here hx rfl (hb hby own_d1_57) rfl (v := (cmpValue (FP.dcmp wd (FP.dmul pd (4610785298501913805 : UInt64))) .l)) rfl k) ?_
          show own_G _ _ _ _ _ _ _ (T1.setTop (mkF m 58 #[.val (.double wd), .second, .val (.double pd), .second, .val (.int r3), .val (.ref dA), .val (.int (4 : Int32)), .val (.int (3 : Int32)), .val (.double (4610785298501913805 : UInt64)), .second] [(.int (cmpValue (FP.dcmp wd (FP.dmul pd (4610785298501913805 : UInt64))) .l))]))
          have J3 : ∀ (r4 : Int32), r4 = own_dec r3 (5 * wl.toInt < 9 * pl.toInt) → own_G p.tables e below s (own_Qp (some (.int (own_rate wl pl))) h0 n0) ({ frames := 0, cells := 0, slots := 0, locals := 0 } : Room).cells ({ frames := 0, cells := 0, slots := 0, locals := 0 } : Room).slots (T1.setTop (mkF m 64 #[.val (.double wd), .second, .val (.double pd), .second, .val (.int r4), .val (.ref dA), .val (.int (4 : Int32)), .val (.int (3 : Int32)), .val (.double (4610785298501913805 : UInt64)), .second] [])) := by
            intro r4 hr4
            show own_G _ _ _ _ _ _ _ (T1.setTop (mkF m 64 #[.val (.double wd), .second, .val (.double pd), .second, .val (.int r4), .val (.ref dA), .val (.int (4 : Int32)), .val (.int (3 : Int32)), .val (.double (4610785298501913805 : UInt64)), .second] []))
            refine own_st (fun t k => XS.iinc X1.here hx rfl (hb hby own_d1_64) rfl (l' := #[.val (.double wd), .second, .val (.double pd), .second, .val (.int r4), .val (.ref dA), .val (.int (4 : Int32)), .val (.int ((3 : Int32) + (1 : Int32))), .val (.double (4610785298501913805 : UInt64)), .second]) rfl k) ?_
            show own_G _ _ _ _ _ _ _ (T1.setTop (mkF m 67 #[.val (.double wd), .second, .val (.double pd), .second, .val (.int r4), .val (.ref dA), .val (.int (4 : Int32)), .val (.int ((3 : Int32) + (1 : Int32))), .val (.double (4610785298501913805 : UInt64)), .second] []))
            rw [show ((3 : Int32) + (1 : Int32)) = (4 : Int32) from by decide]
            show own_G _ _ _ _ _ _ _ (T1.setTop (mkF m 67 #[.val (.double wd), .second, .val (.double pd), .second, .val (.int r4), .val (.ref dA), .val (.int (4 : Int32)), .val (.int (4 : Int32)), .val (.double (4610785298501913805 : UInt64)), .second] []))
            refine own_st (fun t k => XS.goto X1.here hx rfl (pc0 := 67) (pc' := 38) rfl (hb hby own_d1_67) (by decide) (by decide) k) ?_
            show own_G _ _ _ _ _ _ _ (T1.setTop (mkF m 38 #[.val (.double wd), .second, .val (.double pd), .second, .val (.int r4), .val (.ref dA), .val (.int (4 : Int32)), .val (.int (4 : Int32)), .val (.double (4610785298501913805 : UInt64)), .second] []))
            refine own_st (fun t k => XS.iload X1.here hx rfl (hb hby own_d1_38) rfl k) ?_
            show own_G _ _ _ _ _ _ _ (T1.setTop (mkF m 40 #[.val (.double wd), .second, .val (.double pd), .second, .val (.int r4), .val (.ref dA), .val (.int (4 : Int32)), .val (.int (4 : Int32)), .val (.double (4610785298501913805 : UInt64)), .second] [(.int (4 : Int32))]))
            refine own_st (fun t k => XS.iload X1.here hx rfl (hb hby own_d1_40) rfl k) ?_
            show own_G _ _ _ _ _ _ _ (T1.setTop (mkF m 42 #[.val (.double wd), .second, .val (.double pd), .second, .val (.int r4), .val (.ref dA), .val (.int (4 : Int32)), .val (.int (4 : Int32)), .val (.double (4610785298501913805 : UInt64)), .second] [(.int (4 : Int32)), (.int (4 : Int32))]))
            refine own_st (fun t k => XS.icmpYes X1.here hx rfl (pc0 := 42) (pc' := 70) rfl (hb hby own_d1_42) rfl (flt (by decide)).2.1 (by decide) (by decide) k) ?_
            show own_G _ _ _ _ _ _ _ (T1.setTop (mkF m 70 #[.val (.double wd), .second, .val (.double pd), .second, .val (.int r4), .val (.ref dA), .val (.int (4 : Int32)), .val (.int (4 : Int32)), .val (.double (4610785298501913805 : UInt64)), .second] []))
            refine own_st (fun t k => XS.iload X1.here hx rfl (hb hby own_d1_70) rfl k) ?_
            show own_G _ _ _ _ _ _ _ (T1.setTop (mkF m 72 #[.val (.double wd), .second, .val (.double pd), .second, .val (.int r4), .val (.ref dA), .val (.int (4 : Int32)), .val (.int (4 : Int32)), .val (.double (4610785298501913805 : UInt64)), .second] [(.int r4)]))
            exact own_retI X1 hx Bd.returns (BodyLoose.notSynchronized Bd) (hb hby own_d1_72) (by decide) (by decide) ⟨by rw [hr4, hr3, hr2, hr1, own_rate, if_neg hp0], N0, e1⟩
          by_cases hc3 : (cmpValue (FP.dcmp wd (FP.dmul pd (4610785298501913805 : UInt64))) .l) < (0 : Int32)
          · refine own_st (fun t k => XS.ifYes X1.here hx rfl (pc0 := 58) (pc' := 64) rfl (hb hby own_d1_58) rfl ((if0 _ _).trans (tlt hc3).1) (by decide) (by decide) k) ?_
            show own_G _ _ _ _ _ _ _ (T1.setTop (mkF m 64 #[.val (.double wd), .second, .val (.double pd), .second, .val (.int r3), .val (.ref dA), .val (.int (4 : Int32)), .val (.int (3 : Int32)), .val (.double (4610785298501913805 : UInt64)), .second] []))
            exact J3 _ (by rw [own_dec, if_pos (c9.mp hc3)])
          · refine own_st (fun t k => XS.ifNo X1.here hx rfl (hb hby own_d1_58) rfl ((if0 _ _).trans (flt hc3).1) k) ?_
            show own_G _ _ _ _ _ _ _ (T1.setTop (mkF m 61 #[.val (.double wd), .second, .val (.double pd), .second, .val (.int r3), .val (.ref dA), .val (.int (4 : Int32)), .val (.int (3 : Int32)), .val (.double (4610785298501913805 : UInt64)), .second] []))
            refine own_st (fun t k => XS.iinc X1.here hx rfl (hb hby own_d1_61) rfl (l' := #[.val (.double wd), .second, .val (.double pd), .second, .val (.int (r3 + (-1 : Int32))), .val (.ref dA), .val (.int (4 : Int32)), .val (.int (3 : Int32)), .val (.double (4610785298501913805 : UInt64)), .second]) rfl k) ?_
            show own_G _ _ _ _ _ _ _ (T1.setTop (mkF m 64 #[.val (.double wd), .second, .val (.double pd), .second, .val (.int (r3 + (-1 : Int32))), .val (.ref dA), .val (.int (4 : Int32)), .val (.int (3 : Int32)), .val (.double (4610785298501913805 : UInt64)), .second] []))
            exact J3 _ (by rw [own_dec, if_neg (fun q => hc3 (c9.mpr q))])
        by_cases hc2 : (cmpValue (FP.dcmp wd (FP.dmul pd (4609884578576439706 : UInt64))) .l) < (0 : Int32)
        · refine own_st (fun t k => XS.ifYes X1.here hx rfl (pc0 := 58) (pc' := 64) rfl (hb hby own_d1_58) rfl ((if0 _ _).trans (tlt hc2).1) (by decide) (by decide) k) ?_
          show own_G _ _ _ _ _ _ _ (T1.setTop (mkF m 64 #[.val (.double wd), .second, .val (.double pd), .second, .val (.int r2), .val (.ref dA), .val (.int (4 : Int32)), .val (.int (2 : Int32)), .val (.double (4609884578576439706 : UInt64)), .second] []))
          exact J2 _ (by rw [own_dec, if_pos (c8.mp hc2)])
        · refine own_st (fun t k => XS.ifNo X1.here hx rfl (hb hby own_d1_58) rfl ((if0 _ _).trans (flt hc2).1) k) ?_
          show own_G _ _ _ _ _ _ _ (T1.setTop (mkF m 61 #[.val (.double wd), .second, .val (.double pd), .second, .val (.int r2), .val (.ref dA), .val (.int (4 : Int32)), .val (.int (2 : Int32)), .val (.double (4609884578576439706 : UInt64)), .second] []))
          refine own_st (fun t k => XS.iinc X1.here hx rfl (hb hby own_d1_61) rfl (l' := #[.val (.double wd), .second, .val (.double pd), .second, .val (.int (r2 + (-1 : Int32))), .val (.ref dA), .val (.int (4 : Int32)), .val (.int (2 : Int32)), .val (.double (4609884578576439706 : UInt64)), .second]) rfl k) ?_
          show own_G _ _ _ _ _ _ _ (T1.setTop (mkF m 64 #[.val (.double wd), .second, .val (.double pd), .second, .val (.int (r2 + (-1 : Int32))), .val (.ref dA), .val (.int (4 : Int32)), .val (.int (2 : Int32)), .val (.double (4609884578576439706 : UInt64)), .second] []))
          exact J2 _ (by rw [own_dec, if_neg (fun q => hc2 (c8.mpr q))])
      by_cases hc1 : (cmpValue (FP.dcmp wd (FP.dmul pd (4608983858650965606 : UInt64))) .l) < (0 : Int32)
      · refine own_st (fun t k => XS.ifYes X1.here hx rfl (pc0 := 58) (pc' := 64) rfl (hb hby own_d1_58) rfl ((if0 _ _).trans (tlt hc1).1) (by decide) (by decide) k) ?_
        show own_G _ _ _ _ _ _ _ (T1.setTop (mkF m 64 #[.val (.double wd), .second, .val (.double pd), .second, .val (.int r1), .val (.ref dA), .val (.int (4 : Int32)), .val (.int (1 : Int32)), .val (.double (4608983858650965606 : UInt64)), .second] []))
        exact J1 _ (by rw [own_dec, if_pos (c7.mp hc1)])
      · refine own_st (fun t k => XS.ifNo X1.here hx rfl (hb hby own_d1_58) rfl ((if0 _ _).trans (flt hc1).1) k) ?_
        show own_G _ _ _ _ _ _ _ (T1.setTop (mkF m 61 #[.val (.double wd), .second, .val (.double pd), .second, .val (.int r1), .val (.ref dA), .val (.int (4 : Int32)), .val (.int (1 : Int32)), .val (.double (4608983858650965606 : UInt64)), .second] []))
        refine own_st (fun t k => XS.iinc X1.here hx rfl (hb hby own_d1_61) rfl (l' := #[.val (.double wd), .second, .val (.double pd), .second, .val (.int (r1 + (-1 : Int32))), .val (.ref dA), .val (.int (4 : Int32)), .val (.int (1 : Int32)), .val (.double (4608983858650965606 : UInt64)), .second]) rfl k) ?_
        show own_G _ _ _ _ _ _ _ (T1.setTop (mkF m 64 #[.val (.double wd), .second, .val (.double pd), .second, .val (.int (r1 + (-1 : Int32))), .val (.ref dA), .val (.int (4 : Int32)), .val (.int (1 : Int32)), .val (.double (4608983858650965606 : UInt64)), .second] []))
        exact J1 _ (by rw [own_dec, if_neg (fun q => hc1 (c7.mpr q))])
    by_cases hc0 : (cmpValue (FP.dcmp wd (FP.dmul pd (4608083138725491507 : UInt64))) .l) < (0 : Int32)
    · refine own_st (fun t k => XS.ifYes X1.here hx rfl (pc0 := 58) (pc' := 64) rfl (hb hby own_d1_58) rfl ((if0 _ _).trans (tlt hc0).1) (by decide) (by decide) k) ?_
      show own_G _ _ _ _ _ _ _ (T1.setTop (mkF m 64 #[.val (.double wd), .second, .val (.double pd), .second, .val (.int (5 : Int32)), .val (.ref dA), .val (.int (4 : Int32)), .val (.int (0 : Int32)), .val (.double (4608083138725491507 : UInt64)), .second] []))
      exact J0 _ (by rw [own_dec, if_pos (c6.mp hc0)])
    · refine own_st (fun t k => XS.ifNo X1.here hx rfl (hb hby own_d1_58) rfl ((if0 _ _).trans (flt hc0).1) k) ?_
      show own_G _ _ _ _ _ _ _ (T1.setTop (mkF m 61 #[.val (.double wd), .second, .val (.double pd), .second, .val (.int (5 : Int32)), .val (.ref dA), .val (.int (4 : Int32)), .val (.int (0 : Int32)), .val (.double (4608083138725491507 : UInt64)), .second] []))
      refine own_st (fun t k => XS.iinc X1.here hx rfl (hb hby own_d1_61) rfl (l' := #[.val (.double wd), .second, .val (.double pd), .second, .val (.int ((5 : Int32) + (-1 : Int32))), .val (.ref dA), .val (.int (4 : Int32)), .val (.int (0 : Int32)), .val (.double (4608083138725491507 : UInt64)), .second]) rfl k) ?_
      show own_G _ _ _ _ _ _ _ (T1.setTop (mkF m 64 #[.val (.double wd), .second, .val (.double pd), .second, .val (.int ((5 : Int32) + (-1 : Int32))), .val (.ref dA), .val (.int (4 : Int32)), .val (.int (0 : Int32)), .val (.double (4608083138725491507 : UInt64)), .second] []))
      exact J0 _ (by rw [own_dec, if_neg (fun q => hc0 (c6.mpr q))])
theorem own_pn1 : plainName "com/example/matres/matres/sim/ServiceRatingOfPinLaw" = true := by first | (simp [plainName, overriddenIn]; done) | decide +kernel
theorem own_d2_0 : decode method_2_code 0 = .ok (.lload_n 2, 1) := by decide +kernel
theorem own_d2_1 : decode method_2_code 1 = .ok (.lconst 0, 1) := by decide +kernel
theorem own_d2_2 : decode method_2_code 2 = .ok (.lcmp, 1) := by decide +kernel
theorem own_d2_3 : decode method_2_code 3 = .ok (.ifCond .ne 15, 3) := by decide +kernel
theorem own_d2_6 : decode method_2_code 6 = .ok (.lload_n 0, 1) := by decide +kernel
theorem own_d2_7 : decode method_2_code 7 = .ok (.lconst 0, 1) := by decide +kernel
theorem own_d2_8 : decode method_2_code 8 = .ok (.lcmp, 1) := by decide +kernel
theorem own_d2_9 : decode method_2_code 9 = .ok (.ifCond .ne 7, 3) := by decide +kernel
theorem own_d2_12 : decode method_2_code 12 = .ok (.iconst 5, 1) := by decide +kernel
theorem own_d2_13 : decode method_2_code 13 = .ok (.goto 4, 3) := by decide +kernel
theorem own_d2_16 : decode method_2_code 16 = .ok (.iconst 1, 1) := by decide +kernel
theorem own_d2_17 : decode method_2_code 17 = .ok (.ireturn, 1) := by decide +kernel
theorem own_d2_18 : decode method_2_code 18 = .ok (.ldc2_w 7, 3) := by decide +kernel
theorem own_d2_21 : decode method_2_code 21 = .ok (.lload_n 0, 1) := by decide +kernel
theorem own_d2_22 : decode method_2_code 22 = .ok (.lmul, 1) := by decide +kernel
theorem own_d2_23 : decode method_2_code 23 = .ok (.lstore 4, 2) := by decide +kernel
theorem own_d2_25 : decode method_2_code 25 = .ok (.lload 4, 2) := by decide +kernel
theorem own_d2_27 : decode method_2_code 27 = .ok (.ldc2_w 9, 3) := by decide +kernel
theorem own_d2_30 : decode method_2_code 30 = .ok (.lload_n 2, 1) := by decide +kernel
theorem own_d2_31 : decode method_2_code 31 = .ok (.lmul, 1) := by decide +kernel
theorem own_d2_32 : decode method_2_code 32 = .ok (.lcmp, 1) := by decide +kernel
theorem own_d2_33 : decode method_2_code 33 = .ok (.ifCond .lt 5, 3) := by decide +kernel
theorem own_d2_36 : decode method_2_code 36 = .ok (.iconst 1, 1) := by decide +kernel
theorem own_d2_37 : decode method_2_code 37 = .ok (.ireturn, 1) := by decide +kernel
theorem own_d2_38 : decode method_2_code 38 = .ok (.lload 4, 2) := by decide +kernel
theorem own_d2_40 : decode method_2_code 40 = .ok (.ldc2_w 11, 3) := by decide +kernel
theorem own_d2_43 : decode method_2_code 43 = .ok (.lload_n 2, 1) := by decide +kernel
theorem own_d2_44 : decode method_2_code 44 = .ok (.lmul, 1) := by decide +kernel
theorem own_d2_45 : decode method_2_code 45 = .ok (.lcmp, 1) := by decide +kernel
theorem own_d2_46 : decode method_2_code 46 = .ok (.ifCond .lt 5, 3) := by decide +kernel
theorem own_d2_49 : decode method_2_code 49 = .ok (.iconst 2, 1) := by decide +kernel
theorem own_d2_50 : decode method_2_code 50 = .ok (.ireturn, 1) := by decide +kernel
theorem own_d2_51 : decode method_2_code 51 = .ok (.lload 4, 2) := by decide +kernel
theorem own_d2_53 : decode method_2_code 53 = .ok (.ldc2_w 13, 3) := by decide +kernel
theorem own_d2_56 : decode method_2_code 56 = .ok (.lload_n 2, 1) := by decide +kernel
theorem own_d2_57 : decode method_2_code 57 = .ok (.lmul, 1) := by decide +kernel
theorem own_d2_58 : decode method_2_code 58 = .ok (.lcmp, 1) := by decide +kernel
theorem own_d2_59 : decode method_2_code 59 = .ok (.ifCond .lt 5, 3) := by decide +kernel
theorem own_d2_62 : decode method_2_code 62 = .ok (.iconst 3, 1) := by decide +kernel
theorem own_d2_63 : decode method_2_code 63 = .ok (.ireturn, 1) := by decide +kernel
theorem own_d2_64 : decode method_2_code 64 = .ok (.lload 4, 2) := by decide +kernel
theorem own_d2_66 : decode method_2_code 66 = .ok (.ldc2_w 15, 3) := by decide +kernel
theorem own_d2_69 : decode method_2_code 69 = .ok (.lload_n 2, 1) := by decide +kernel
theorem own_d2_70 : decode method_2_code 70 = .ok (.lmul, 1) := by decide +kernel
theorem own_d2_71 : decode method_2_code 71 = .ok (.lcmp, 1) := by decide +kernel
theorem own_d2_72 : decode method_2_code 72 = .ok (.ifCond .lt 5, 3) := by decide +kernel
theorem own_d2_75 : decode method_2_code 75 = .ok (.iconst 4, 1) := by decide +kernel
theorem own_d2_76 : decode method_2_code 76 = .ok (.ireturn, 1) := by decide +kernel
theorem own_d2_77 : decode method_2_code 77 = .ok (.iconst 5, 1) := by decide +kernel
theorem own_d2_78 : decode method_2_code 78 = .ok (.ireturn, 1) := by decide +kernel
theorem own_ef2 (m : MethodId) (wl : Int64) (pl : Int64) : entryFrame m #[(.long wl), (.long pl)] 6 = mkF m 0 #[.val (.long wl), .second, .val (.long pl), .second, .unset, .unset] [] := by first | (simp [entryFrame, mkF, argsToLocals, Value.category]; done) | rfl
set_option maxRecDepth 65536 in
set_option maxHeartbeats 40000000 in
theorem own_rm2 (l : Launch) (Z : State) (a0 : Array Value) (hw : ∀ d ∈ tables_1, d.before a0 Z = true) (ws : List Jvm.Cond) (wl pl : Int64) (h0 : Heap) (n0 : Nat) (Z0 : n0 ≤ h0.size) (u0 : 0 ≤ wl.toInt) (u1 : wl.toInt < 17179869184) (v0 : 0 ≤ pl.toInt) (v1 : pl.toInt < 4294967296) :
    MetFree l (⟨"com/example/matres/matres/sim/ServiceRatingOfPinLaw", "expected", "(JJ)I"⟩ : MethodName) (head1 (Jvm.Cond.code (⟨"com/example/matres/matres/sim/ServiceRatingOfPinLaw", "expected", "(JJ)I"⟩ : MethodName) method_2_code 6 (some .int) :: ws) ({ frames := 0, cells := 0, slots := 0, locals := 0 } : Room)) (fun a U => a = #[(.long wl), (.long pl)] ∧ Z.Warmed39 U.vm ∧ U.heap = h0) (fun _ _ _ _ _ => True) (fun _ U o U' => ∃ v L, o = .returned v ∧ own_Qp (some (.int (own_rate wl pl))) h0 n0 v U'.heap L ∧ FrameEnd U o U' L ({ frames := 0, cells := 0, slots := 0, locals := 0 } : Room).cells ({ frames := 0, cells := 0, slots := 0, locals := 0 } : Room).slots) := by
  refine MetFree.of_bodySF (plainFor_of_name own_pn1) hisR ?_
  intro p e s m args below meth c s₁ Bd hml0 hP hK
  obtain ⟨rfl, hZ, hh⟩ := hP
  have hx := Bd.exec
  have hby := Bd.bytes
  have hml : c.maxLocals = 6 := hml0
  have hown : s.vm.findClass "com/example/matres/matres/sim/ServiceRatingOfPinLaw" = some m.cls := findClass_of_methodNamed Bd.named
  have hnm := (name_of_methodNamed Bd.named Bd.method).1
  have X0 : Stand p l e ({ frames := 0, cells := 0, slots := 0, locals := 0 } : Room) s m #[(.long wl), (.long pl)] below meth c s₁ [] 0 0 := Stand.of_body Bd
  have e0 : s₁.heap = h0 := by rw [← hh, Bd.state]; rfl
  have N0 := Fr.nil n0
  refine own_in (Q := own_Qp (some (.int (own_rate wl pl))) h0 n0) ?_
  rw [own_ef2]
  show own_G _ _ _ _ _ _ _ (s₁.setTop (mkF m 0 #[.val (.long wl), .second, .val (.long pl), .second, .unset, .unset] []))
  refine own_st (fun t k => XS.lloadN X0.here hx rfl (hb hby own_d2_0) rfl k) ?_
  show own_G _ _ _ _ _ _ _ (s₁.setTop (mkF m 1 #[.val (.long wl), .second, .val (.long pl), .second, .unset, .unset] [(.long pl)]))
  refine own_st (fun t k => XS.lconst X0.here hx rfl (hb hby own_d2_1) k) ?_
  show own_G _ _ _ _ _ _ _ (s₁.setTop (mkF m 2 #[.val (.long wl), .second, .val (.long pl), .second, .unset, .unset] [(.long (0 : Int64)), (.long pl)]))
  refine own_st (fun t k => XS.lcmp X0.here hx rfl (hb hby own_d2_2) rfl k) ?_
  show own_G _ _ _ _ _ _ _ (s₁.setTop (mkF m 3 #[.val (.long wl), .second, .val (.long pl), .second, .unset, .unset] [(.int (lcmpW pl (0 : Int64)))]))
  by_cases hp : (lcmpW pl (0 : Int64)) = (0 : Int32)
  · refine own_st (fun t k => XS.ifNo X0.here hx rfl (hb hby own_d2_3) rfl ((if0 _ _).trans (teq hp).2) k) ?_
    show own_G _ _ _ _ _ _ _ (s₁.setTop (mkF m 6 #[.val (.long wl), .second, .val (.long pl), .second, .unset, .unset] []))
    refine own_st (fun t k => XS.lloadN X0.here hx rfl (hb hby own_d2_6) rfl k) ?_
    show own_G _ _ _ _ _ _ _ (s₁.setTop (mkF m 7 #[.val (.long wl), .second, .val (.long pl), .second, .unset, .unset] [(.long wl)]))
    refine own_st (fun t k => XS.lconst X0.here hx rfl (hb hby own_d2_7) k) ?_
    show own_G _ _ _ _ _ _ _ (s₁.setTop (mkF m 8 #[.val (.long wl), .second, .val (.long pl), .second, .unset, .unset] [(.long (0 : Int64)), (.long wl)]))
    refine own_st (fun t k => XS.lcmp X0.here hx rfl (hb hby own_d2_8) rfl k) ?_
    show own_G _ _ _ _ _ _ _ (s₁.setTop (mkF m 9 #[.val (.long wl), .second, .val (.long pl), .second, .unset, .unset] [(.int (lcmpW wl (0 : Int64)))]))
    by_cases hq : (lcmpW wl (0 : Int64)) = (0 : Int32)
    · refine own_st (fun t k => XS.ifNo X0.here hx rfl (hb hby own_d2_9) rfl ((if0 _ _).trans (teq hq).2) k) ?_
      show own_G _ _ _ _ _ _ _ (s₁.setTop (mkF m 12 #[.val (.long wl), .second, .val (.long pl), .second, .unset, .unset] []))
      refine own_st (fun t k => XS.iconst X0.here hx rfl (hb hby own_d2_12) k) ?_
      show own_G _ _ _ _ _ _ _ (s₁.setTop (mkF m 13 #[.val (.long wl), .second, .val (.long pl), .second, .unset, .unset] [(.int (5 : Int32))]))
      refine own_st (fun t k => XS.goto X0.here hx rfl (pc0 := 13) (pc' := 17) rfl (hb hby own_d2_13) (by decide) (by decide) k) ?_
      show own_G _ _ _ _ _ _ _ (s₁.setTop (mkF m 17 #[.val (.long wl), .second, .val (.long pl), .second, .unset, .unset] [(.int (5 : Int32))]))
      exact own_retI X0 hx Bd.returns (BodyLoose.notSynchronized Bd) (hb hby own_d2_17) (by decide) (by decide) ⟨by rw [own_rate, if_pos ((lw_eq _ _).mp hp), if_pos ((lw_eq _ _).mp hq)], N0, e0⟩
    · refine own_st (fun t k => XS.ifYes X0.here hx rfl (pc0 := 9) (pc' := 16) rfl (hb hby own_d2_9) rfl ((if0 _ _).trans (feq hq).2) (by decide) (by decide) k) ?_
      show own_G _ _ _ _ _ _ _ (s₁.setTop (mkF m 16 #[.val (.long wl), .second, .val (.long pl), .second, .unset, .unset] []))
      refine own_st (fun t k => XS.iconst X0.here hx rfl (hb hby own_d2_16) k) ?_
      show own_G _ _ _ _ _ _ _ (s₁.setTop (mkF m 17 #[.val (.long wl), .second, .val (.long pl), .second, .unset, .unset] [(.int (1 : Int32))]))
      exact own_retI X0 hx Bd.returns (BodyLoose.notSynchronized Bd) (hb hby own_d2_17) (by decide) (by decide) ⟨by rw [own_rate, if_pos ((lw_eq _ _).mp hp), if_neg (fun q => hq ((lw_eq _ _).mpr q))], N0, e0⟩
  · refine own_st (fun t k => XS.ifYes X0.here hx rfl (pc0 := 3) (pc' := 18) rfl (hb hby own_d2_3) rfl ((if0 _ _).trans (feq hp).2) (by decide) (by decide) k) ?_
    show own_G _ _ _ _ _ _ _ (s₁.setTop (mkF m 18 #[.val (.long wl), .second, .val (.long pl), .second, .unset, .unset] []))
    obtain ⟨z1, z2, z3, z4, z5⟩ := own_rv (w := wl) (fun q => hp ((lw_eq _ _).mpr q)) v0
    have k9 : lcmpW ((5 : Int64) * wl) ((9 : Int64) * pl) < 0 ↔ 5 * wl.toInt < 9 * pl.toInt := own_lw (by decide) (by decide) (by decide) u0 u1 v0 v1
    have k8 : lcmpW ((5 : Int64) * wl) ((8 : Int64) * pl) < 0 ↔ 5 * wl.toInt < 8 * pl.toInt := own_lw (by decide) (by decide) (by decide) u0 u1 v0 v1
    have k7 : lcmpW ((5 : Int64) * wl) ((7 : Int64) * pl) < 0 ↔ 5 * wl.toInt < 7 * pl.toInt := own_lw (by decide) (by decide) (by decide) u0 u1 v0 v1
    have k6 : lcmpW ((5 : Int64) * wl) ((6 : Int64) * pl) < 0 ↔ 5 * wl.toInt < 6 * pl.toInt := own_lw (by decide) (by decide) (by decide) u0 u1 v0 v1
    refine own_st (fun t k => X0.ldc2Long hx hown (mvT hZ (hw _ (List.mem_of_getElem? (i := 11) rfl))) (g := (mkF m 18 #[.val (.long wl), .second, .val (.long pl), .second, .unset, .unset] [])) rfl (hb hby own_d2_18) t k) ?_
    show own_G _ _ _ _ _ _ _ (s₁.setTop (mkF m 21 #[.val (.long wl), .second, .val (.long pl), .second, .unset, .unset] [(.long (5 : Int64))]))
    refine own_st (fun t k => XS.lloadN X0.here hx rfl (hb hby own_d2_21) rfl k) ?_
    show own_G _ _ _ _ _ _ _ (s₁.setTop (mkF m 22 #[.val (.long wl), .second, .val (.long pl), .second, .unset, .unset] [(.long wl), (.long (5 : Int64))]))
    refine own_st (fun t k => XS.lmul X0.here hx rfl (hb hby own_d2_22) rfl k) ?_
    show own_G _ _ _ _ _ _ _ (s₁.setTop (mkF m 23 #[.val (.long wl), .second, .val (.long pl), .second, .unset, .unset] [(.long ((5 : Int64) * wl))]))
    refine own_st (fun t k => XS.lstore X0.here hx rfl (hb hby own_d2_23) rfl (l' := #[.val (.long wl), .second, .val (.long pl), .second, .val (.long ((5 : Int64) * wl)), .second]) rfl k) ?_
    show own_G _ _ _ _ _ _ _ (s₁.setTop (mkF m 25 #[.val (.long wl), .second, .val (.long pl), .second, .val (.long ((5 : Int64) * wl)), .second] []))
    refine own_st (fun t k => XS.lload X0.here hx rfl (hb hby own_d2_25) rfl k) ?_
    show own_G _ _ _ _ _ _ _ (s₁.setTop (mkF m 27 #[.val (.long wl), .second, .val (.long pl), .second, .val (.long ((5 : Int64) * wl)), .second] [(.long ((5 : Int64) * wl))]))
    refine own_st (fun t k => X0.ldc2Long hx hown (mvT hZ (hw _ (List.mem_of_getElem? (i := 12) rfl))) (g := (mkF m 27 #[.val (.long wl), .second, .val (.long pl), .second, .val (.long ((5 : Int64) * wl)), .second] [(.long ((5 : Int64) * wl))])) rfl (hb hby own_d2_27) t k) ?_
    show own_G _ _ _ _ _ _ _ (s₁.setTop (mkF m 30 #[.val (.long wl), .second, .val (.long pl), .second, .val (.long ((5 : Int64) * wl)), .second] [(.long (9 : Int64)), (.long ((5 : Int64) * wl))]))
    refine own_st (fun t k => XS.lloadN X0.here hx rfl (hb hby own_d2_30) rfl k) ?_
    show own_G _ _ _ _ _ _ _ (s₁.setTop (mkF m 31 #[.val (.long wl), .second, .val (.long pl), .second, .val (.long ((5 : Int64) * wl)), .second] [(.long pl), (.long (9 : Int64)), (.long ((5 : Int64) * wl))]))
    refine own_st (fun t k => XS.lmul X0.here hx rfl (hb hby own_d2_31) rfl k) ?_
    show own_G _ _ _ _ _ _ _ (s₁.setTop (mkF m 32 #[.val (.long wl), .second, .val (.long pl), .second, .val (.long ((5 : Int64) * wl)), .second] [(.long ((9 : Int64) * pl)), (.long ((5 : Int64) * wl))]))
    refine own_st (fun t k => XS.lcmp X0.here hx rfl (hb hby own_d2_32) rfl k) ?_
    show own_G _ _ _ _ _ _ _ (s₁.setTop (mkF m 33 #[.val (.long wl), .second, .val (.long pl), .second, .val (.long ((5 : Int64) * wl)), .second] [(.int (lcmpW ((5 : Int64) * wl) ((9 : Int64) * pl)))]))
    by_cases h9_ : (lcmpW ((5 : Int64) * wl) ((9 : Int64) * pl)) < (0 : Int32)
    · refine own_st (fun t k => XS.ifYes X0.here hx rfl (pc0 := 33) (pc' := 38) rfl (hb hby own_d2_33) rfl ((if0 _ _).trans (tlt h9_).1) (by decide) (by decide) k) ?_
      show own_G _ _ _ _ _ _ _ (s₁.setTop (mkF m 38 #[.val (.long wl), .second, .val (.long pl), .second, .val (.long ((5 : Int64) * wl)), .second] []))
      refine own_st (fun t k => XS.lload X0.here hx rfl (hb hby own_d2_38) rfl k) ?_
      show own_G _ _ _ _ _ _ _ (s₁.setTop (mkF m 40 #[.val (.long wl), .second, .val (.long pl), .second, .val (.long ((5 : Int64) * wl)), .second] [(.long ((5 : Int64) * wl))]))
      refine own_st (fun t k => X0.ldc2Long hx hown (mvT hZ (hw _ (List.mem_of_getElem? (i := 13) rfl))) (g := (mkF m 40 #[.val (.long wl), .second, .val (.long pl), .second, .val (.long ((5 : Int64) * wl)), .second] [(.long ((5 : Int64) * wl))])) rfl (hb hby own_d2_40) t k) ?_
      show own_G _ _ _ _ _ _ _ (s₁.setTop (mkF m 43 #[.val (.long wl), .second, .val (.long pl), .second, .val (.long ((5 : Int64) * wl)), .second] [(.long (8 : Int64)), (.long ((5 : Int64) * wl))]))
      refine own_st (fun t k => XS.lloadN X0.here hx rfl (hb hby own_d2_43) rfl k) ?_
      show own_G _ _ _ _ _ _ _ (s₁.setTop (mkF m 44 #[.val (.long wl), .second, .val (.long pl), .second, .val (.long ((5 : Int64) * wl)), .second] [(.long pl), (.long (8 : Int64)), (.long ((5 : Int64) * wl))]))
      refine own_st (fun t k => XS.lmul X0.here hx rfl (hb hby own_d2_44) rfl k) ?_
      show own_G _ _ _ _ _ _ _ (s₁.setTop (mkF m 45 #[.val (.long wl), .second, .val (.long pl), .second, .val (.long ((5 : Int64) * wl)), .second] [(.long ((8 : Int64) * pl)), (.long ((5 : Int64) * wl))]))
      refine own_st (fun t k => XS.lcmp X0.here hx rfl (hb hby own_d2_45) rfl k) ?_
      show own_G _ _ _ _ _ _ _ (s₁.setTop (mkF m 46 #[.val (.long wl), .second, .val (.long pl), .second, .val (.long ((5 : Int64) * wl)), .second] [(.int (lcmpW ((5 : Int64) * wl) ((8 : Int64) * pl)))]))
      by_cases h8_ : (lcmpW ((5 : Int64) * wl) ((8 : Int64) * pl)) < (0 : Int32)
      · refine own_st (fun t k => XS.ifYes X0.here hx rfl (pc0 := 46) (pc' := 51) rfl (hb hby own_d2_46) rfl ((if0 _ _).trans (tlt h8_).1) (by decide) (by decide) k) ?_
        show own_G _ _ _ _ _ _ _ (s₁.setTop (mkF m 51 #[.val (.long wl), .second, .val (.long pl), .second, .val (.long ((5 : Int64) * wl)), .second] []))
        refine own_st (fun t k => XS.lload X0.here hx rfl (hb hby own_d2_51) rfl k) ?_
        show own_G _ _ _ _ _ _ _ (s₁.setTop (mkF m 53 #[.val (.long wl), .second, .val (.long pl), .second, .val (.long ((5 : Int64) * wl)), .second] [(.long ((5 : Int64) * wl))]))
        refine own_st (fun t k => X0.ldc2Long hx hown (mvT hZ (hw _ (List.mem_of_getElem? (i := 14) rfl))) (g := (mkF m 53 #[.val (.long wl), .second, .val (.long pl), .second, .val (.long ((5 : Int64) * wl)), .second] [(.long ((5 : Int64) * wl))])) rfl (hb hby own_d2_53) t k) ?_
        show own_G _ _ _ _ _ _ _ (s₁.setTop (mkF m 56 #[.val (.long wl), .second, .val (.long pl), .second, .val (.long ((5 : Int64) * wl)), .second] [(.long (7 : Int64)), (.long ((5 : Int64) * wl))]))
        refine own_st (fun t k => XS.lloadN X0.here hx rfl (hb hby own_d2_56) rfl k) ?_
        show own_G _ _ _ _ _ _ _ (s₁.setTop (mkF m 57 #[.val (.long wl), .second, .val (.long pl), .second, .val (.long ((5 : Int64) * wl)), .second] [(.long pl), (.long (7 : Int64)), (.long ((5 : Int64) * wl))]))
        refine own_st (fun t k => XS.lmul X0.here hx rfl (hb hby own_d2_57) rfl k) ?_
        show own_G _ _ _ _ _ _ _ (s₁.setTop (mkF m 58 #[.val (.long wl), .second, .val (.long pl), .second, .val (.long ((5 : Int64) * wl)), .second] [(.long ((7 : Int64) * pl)), (.long ((5 : Int64) * wl))]))
        refine own_st (fun t k => XS.lcmp X0.here hx rfl (hb hby own_d2_58) rfl k) ?_
        show own_G _ _ _ _ _ _ _ (s₁.setTop (mkF m 59 #[.val (.long wl), .second, .val (.long pl), .second, .val (.long ((5 : Int64) * wl)), .second] [(.int (lcmpW ((5 : Int64) * wl) ((7 : Int64) * pl)))]))
        by_cases h7_ : (lcmpW ((5 : Int64) * wl) ((7 : Int64) * pl)) < (0 : Int32)
        · refine own_st (fun t k => XS.ifYes X0.here hx rfl (pc0 := 59) (pc' := 64) rfl (hb hby own_d2_59) rfl ((if0 _ _).trans (tlt h7_).1) (by decide) (by decide) k) ?_
          show own_G _ _ _ _ _ _ _ (s₁.setTop (mkF m 64 #[.val (.long wl), .second, .val (.long pl), .second, .val (.long ((5 : Int64) * wl)), .second] []))
          refine own_st (fun t k => XS.lload X0.here hx rfl (hb hby own_d2_64) rfl k) ?_
          show own_G _ _ _ _ _ _ _ (s₁.setTop (mkF m 66 #[.val (.long wl), .second, .val (.long pl), .second, .val (.long ((5 : Int64) * wl)), .second] [(.long ((5 : Int64) * wl))]))
          refine own_st (fun t k => X0.ldc2Long hx hown (mvT hZ (hw _ (List.mem_of_getElem? (i := 15) rfl))) (g := (mkF m 66 #[.val (.long wl), .second, .val (.long pl), .second, .val (.long ((5 : Int64) * wl)), .second] [(.long ((5 : Int64) * wl))])) rfl (hb hby own_d2_66) t k) ?_
          show own_G _ _ _ _ _ _ _ (s₁.setTop (mkF m 69 #[.val (.long wl), .second, .val (.long pl), .second, .val (.long ((5 : Int64) * wl)), .second] [(.long (6 : Int64)), (.long ((5 : Int64) * wl))]))
          refine own_st (fun t k => XS.lloadN X0.here hx rfl (hb hby own_d2_69) rfl k) ?_
          show own_G _ _ _ _ _ _ _ (s₁.setTop (mkF m 70 #[.val (.long wl), .second, .val (.long pl), .second, .val (.long ((5 : Int64) * wl)), .second] [(.long pl), (.long (6 : Int64)), (.long ((5 : Int64) * wl))]))
          refine own_st (fun t k => XS.lmul X0.here hx rfl (hb hby own_d2_70) rfl k) ?_
          show own_G _ _ _ _ _ _ _ (s₁.setTop (mkF m 71 #[.val (.long wl), .second, .val (.long pl), .second, .val (.long ((5 : Int64) * wl)), .second] [(.long ((6 : Int64) * pl)), (.long ((5 : Int64) * wl))]))
          refine own_st (fun t k => XS.lcmp X0.here hx rfl (hb hby own_d2_71) rfl k) ?_
          show own_G _ _ _ _ _ _ _ (s₁.setTop (mkF m 72 #[.val (.long wl), .second, .val (.long pl), .second, .val (.long ((5 : Int64) * wl)), .second] [(.int (lcmpW ((5 : Int64) * wl) ((6 : Int64) * pl)))]))
          by_cases h6_ : (lcmpW ((5 : Int64) * wl) ((6 : Int64) * pl)) < (0 : Int32)
          · refine own_st (fun t k => XS.ifYes X0.here hx rfl (pc0 := 72) (pc' := 77) rfl (hb hby own_d2_72) rfl ((if0 _ _).trans (tlt h6_).1) (by decide) (by decide) k) ?_
            show own_G _ _ _ _ _ _ _ (s₁.setTop (mkF m 77 #[.val (.long wl), .second, .val (.long pl), .second, .val (.long ((5 : Int64) * wl)), .second] []))
            refine own_st (fun t k => XS.iconst X0.here hx rfl (hb hby own_d2_77) k) ?_
            show own_G _ _ _ _ _ _ _ (s₁.setTop (mkF m 78 #[.val (.long wl), .second, .val (.long pl), .second, .val (.long ((5 : Int64) * wl)), .second] [(.int (5 : Int32))]))
            exact own_retI X0 hx Bd.returns (BodyLoose.notSynchronized Bd) (hb hby own_d2_78) (by decide) (by decide) ⟨by rw [z5 (k6.mp h6_)], N0, e0⟩
          · refine own_st (fun t k => XS.ifNo X0.here hx rfl (hb hby own_d2_72) rfl ((if0 _ _).trans (flt h6_).1) k) ?_
            show own_G _ _ _ _ _ _ _ (s₁.setTop (mkF m 75 #[.val (.long wl), .second, .val (.long pl), .second, .val (.long ((5 : Int64) * wl)), .second] []))
            refine own_st (fun t k => XS.iconst X0.here hx rfl (hb hby own_d2_75) k) ?_
            show own_G _ _ _ _ _ _ _ (s₁.setTop (mkF m 76 #[.val (.long wl), .second, .val (.long pl), .second, .val (.long ((5 : Int64) * wl)), .second] [(.int (4 : Int32))]))
            exact own_retI X0 hx Bd.returns (BodyLoose.notSynchronized Bd) (hb hby own_d2_76) (by decide) (by decide) ⟨by rw [z4 (k7.mp h7_) (fun q => h6_ (k6.mpr q))], N0, e0⟩
        · refine own_st (fun t k => XS.ifNo X0.here hx rfl (hb hby own_d2_59) rfl ((if0 _ _).trans (flt h7_).1) k) ?_
          show own_G _ _ _ _ _ _ _ (s₁.setTop (mkF m 62 #[.val (.long wl), .second, .val (.long pl), .second, .val (.long ((5 : Int64) * wl)), .second] []))
          refine own_st (fun t k => XS.iconst X0.here hx rfl (hb hby own_d2_62) k) ?_
          show own_G _ _ _ _ _ _ _ (s₁.setTop (mkF m 63 #[.val (.long wl), .second, .val (.long pl), .second, .val (.long ((5 : Int64) * wl)), .second] [(.int (3 : Int32))]))
          exact own_retI X0 hx Bd.returns (BodyLoose.notSynchronized Bd) (hb hby own_d2_63) (by decide) (by decide) ⟨by rw [z3 (k8.mp h8_) (fun q => h7_ (k7.mpr q))], N0, e0⟩
      · refine own_st (fun t k => XS.ifNo X0.here hx rfl (hb hby own_d2_46) rfl ((if0 _ _).trans (flt h8_).1) k) ?_
        show own_G _ _ _ _ _ _ _ (s₁.setTop (mkF m 49 #[.val (.long wl), .second, .val (.long pl), .second, .val (.long ((5 : Int64) * wl)), .second] []))
        refine own_st (fun t k => XS.iconst X0.here hx rfl (hb hby own_d2_49) k) ?_
        show own_G _ _ _ _ _ _ _ (s₁.setTop (mkF m 50 #[.val (.long wl), .second, .val (.long pl), .second, .val (.long ((5 : Int64) * wl)), .second] [(.int (2 : Int32))]))
        exact own_retI X0 hx Bd.returns (BodyLoose.notSynchronized Bd) (hb hby own_d2_50) (by decide) (by decide) ⟨by rw [z2 (k9.mp h9_) (fun q => h8_ (k8.mpr q))], N0, e0⟩
    · refine own_st (fun t k => XS.ifNo X0.here hx rfl (hb hby own_d2_33) rfl ((if0 _ _).trans (flt h9_).1) k) ?_
      show own_G _ _ _ _ _ _ _ (s₁.setTop (mkF m 36 #[.val (.long wl), .second, .val (.long pl), .second, .val (.long ((5 : Int64) * wl)), .second] []))
      refine own_st (fun t k => XS.iconst X0.here hx rfl (hb hby own_d2_36) k) ?_
      show own_G _ _ _ _ _ _ _ (s₁.setTop (mkF m 37 #[.val (.long wl), .second, .val (.long pl), .second, .val (.long ((5 : Int64) * wl)), .second] [(.int (1 : Int32))]))
      exact own_retI X0 hx Bd.returns (BodyLoose.notSynchronized Bd) (hb hby own_d2_37) (by decide) (by decide) ⟨by rw [z1 (fun q => h9_ (k9.mpr q))], N0, e0⟩
theorem own_pd0 : parseMethodDescriptor "(DD)I" = some ⟨[.double, .double], some .int⟩ := by decide +kernel
theorem own_pd1 : parseMethodDescriptor "(JJ)I" = some ⟨[.long, .long], some .int⟩ := by decide +kernel
theorem own_ef0 (m : MethodId) (i0 : Int32) (i1 : Int32) (i2 : Int32) : entryFrame m #[(.int i0), (.int i1), (.int i2)] maxLocals = mkF m 0 #[.val (.int i0), .val (.int i1), .val (.int i2), .unset, .unset, .unset, .unset, .unset, .unset, .unset, .unset, .unset, .unset] [] := by first | (simp [entryFrame, mkF, argsToLocals, Value.category, maxLocals]; done) | rfl
set_option maxRecDepth 65536 in
set_option maxHeartbeats 40000000 in
theorem own_rm0 (l : Launch) (Z : State) (a0 : Array Value) (hw : ∀ d ∈ tables_1, d.before a0 Z = true) (ws : List Jvm.Cond) (i0 i1 i2 : Int32) (dA : Addr) (cA : Cell) (h0 : Heap) (n0 : Nat) (Z0 : n0 ≤ h0.size) (Sx : Sta Z h0 "com/example/matres/matres/sim/ServiceRating" "EXCEEDED" "[D" (.ref dA)) (Ax : Arr Z h0 dA cA .double) (sz : cA.slots.size = (4 : Int32).toNatClampNeg) (x0 : cA.slots[0]? = some (.double (4608083138725491507 : UInt64))) (x1 : cA.slots[1]? = some (.double (4608983858650965606 : UInt64))) (x2 : cA.slots[2]? = some (.double (4609884578576439706 : UInt64))) (x3 : cA.slots[3]? = some (.double (4610785298501913805 : UInt64))) :
    MetFree l x (head1 (Jvm.Cond.code x code maxLocals ret :: ws) room_1) (fun a U => a = #[(.int i0), (.int i1), (.int i2)] ∧ Z.Warmed39 U.vm ∧ U.heap = h0) (fun _ _ _ _ _ => True) (fun _ U o U' => ∃ v L, o = .returned v ∧ own_Q0 n0 v U'.heap L ∧ FrameEnd U o U' L room_1.cells room_1.slots) := by
  refine MetFree.of_bodySF (plainFor_of_name own_pn1) hisR ?_
  intro p e s m args below meth c s₁ Bd hml0 hP hK
  obtain ⟨rfl, hZ, hh⟩ := hP
  have hx := Bd.exec
  have hby := Bd.bytes
  have hml : c.maxLocals = 13 := hml0
  have hown : s.vm.findClass "com/example/matres/matres/sim/ServiceRatingOfPinLaw" = some m.cls := findClass_of_methodNamed Bd.named
  have hnm := (name_of_methodNamed Bd.named Bd.method).1
  have X0 : Stand p l e room_1 s m #[(.int i0), (.int i1), (.int i2)] below meth c s₁ [] 0 0 := Stand.of_body Bd
  have e0 : s₁.heap = h0 := by rw [← hh, Bd.state]; rfl
  have N0 := Fr.nil n0
  refine own_in (Q := own_Q0 n0) ?_
  rw [own_ef0]
  show own_G _ _ _ _ _ _ _ (s₁.setTop (mkF m 0 #[.val (.int i0), .val (.int i1), .val (.int i2), .unset, .unset, .unset, .unset, .unset, .unset, .unset, .unset, .unset, .unset] []))
  refine own_st (fun t k => XS.iloadN X0.here hx rfl (hb hby at_0) rfl k) ?_
  show own_G _ _ _ _ _ _ _ (s₁.setTop (mkF m 1 #[.val (.int i0), .val (.int i1), .val (.int i2), .unset, .unset, .unset, .unset, .unset, .unset, .unset, .unset, .unset, .unset] [(.int i2)]))
  refine own_st (fun t k => XS.iconst X0.here hx rfl (hb hby at_1) k) ?_
  show own_G _ _ _ _ _ _ _ (s₁.setTop (mkF m 2 #[.val (.int i0), .val (.int i1), .val (.int i2), .unset, .unset, .unset, .unset, .unset, .unset, .unset, .unset, .unset, .unset] [(.int (1 : Int32)), (.int i2)]))
  refine own_st (fun t k => XS.iand X0.here hx rfl (hb hby at_2) rfl k) ?_
  show own_G _ _ _ _ _ _ _ (s₁.setTop (mkF m 3 #[.val (.int i0), .val (.int i1), .val (.int i2), .unset, .unset, .unset, .unset, .unset, .unset, .unset, .unset, .unset, .unset] [(.int (i2 &&& (1 : Int32)))]))
  by_cases hz : (i2 &&& (1 : Int32)) = (0 : Int32)
  · refine own_st (fun t k => XS.ifYes X0.here hx rfl (pc0 := 3) (pc' := 67) rfl (hb hby at_3) rfl ((if0 _ _).trans (teq hz).1) (by decide) (by decide) k) ?_
    show own_G _ _ _ _ _ _ _ (s₁.setTop (mkF m 67 #[.val (.int i0), .val (.int i1), .val (.int i2), .unset, .unset, .unset, .unset, .unset, .unset, .unset, .unset, .unset, .unset] []))
    refine own_st (fun t k => XS.iloadN X0.here hx rfl (hb hby at_67) rfl k) ?_
    show own_G _ _ _ _ _ _ _ (s₁.setTop (mkF m 68 #[.val (.int i0), .val (.int i1), .val (.int i2), .unset, .unset, .unset, .unset, .unset, .unset, .unset, .unset, .unset, .unset] [(.int i1)]))
    refine own_st (fun t k => XS.i2l X0.here hx rfl (hb hby at_68) rfl k) ?_
    show own_G _ _ _ _ _ _ _ (s₁.setTop (mkF m 69 #[.val (.int i0), .val (.int i1), .val (.int i2), .unset, .unset, .unset, .unset, .unset, .unset, .unset, .unset, .unset, .unset] [(.long (i1.toInt64))]))
    refine own_st (fun t k => X0.ldc2Long hx hown (mvT hZ (hw _ (List.mem_of_getElem? (i := 0) rfl))) (g := (mkF m 69 #[.val (.int i0), .val (.int i1), .val (.int i2), .unset, .unset, .unset, .unset, .unset, .unset, .unset, .unset, .unset, .unset] [(.long (i1.toInt64))])) rfl (hb hby at_69) t k) ?_
    show own_G _ _ _ _ _ _ _ (s₁.setTop (mkF m 72 #[.val (.int i0), .val (.int i1), .val (.int i2), .unset, .unset, .unset, .unset, .unset, .unset, .unset, .unset, .unset, .unset] [(.long (2147483647 : Int64)), (.long (i1.toInt64))]))
    refine own_st (fun t k => XS.land X0.here hx rfl (hb hby at_72) rfl k) ?_
    show own_G _ _ _ _ _ _ _ (s₁.setTop (mkF m 73 #[.val (.int i0), .val (.int i1), .val (.int i2), .unset, .unset, .unset, .unset, .unset, .unset, .unset, .unset, .unset, .unset] [(.long ((i1.toInt64) &&& (2147483647 : Int64)))]))
    refine own_st (fun t k => XS.lstoreN X0.here hx rfl (hb hby at_73) rfl (l' := #[.val (.int i0), .val (.int i1), .val (.int i2), .val (.long ((i1.toInt64) &&& (2147483647 : Int64))), .second, .unset, .unset, .unset, .unset, .unset, .unset, .unset, .unset]) rfl k) ?_
    show own_G _ _ _ _ _ _ _ (s₁.setTop (mkF m 74 #[.val (.int i0), .val (.int i1), .val (.int i2), .val (.long ((i1.toInt64) &&& (2147483647 : Int64))), .second, .unset, .unset, .unset, .unset, .unset, .unset, .unset, .unset] []))
    refine own_st (fun t k => XS.iloadN X0.here hx rfl (hb hby at_74) rfl k) ?_
    show own_G _ _ _ _ _ _ _ (s₁.setTop (mkF m 75 #[.val (.int i0), .val (.int i1), .val (.int i2), .val (.long ((i1.toInt64) &&& (2147483647 : Int64))), .second, .unset, .unset, .unset, .unset, .unset, .unset, .unset, .unset] [(.int i0)]))
    refine own_st (fun t k => XS.i2l X0.here hx rfl (hb hby at_75) rfl k) ?_
    show own_G _ _ _ _ _ _ _ (s₁.setTop (mkF m 76 #[.val (.int i0), .val (.int i1), .val (.int i2), .val (.long ((i1.toInt64) &&& (2147483647 : Int64))), .second, .unset, .unset, .unset, .unset, .unset, .unset, .unset, .unset] [(.long (i0.toInt64))]))
    refine own_st (fun t k => X0.ldc2Long hx hown (mvT hZ (hw _ (List.mem_of_getElem? (i := 0) rfl))) (g := (mkF m 76 #[.val (.int i0), .val (.int i1), .val (.int i2), .val (.long ((i1.toInt64) &&& (2147483647 : Int64))), .second, .unset, .unset, .unset, .unset, .unset, .unset, .unset, .unset] [(.long (i0.toInt64))])) rfl (hb hby at_76) t k) ?_
    show own_G _ _ _ _ _ _ _ (s₁.setTop (mkF m 79 #[.val (.int i0), .val (.int i1), .val (.int i2), .val (.long ((i1.toInt64) &&& (2147483647 : Int64))), .second, .unset, .unset, .unset, .unset, .unset, .unset, .unset, .unset] [(.long (2147483647 : Int64)), (.long (i0.toInt64))]))
    refine own_st (fun t k => XS.land X0.here hx rfl (hb hby at_79) rfl k) ?_
    show own_G _ _ _ _ _ _ _ (s₁.setTop (mkF m 80 #[.val (.int i0), .val (.int i1), .val (.int i2), .val (.long ((i1.toInt64) &&& (2147483647 : Int64))), .second, .unset, .unset, .unset, .unset, .unset, .unset, .unset, .unset] [(.long ((i0.toInt64) &&& (2147483647 : Int64)))]))
    refine own_st (fun t k => XS.lstore X0.here hx rfl (hb hby at_80) rfl (l' := #[.val (.int i0), .val (.int i1), .val (.int i2), .val (.long ((i1.toInt64) &&& (2147483647 : Int64))), .second, .val (.long ((i0.toInt64) &&& (2147483647 : Int64))), .second, .unset, .unset, .unset, .unset, .unset, .unset]) rfl k) ?_
    show own_G _ _ _ _ _ _ _ (s₁.setTop (mkF m 82 #[.val (.int i0), .val (.int i1), .val (.int i2), .val (.long ((i1.toInt64) &&& (2147483647 : Int64))), .second, .val (.long ((i0.toInt64) &&& (2147483647 : Int64))), .second, .unset, .unset, .unset, .unset, .unset, .unset] []))
    obtain ⟨u0, u1⟩ := own_k31 i0
    obtain ⟨v0, v1⟩ := own_k31 i1
    generalize h_pl : ((i1.toInt64) &&& (2147483647 : Int64)) = pl
    show own_G _ _ _ _ _ _ _ (s₁.setTop (mkF m 82 #[.val (.int i0), .val (.int i1), .val (.int i2), .val (.long pl), .second, .val (.long ((i0.toInt64) &&& (2147483647 : Int64))), .second, .unset, .unset, .unset, .unset, .unset, .unset] []))
    rw [h_pl] at v0 v1
    generalize h_wl : ((i0.toInt64) &&& (2147483647 : Int64)) = wl
    show own_G _ _ _ _ _ _ _ (s₁.setTop (mkF m 82 #[.val (.int i0), .val (.int i1), .val (.int i2), .val (.long pl), .second, .val (.long wl), .second, .unset, .unset, .unset, .unset, .unset, .unset] []))
    try rw [h_wl] at u0 u1
    replace u1 : wl.toInt < 17179869184 := by omega
    replace v1 : pl.toInt < 4294967296 := by omega
    refine own_st (fun t k => XS.lload X0.here hx rfl (hb hby at_82) rfl k) ?_
    show own_G _ _ _ _ _ _ _ (s₁.setTop (mkF m 84 #[.val (.int i0), .val (.int i1), .val (.int i2), .val (.long pl), .second, .val (.long wl), .second, .unset, .unset, .unset, .unset, .unset, .unset] [(.long wl)]))
    refine own_st (fun t k => XS.l2dS X0.here hx rfl (hb hby at_84) rfl rfl k) ?_
    show own_G _ _ _ _ _ _ _ (s₁.setTop (mkF m 85 #[.val (.int i0), .val (.int i1), .val (.int i2), .val (.long pl), .second, .val (.long wl), .second, .unset, .unset, .unset, .unset, .unset, .unset] [(.double (FP.l2d wl))]))
    refine own_st (fun t k => XS.lloadN X0.here hx rfl (hb hby at_85) rfl k) ?_
    show own_G _ _ _ _ _ _ _ (s₁.setTop (mkF m 86 #[.val (.int i0), .val (.int i1), .val (.int i2), .val (.long pl), .second, .val (.long wl), .second, .unset, .unset, .unset, .unset, .unset, .unset] [(.long pl), (.double (FP.l2d wl))]))
    refine own_st (fun t k => XS.l2dS X0.here hx rfl (hb hby at_86) rfl rfl k) ?_
    show own_G _ _ _ _ _ _ _ (s₁.setTop (mkF m 87 #[.val (.int i0), .val (.int i1), .val (.int i2), .val (.long pl), .second, .val (.long wl), .second, .unset, .unset, .unset, .unset, .unset, .unset] [(.double (FP.l2d pl)), (.double (FP.l2d wl))]))
    obtain ⟨_, _, ⟨T2, L2, k2, n2⟩, -, X2, ⟨Lc2, hQ2, l2, y2, z2⟩, st2⟩ := Jvm.LawKit.callS X0 hx (y := (⟨"com/example/matres/matres/sim/ServiceRating", "of", "(DD)I"⟩ : MethodName)) hown (mvT hZ (hw _ (List.mem_of_getElem? (i := 1) rfl))) (mvT hZ (hw _ (List.mem_of_getElem? (i := 2) rfl))) (mvT hZ (hw _ (List.mem_of_getElem? (i := 3) rfl))) (mvT hZ (hw _ (List.mem_of_getElem? (i := 4) rfl))) (by decide) (backOf (W := 0) (own_rm1 l Z a0 hw [] wl pl (FP.l2d wl) (FP.l2d pl) dA cA h0 n0 Z0 rfl rfl u0 u1 v0 v1 Sx Ax sz x0 x1 x2 x3) hZ (hw _ (List.mem_of_getElem? (i := 4) rfl)) (hw _ (List.mem_of_getElem? (i := 3) rfl)) (by decide) (by decide)) (g := (mkF m 87 #[.val (.int i0), .val (.int i1), .val (.int i2), .val (.long pl), .second, .val (.long wl), .second, .unset, .unset, .unset, .unset, .unset, .unset] [(.double (FP.l2d pl)), (.double (FP.l2d wl))])) rfl (by rw [hml]; rfl) (argsL := [(.double (FP.l2d wl)), (.double (FP.l2d pl))]) (rest := []) (lenOf own_pd0 rfl) rfl (by show 2 * 0 + _ ≤ _; exact Nat.le_of_eq rfl) (hb hby at_87) (fun _ _ => ⟨rfl, e0, (by decide : 0 + 0 ≤ _), (by decide : 0 + 0 ≤ _)⟩)
    dsimp only [Pt.U, Pt.locs, Pt.cells, Pt.slots] at X2 l2 y2 z2 st2 hQ2
    subst l2 y2 z2
    obtain ⟨rfl, N2q, e2⟩ := hQ2
    have N2 := Fr.app N0 N2q
    refine own_st (fun t k => st2 t k) ?_
    show own_G _ _ _ _ _ _ _ (T2.setTop (mkF m 90 #[.val (.int i0), .val (.int i1), .val (.int i2), .val (.long pl), .second, .val (.long wl), .second, .unset, .unset, .unset, .unset, .unset, .unset] [(.int (own_rate wl pl))]))
    refine own_st (fun t k => XS.istore X2.here hx rfl (hb hby at_90) rfl (l' := #[.val (.int i0), .val (.int i1), .val (.int i2), .val (.long pl), .second, .val (.long wl), .second, .val (.int (own_rate wl pl)), .unset, .unset, .unset, .unset, .unset]) rfl k) ?_
    show own_G _ _ _ _ _ _ _ (T2.setTop (mkF m 92 #[.val (.int i0), .val (.int i1), .val (.int i2), .val (.long pl), .second, .val (.long wl), .second, .val (.int (own_rate wl pl)), .unset, .unset, .unset, .unset, .unset] []))
    refine own_st (fun t k => XS.iload X2.here hx rfl (hb hby at_92) rfl k) ?_
    show own_G _ _ _ _ _ _ _ (T2.setTop (mkF m 94 #[.val (.int i0), .val (.int i1), .val (.int i2), .val (.long pl), .second, .val (.long wl), .second, .val (.int (own_rate wl pl)), .unset, .unset, .unset, .unset, .unset] [(.int (own_rate wl pl))]))
    refine own_st (fun t k => XS.lload X2.here hx rfl (hb hby at_94) rfl k) ?_
    show own_G _ _ _ _ _ _ _ (T2.setTop (mkF m 96 #[.val (.int i0), .val (.int i1), .val (.int i2), .val (.long pl), .second, .val (.long wl), .second, .val (.int (own_rate wl pl)), .unset, .unset, .unset, .unset, .unset] [(.long wl), (.int (own_rate wl pl))]))
    refine own_st (fun t k => XS.lloadN X2.here hx rfl (hb hby at_96) rfl k) ?_
    show own_G _ _ _ _ _ _ _ (T2.setTop (mkF m 97 #[.val (.int i0), .val (.int i1), .val (.int i2), .val (.long pl), .second, .val (.long wl), .second, .val (.int (own_rate wl pl)), .unset, .unset, .unset, .unset, .unset] [(.long pl), (.long wl), (.int (own_rate wl pl))]))
    obtain ⟨_, _, ⟨T3, L3, k3, n3⟩, -, X3, ⟨Lc3, hQ3, l3, y3, z3⟩, st3⟩ := Jvm.LawKit.callS X2 hx (y := (⟨"com/example/matres/matres/sim/ServiceRatingOfPinLaw", "expected", "(JJ)I"⟩ : MethodName)) hown (mvT hZ (hw _ (List.mem_of_getElem? (i := 7) rfl))) (mvT hZ (hw _ (List.mem_of_getElem? (i := 8) rfl))) (mvT hZ (hw _ (List.mem_of_getElem? (i := 9) rfl))) (mvT hZ (hw _ (List.mem_of_getElem? (i := 10) rfl))) (by decide) (backOf (W := 1) (own_rm2 l Z a0 hw [] wl pl h0 n0 Z0 u0 u1 v0 v1) hZ (hw _ (List.mem_of_getElem? (i := 10) rfl)) (hw _ (List.mem_of_getElem? (i := 9) rfl)) (by decide) (by decide)) (g := (mkF m 97 #[.val (.int i0), .val (.int i1), .val (.int i2), .val (.long pl), .second, .val (.long wl), .second, .val (.int (own_rate wl pl)), .unset, .unset, .unset, .unset, .unset] [(.long pl), (.long wl), (.int (own_rate wl pl))])) rfl (by rw [hml]; rfl) (argsL := [(.long wl), (.long pl)]) (rest := [(.int (own_rate wl pl))]) (lenOf own_pd1 rfl) rfl (by show 2 * 0 + _ ≤ _; exact Nat.le_of_eq rfl) (hb hby at_97) (fun _ _ => ⟨rfl, e2, (by decide : 0 + 0 ≤ _), (by decide : 0 + 0 ≤ _)⟩)
    dsimp only [Pt.U, Pt.locs, Pt.cells, Pt.slots] at X3 l3 y3 z3 st3 hQ3
    subst l3 y3 z3
    obtain ⟨rfl, N3q, e3⟩ := hQ3
    have N3 := Fr.app N2 N3q
    refine own_st (fun t k => st3 t k) ?_
    show own_G _ _ _ _ _ _ _ (T3.setTop (mkF m 100 #[.val (.int i0), .val (.int i1), .val (.int i2), .val (.long pl), .second, .val (.long wl), .second, .val (.int (own_rate wl pl)), .unset, .unset, .unset, .unset, .unset] [(.int (own_rate wl pl)), (.int (own_rate wl pl))]))
    refine own_st (fun t k => XS.icmpNo X3.here hx rfl (hb hby at_100) rfl (teq rfl).2 k) ?_
    show own_G _ _ _ _ _ _ _ (T3.setTop (mkF m 103 #[.val (.int i0), .val (.int i1), .val (.int i2), .val (.long pl), .second, .val (.long wl), .second, .val (.int (own_rate wl pl)), .unset, .unset, .unset, .unset, .unset] []))
    refine own_st (fun t k => XS.iconst X3.here hx rfl (hb hby at_103) k) ?_
    show own_G _ _ _ _ _ _ _ (T3.setTop (mkF m 104 #[.val (.int i0), .val (.int i1), .val (.int i2), .val (.long pl), .second, .val (.long wl), .second, .val (.int (own_rate wl pl)), .unset, .unset, .unset, .unset, .unset] [(.int (1 : Int32))]))
    refine own_st (fun t k => XS.goto X3.here hx rfl (pc0 := 104) (pc' := 108) rfl (hb hby at_104) (by decide) (by decide) k) ?_
    show own_G _ _ _ _ _ _ _ (T3.setTop (mkF m 108 #[.val (.int i0), .val (.int i1), .val (.int i2), .val (.long pl), .second, .val (.long wl), .second, .val (.int (own_rate wl pl)), .unset, .unset, .unset, .unset, .unset] [(.int (1 : Int32))]))
    exact own_retN (t := .boolean) (by simp) X3 hx Bd.returns (BodyLoose.notSynchronized Bd) (hb hby at_108) (by decide) (by decide) ⟨rfl, N3⟩
  · refine own_st (fun t k => XS.ifNo X0.here hx rfl (hb hby at_3) rfl ((if0 _ _).trans (feq hz).1) k) ?_
    show own_G _ _ _ _ _ _ _ (s₁.setTop (mkF m 6 #[.val (.int i0), .val (.int i1), .val (.int i2), .unset, .unset, .unset, .unset, .unset, .unset, .unset, .unset, .unset, .unset] []))
    refine own_st (fun t k => XS.iloadN X0.here hx rfl (hb hby at_6) rfl k) ?_
    show own_G _ _ _ _ _ _ _ (s₁.setTop (mkF m 7 #[.val (.int i0), .val (.int i1), .val (.int i2), .unset, .unset, .unset, .unset, .unset, .unset, .unset, .unset, .unset, .unset] [(.int i1)]))
    refine own_st (fun t k => XS.i2l X0.here hx rfl (hb hby at_7) rfl k) ?_
    show own_G _ _ _ _ _ _ _ (s₁.setTop (mkF m 8 #[.val (.int i0), .val (.int i1), .val (.int i2), .unset, .unset, .unset, .unset, .unset, .unset, .unset, .unset, .unset, .unset] [(.long (i1.toInt64))]))
    refine own_st (fun t k => X0.ldc2Long hx hown (mvT hZ (hw _ (List.mem_of_getElem? (i := 16) rfl))) (g := (mkF m 8 #[.val (.int i0), .val (.int i1), .val (.int i2), .unset, .unset, .unset, .unset, .unset, .unset, .unset, .unset, .unset, .unset] [(.long (i1.toInt64))])) rfl (hb hby at_8) t k) ?_
    show own_G _ _ _ _ _ _ _ (s₁.setTop (mkF m 11 #[.val (.int i0), .val (.int i1), .val (.int i2), .unset, .unset, .unset, .unset, .unset, .unset, .unset, .unset, .unset, .unset] [(.long (268435455 : Int64)), (.long (i1.toInt64))]))
    refine own_st (fun t k => XS.land X0.here hx rfl (hb hby at_11) rfl k) ?_
    show own_G _ _ _ _ _ _ _ (s₁.setTop (mkF m 12 #[.val (.int i0), .val (.int i1), .val (.int i2), .unset, .unset, .unset, .unset, .unset, .unset, .unset, .unset, .unset, .unset] [(.long ((i1.toInt64) &&& (268435455 : Int64)))]))
    refine own_st (fun t k => XS.lstore X0.here hx rfl (hb hby at_12) rfl (l' := #[.val (.int i0), .val (.int i1), .val (.int i2), .unset, .unset, .unset, .unset, .val (.long ((i1.toInt64) &&& (268435455 : Int64))), .second, .unset, .unset, .unset, .unset]) rfl k) ?_
    show own_G _ _ _ _ _ _ _ (s₁.setTop (mkF m 14 #[.val (.int i0), .val (.int i1), .val (.int i2), .unset, .unset, .unset, .unset, .val (.long ((i1.toInt64) &&& (268435455 : Int64))), .second, .unset, .unset, .unset, .unset] []))
    obtain ⟨y0, y1⟩ := own_k28 i1
    generalize h_xx : ((i1.toInt64) &&& (268435455 : Int64)) = xx
    show own_G _ _ _ _ _ _ _ (s₁.setTop (mkF m 14 #[.val (.int i0), .val (.int i1), .val (.int i2), .unset, .unset, .unset, .unset, .val (.long xx), .second, .unset, .unset, .unset, .unset] []))
    rw [h_xx] at y0 y1
    refine own_st (fun t k => X0.ldc2Long hx hown (mvT hZ (hw _ (List.mem_of_getElem? (i := 11) rfl))) (g := (mkF m 14 #[.val (.int i0), .val (.int i1), .val (.int i2), .unset, .unset, .unset, .unset, .val (.long xx), .second, .unset, .unset, .unset, .unset] [])) rfl (hb hby at_14) t k) ?_
    show own_G _ _ _ _ _ _ _ (s₁.setTop (mkF m 17 #[.val (.int i0), .val (.int i1), .val (.int i2), .unset, .unset, .unset, .unset, .val (.long xx), .second, .unset, .unset, .unset, .unset] [(.long (5 : Int64))]))
    refine own_st (fun t k => XS.lload X0.here hx rfl (hb hby at_17) rfl k) ?_
    show own_G _ _ _ _ _ _ _ (s₁.setTop (mkF m 19 #[.val (.int i0), .val (.int i1), .val (.int i2), .unset, .unset, .unset, .unset, .val (.long xx), .second, .unset, .unset, .unset, .unset] [(.long xx), (.long (5 : Int64))]))
    refine own_st (fun t k => XS.lmul X0.here hx rfl (hb hby at_19) rfl k) ?_
    show own_G _ _ _ _ _ _ _ (s₁.setTop (mkF m 20 #[.val (.int i0), .val (.int i1), .val (.int i2), .unset, .unset, .unset, .unset, .val (.long xx), .second, .unset, .unset, .unset, .unset] [(.long ((5 : Int64) * xx))]))
    refine own_st (fun t k => XS.lstoreN X0.here hx rfl (hb hby at_20) rfl (l' := #[.val (.int i0), .val (.int i1), .val (.int i2), .val (.long ((5 : Int64) * xx)), .second, .unset, .unset, .val (.long xx), .second, .unset, .unset, .unset, .unset]) rfl k) ?_
    show own_G _ _ _ _ _ _ _ (s₁.setTop (mkF m 21 #[.val (.int i0), .val (.int i1), .val (.int i2), .val (.long ((5 : Int64) * xx)), .second, .unset, .unset, .val (.long xx), .second, .unset, .unset, .unset, .unset] []))
    have v0 : 0 ≤ ((5 : Int64) * xx).toInt := by rw [own_m (n := 5) (by decide) (by decide) (by decide) y0 (by omega)]; omega
    have v1 : ((5 : Int64) * xx).toInt < 4294967296 := by rw [own_m (n := 5) (by decide) (by decide) (by decide) y0 (by omega)]; omega
    generalize h_pl : ((5 : Int64) * xx) = pl
    show own_G _ _ _ _ _ _ _ (s₁.setTop (mkF m 21 #[.val (.int i0), .val (.int i1), .val (.int i2), .val (.long pl), .second, .unset, .unset, .val (.long xx), .second, .unset, .unset, .unset, .unset] []))
    rw [h_pl] at v0 v1
    refine own_st (fun t k => X0.ldc2Long hx hown (mvT hZ (hw _ (List.mem_of_getElem? (i := 11) rfl))) (g := (mkF m 21 #[.val (.int i0), .val (.int i1), .val (.int i2), .val (.long pl), .second, .unset, .unset, .val (.long xx), .second, .unset, .unset, .unset, .unset] [])) rfl (hb hby at_21) t k) ?_
    show own_G _ _ _ _ _ _ _ (s₁.setTop (mkF m 24 #[.val (.int i0), .val (.int i1), .val (.int i2), .val (.long pl), .second, .unset, .unset, .val (.long xx), .second, .unset, .unset, .unset, .unset] [(.long (5 : Int64))]))
    refine own_st (fun t k => XS.iloadN X0.here hx rfl (hb hby at_24) rfl k) ?_
    show own_G _ _ _ _ _ _ _ (s₁.setTop (mkF m 25 #[.val (.int i0), .val (.int i1), .val (.int i2), .val (.long pl), .second, .unset, .unset, .val (.long xx), .second, .unset, .unset, .unset, .unset] [(.int i2), (.long (5 : Int64))]))
    refine own_st (fun t k => XS.iconst X0.here hx rfl (hb hby at_25) k) ?_
    show own_G _ _ _ _ _ _ _ (s₁.setTop (mkF m 26 #[.val (.int i0), .val (.int i1), .val (.int i2), .val (.long pl), .second, .unset, .unset, .val (.long xx), .second, .unset, .unset, .unset, .unset] [(.int (1 : Int32)), (.int i2), (.long (5 : Int64))]))
    refine own_st (fun t k => XS.iushr X0.here hx rfl (hb hby at_26) rfl k) ?_
    show own_G _ _ _ _ _ _ _ (s₁.setTop (mkF m 27 #[.val (.int i0), .val (.int i1), .val (.int i2), .val (.long pl), .second, .unset, .unset, .val (.long xx), .second, .unset, .unset, .unset, .unset] [(.int ((i2.toUInt32 >>> ((1 : Int32) &&& 31).toUInt32).toInt32)), (.long (5 : Int64))]))
    refine own_st (fun t k => XS.bipush X0.here hx rfl (hb hby at_27) k) ?_
    show own_G _ _ _ _ _ _ _ (s₁.setTop (mkF m 29 #[.val (.int i0), .val (.int i1), .val (.int i2), .val (.long pl), .second, .unset, .unset, .val (.long xx), .second, .unset, .unset, .unset, .unset] [(.int (7 : Int32)), (.int ((i2.toUInt32 >>> ((1 : Int32) &&& 31).toUInt32).toInt32)), (.long (5 : Int64))]))
    refine own_st (fun t k => XS.iand X0.here hx rfl (hb hby at_29) rfl k) ?_
    show own_G _ _ _ _ _ _ _ (s₁.setTop (mkF m 30 #[.val (.int i0), .val (.int i1), .val (.int i2), .val (.long pl), .second, .unset, .unset, .val (.long xx), .second, .unset, .unset, .unset, .unset] [(.int (((i2.toUInt32 >>> ((1 : Int32) &&& 31).toUInt32).toInt32) &&& (7 : Int32))), (.long (5 : Int64))]))
    refine own_st (fun t k => XS.i2l X0.here hx rfl (hb hby at_30) rfl k) ?_
    show own_G _ _ _ _ _ _ _ (s₁.setTop (mkF m 31 #[.val (.int i0), .val (.int i1), .val (.int i2), .val (.long pl), .second, .unset, .unset, .val (.long xx), .second, .unset, .unset, .unset, .unset] [(.long ((((i2.toUInt32 >>> ((1 : Int32) &&& 31).toUInt32).toInt32) &&& (7 : Int32)).toInt64)), (.long (5 : Int64))]))
    refine own_st (fun t k => XS.ladd X0.here hx rfl (hb hby at_31) rfl k) ?_
    show own_G _ _ _ _ _ _ _ (s₁.setTop (mkF m 32 #[.val (.int i0), .val (.int i1), .val (.int i2), .val (.long pl), .second, .unset, .unset, .val (.long xx), .second, .unset, .unset, .unset, .unset] [(.long ((5 : Int64) + ((((i2.toUInt32 >>> ((1 : Int32) &&& 31).toUInt32).toInt32) &&& (7 : Int32)).toInt64)))]))
    refine own_st (fun t k => XS.lstore X0.here hx rfl (hb hby at_32) rfl (l' := #[.val (.int i0), .val (.int i1), .val (.int i2), .val (.long pl), .second, .unset, .unset, .val (.long xx), .second, .val (.long ((5 : Int64) + ((((i2.toUInt32 >>> ((1 : Int32) &&& 31).toUInt32).toInt32) &&& (7 : Int32)).toInt64))), .second, .unset, .unset]) rfl k) ?_
    show own_G _ _ _ _ _ _ _ (s₁.setTop (mkF m 34 #[.val (.int i0), .val (.int i1), .val (.int i2), .val (.long pl), .second, .unset, .unset, .val (.long xx), .second, .val (.long ((5 : Int64) + ((((i2.toUInt32 >>> ((1 : Int32) &&& 31).toUInt32).toInt32) &&& (7 : Int32)).toInt64))), .second, .unset, .unset] []))
    refine own_st (fun t k => XS.iloadN X0.here hx rfl (hb hby at_34) rfl k) ?_
    show own_G _ _ _ _ _ _ _ (s₁.setTop (mkF m 35 #[.val (.int i0), .val (.int i1), .val (.int i2), .val (.long pl), .second, .unset, .unset, .val (.long xx), .second, .val (.long ((5 : Int64) + ((((i2.toUInt32 >>> ((1 : Int32) &&& 31).toUInt32).toInt32) &&& (7 : Int32)).toInt64))), .second, .unset, .unset] [(.int i2)]))
    refine own_st (fun t k => XS.iconst X0.here hx rfl (hb hby at_35) k) ?_
    show own_G _ _ _ _ _ _ _ (s₁.setTop (mkF m 36 #[.val (.int i0), .val (.int i1), .val (.int i2), .val (.long pl), .second, .unset, .unset, .val (.long xx), .second, .val (.long ((5 : Int64) + ((((i2.toUInt32 >>> ((1 : Int32) &&& 31).toUInt32).toInt32) &&& (7 : Int32)).toInt64))), .second, .unset, .unset] [(.int (4 : Int32)), (.int i2)]))
    refine own_st (fun t k => XS.iushr X0.here hx rfl (hb hby at_36) rfl k) ?_
    show own_G _ _ _ _ _ _ _ (s₁.setTop (mkF m 37 #[.val (.int i0), .val (.int i1), .val (.int i2), .val (.long pl), .second, .unset, .unset, .val (.long xx), .second, .val (.long ((5 : Int64) + ((((i2.toUInt32 >>> ((1 : Int32) &&& 31).toUInt32).toInt32) &&& (7 : Int32)).toInt64))), .second, .unset, .unset] [(.int ((i2.toUInt32 >>> ((4 : Int32) &&& 31).toUInt32).toInt32))]))
    refine own_st (fun t k => XS.iconst X0.here hx rfl (hb hby at_37) k) ?_
    show own_G _ _ _ _ _ _ _ (s₁.setTop (mkF m 38 #[.val (.int i0), .val (.int i1), .val (.int i2), .val (.long pl), .second, .unset, .unset, .val (.long xx), .second, .val (.long ((5 : Int64) + ((((i2.toUInt32 >>> ((1 : Int32) &&& 31).toUInt32).toInt32) &&& (7 : Int32)).toInt64))), .second, .unset, .unset] [(.int (3 : Int32)), (.int ((i2.toUInt32 >>> ((4 : Int32) &&& 31).toUInt32).toInt32))]))
    refine own_st (fun t k => XS.iand X0.here hx rfl (hb hby at_38) rfl k) ?_
    show own_G _ _ _ _ _ _ _ (s₁.setTop (mkF m 39 #[.val (.int i0), .val (.int i1), .val (.int i2), .val (.long pl), .second, .unset, .unset, .val (.long xx), .second, .val (.long ((5 : Int64) + ((((i2.toUInt32 >>> ((1 : Int32) &&& 31).toUInt32).toInt32) &&& (7 : Int32)).toInt64))), .second, .unset, .unset] [(.int (((i2.toUInt32 >>> ((4 : Int32) &&& 31).toUInt32).toInt32) &&& (3 : Int32)))]))
    refine own_st (fun t k => XS.i2l X0.here hx rfl (hb hby at_39) rfl k) ?_
    show own_G _ _ _ _ _ _ _ (s₁.setTop (mkF m 40 #[.val (.int i0), .val (.int i1), .val (.int i2), .val (.long pl), .second, .unset, .unset, .val (.long xx), .second, .val (.long ((5 : Int64) + ((((i2.toUInt32 >>> ((1 : Int32) &&& 31).toUInt32).toInt32) &&& (7 : Int32)).toInt64))), .second, .unset, .unset] [(.long ((((i2.toUInt32 >>> ((4 : Int32) &&& 31).toUInt32).toInt32) &&& (3 : Int32)).toInt64))]))
    refine own_st (fun t k => XS.lconst X0.here hx rfl (hb hby at_40) k) ?_
    show own_G _ _ _ _ _ _ _ (s₁.setTop (mkF m 41 #[.val (.int i0), .val (.int i1), .val (.int i2), .val (.long pl), .second, .unset, .unset, .val (.long xx), .second, .val (.long ((5 : Int64) + ((((i2.toUInt32 >>> ((1 : Int32) &&& 31).toUInt32).toInt32) &&& (7 : Int32)).toInt64))), .second, .unset, .unset] [(.long (1 : Int64)), (.long ((((i2.toUInt32 >>> ((4 : Int32) &&& 31).toUInt32).toInt32) &&& (3 : Int32)).toInt64))]))
    refine own_st (fun t k => XS.lsub X0.here hx rfl (hb hby at_41) rfl k) ?_
    show own_G _ _ _ _ _ _ _ (s₁.setTop (mkF m 42 #[.val (.int i0), .val (.int i1), .val (.int i2), .val (.long pl), .second, .unset, .unset, .val (.long xx), .second, .val (.long ((5 : Int64) + ((((i2.toUInt32 >>> ((1 : Int32) &&& 31).toUInt32).toInt32) &&& (7 : Int32)).toInt64))), .second, .unset, .unset] [(.long (((((i2.toUInt32 >>> ((4 : Int32) &&& 31).toUInt32).toInt32) &&& (3 : Int32)).toInt64) - (1 : Int64)))]))
    refine own_st (fun t k => XS.lstore X0.here hx rfl (hb hby at_42) rfl (l' := #[.val (.int i0), .val (.int i1), .val (.int i2), .val (.long pl), .second, .unset, .unset, .val (.long xx), .second, .val (.long ((5 : Int64) + ((((i2.toUInt32 >>> ((1 : Int32) &&& 31).toUInt32).toInt32) &&& (7 : Int32)).toInt64))), .second, .val (.long (((((i2.toUInt32 >>> ((4 : Int32) &&& 31).toUInt32).toInt32) &&& (3 : Int32)).toInt64) - (1 : Int64))), .second]) rfl k) ?_
    show own_G _ _ _ _ _ _ _ (s₁.setTop (mkF m 44 #[.val (.int i0), .val (.int i1), .val (.int i2), .val (.long pl), .second, .unset, .unset, .val (.long xx), .second, .val (.long ((5 : Int64) + ((((i2.toUInt32 >>> ((1 : Int32) &&& 31).toUInt32).toInt32) &&& (7 : Int32)).toInt64))), .second, .val (.long (((((i2.toUInt32 >>> ((4 : Int32) &&& 31).toUInt32).toInt32) &&& (3 : Int32)).toInt64) - (1 : Int64))), .second] []))
    refine own_st (fun t k => XS.lload X0.here hx rfl (hb hby at_44) rfl k) ?_
    show own_G _ _ _ _ _ _ _ (s₁.setTop (mkF m 46 #[.val (.int i0), .val (.int i1), .val (.int i2), .val (.long pl), .second, .unset, .unset, .val (.long xx), .second, .val (.long ((5 : Int64) + ((((i2.toUInt32 >>> ((1 : Int32) &&& 31).toUInt32).toInt32) &&& (7 : Int32)).toInt64))), .second, .val (.long (((((i2.toUInt32 >>> ((4 : Int32) &&& 31).toUInt32).toInt32) &&& (3 : Int32)).toInt64) - (1 : Int64))), .second] [(.long xx)]))
    refine own_st (fun t k => XS.lload X0.here hx rfl (hb hby at_46) rfl k) ?_
    show own_G _ _ _ _ _ _ _ (s₁.setTop (mkF m 48 #[.val (.int i0), .val (.int i1), .val (.int i2), .val (.long pl), .second, .unset, .unset, .val (.long xx), .second, .val (.long ((5 : Int64) + ((((i2.toUInt32 >>> ((1 : Int32) &&& 31).toUInt32).toInt32) &&& (7 : Int32)).toInt64))), .second, .val (.long (((((i2.toUInt32 >>> ((4 : Int32) &&& 31).toUInt32).toInt32) &&& (3 : Int32)).toInt64) - (1 : Int64))), .second] [(.long ((5 : Int64) + ((((i2.toUInt32 >>> ((1 : Int32) &&& 31).toUInt32).toInt32) &&& (7 : Int32)).toInt64))), (.long xx)]))
    refine own_st (fun t k => XS.lmul X0.here hx rfl (hb hby at_48) rfl k) ?_
    show own_G _ _ _ _ _ _ _ (s₁.setTop (mkF m 49 #[.val (.int i0), .val (.int i1), .val (.int i2), .val (.long pl), .second, .unset, .unset, .val (.long xx), .second, .val (.long ((5 : Int64) + ((((i2.toUInt32 >>> ((1 : Int32) &&& 31).toUInt32).toInt32) &&& (7 : Int32)).toInt64))), .second, .val (.long (((((i2.toUInt32 >>> ((4 : Int32) &&& 31).toUInt32).toInt32) &&& (3 : Int32)).toInt64) - (1 : Int64))), .second] [(.long (xx * ((5 : Int64) + ((((i2.toUInt32 >>> ((1 : Int32) &&& 31).toUInt32).toInt32) &&& (7 : Int32)).toInt64))))]))
    refine own_st (fun t k => XS.lload X0.here hx rfl (hb hby at_49) rfl k) ?_
    show own_G _ _ _ _ _ _ _ (s₁.setTop (mkF m 51 #[.val (.int i0), .val (.int i1), .val (.int i2), .val (.long pl), .second, .unset, .unset, .val (.long xx), .second, .val (.long ((5 : Int64) + ((((i2.toUInt32 >>> ((1 : Int32) &&& 31).toUInt32).toInt32) &&& (7 : Int32)).toInt64))), .second, .val (.long (((((i2.toUInt32 >>> ((4 : Int32) &&& 31).toUInt32).toInt32) &&& (3 : Int32)).toInt64) - (1 : Int64))), .second] [(.long (((((i2.toUInt32 >>> ((4 : Int32) &&& 31).toUInt32).toInt32) &&& (3 : Int32)).toInt64) - (1 : Int64))), (.long (xx * ((5 : Int64) + ((((i2.toUInt32 >>> ((1 : Int32) &&& 31).toUInt32).toInt32) &&& (7 : Int32)).toInt64))))]))
    refine own_st (fun t k => XS.ladd X0.here hx rfl (hb hby at_51) rfl k) ?_
    show own_G _ _ _ _ _ _ _ (s₁.setTop (mkF m 52 #[.val (.int i0), .val (.int i1), .val (.int i2), .val (.long pl), .second, .unset, .unset, .val (.long xx), .second, .val (.long ((5 : Int64) + ((((i2.toUInt32 >>> ((1 : Int32) &&& 31).toUInt32).toInt32) &&& (7 : Int32)).toInt64))), .second, .val (.long (((((i2.toUInt32 >>> ((4 : Int32) &&& 31).toUInt32).toInt32) &&& (3 : Int32)).toInt64) - (1 : Int64))), .second] [(.long ((xx * ((5 : Int64) + ((((i2.toUInt32 >>> ((1 : Int32) &&& 31).toUInt32).toInt32) &&& (7 : Int32)).toInt64))) + (((((i2.toUInt32 >>> ((4 : Int32) &&& 31).toUInt32).toInt32) &&& (3 : Int32)).toInt64) - (1 : Int64))))]))
    refine own_st (fun t k => XS.lstore X0.here hx rfl (hb hby at_52) rfl (l' := #[.val (.int i0), .val (.int i1), .val (.int i2), .val (.long pl), .second, .val (.long ((xx * ((5 : Int64) + ((((i2.toUInt32 >>> ((1 : Int32) &&& 31).toUInt32).toInt32) &&& (7 : Int32)).toInt64))) + (((((i2.toUInt32 >>> ((4 : Int32) &&& 31).toUInt32).toInt32) &&& (3 : Int32)).toInt64) - (1 : Int64)))), .second, .val (.long xx), .second, .val (.long ((5 : Int64) + ((((i2.toUInt32 >>> ((1 : Int32) &&& 31).toUInt32).toInt32) &&& (7 : Int32)).toInt64))), .second, .val (.long (((((i2.toUInt32 >>> ((4 : Int32) &&& 31).toUInt32).toInt32) &&& (3 : Int32)).toInt64) - (1 : Int64))), .second]) rfl k) ?_
    show own_G _ _ _ _ _ _ _ (s₁.setTop (mkF m 54 #[.val (.int i0), .val (.int i1), .val (.int i2), .val (.long pl), .second, .val (.long ((xx * ((5 : Int64) + ((((i2.toUInt32 >>> ((1 : Int32) &&& 31).toUInt32).toInt32) &&& (7 : Int32)).toInt64))) + (((((i2.toUInt32 >>> ((4 : Int32) &&& 31).toUInt32).toInt32) &&& (3 : Int32)).toInt64) - (1 : Int64)))), .second, .val (.long xx), .second, .val (.long ((5 : Int64) + ((((i2.toUInt32 >>> ((1 : Int32) &&& 31).toUInt32).toInt32) &&& (7 : Int32)).toInt64))), .second, .val (.long (((((i2.toUInt32 >>> ((4 : Int32) &&& 31).toUInt32).toInt32) &&& (3 : Int32)).toInt64) - (1 : Int64))), .second] []))
    obtain ⟨m0, m1⟩ := own_wl (y := (((i2.toUInt32 >>> ((1 : Int32) &&& 31).toUInt32).toInt32))) (z := (((i2.toUInt32 >>> ((4 : Int32) &&& 31).toUInt32).toInt32))) y0 y1
    generalize h_ww : ((xx * ((5 : Int64) + ((((i2.toUInt32 >>> ((1 : Int32) &&& 31).toUInt32).toInt32) &&& (7 : Int32)).toInt64))) + (((((i2.toUInt32 >>> ((4 : Int32) &&& 31).toUInt32).toInt32) &&& (3 : Int32)).toInt64) - (1 : Int64))) = ww
    show own_G _ _ _ _ _ _ _ (s₁.setTop (mkF m 54 #[.val (.int i0), .val (.int i1), .val (.int i2), .val (.long pl), .second, .val (.long ww), .second, .val (.long xx), .second, .val (.long ((5 : Int64) + ((((i2.toUInt32 >>> ((1 : Int32) &&& 31).toUInt32).toInt32) &&& (7 : Int32)).toInt64))), .second, .val (.long (((((i2.toUInt32 >>> ((4 : Int32) &&& 31).toUInt32).toInt32) &&& (3 : Int32)).toInt64) - (1 : Int64))), .second] []))
    rw [h_ww] at m0 m1
    refine own_st (fun t k => XS.lload X0.here hx rfl (hb hby at_54) rfl k) ?_
    show own_G _ _ _ _ _ _ _ (s₁.setTop (mkF m 56 #[.val (.int i0), .val (.int i1), .val (.int i2), .val (.long pl), .second, .val (.long ww), .second, .val (.long xx), .second, .val (.long ((5 : Int64) + ((((i2.toUInt32 >>> ((1 : Int32) &&& 31).toUInt32).toInt32) &&& (7 : Int32)).toInt64))), .second, .val (.long (((((i2.toUInt32 >>> ((4 : Int32) &&& 31).toUInt32).toInt32) &&& (3 : Int32)).toInt64) - (1 : Int64))), .second] [(.long ww)]))
    refine own_st (fun t k => XS.lconst X0.here hx rfl (hb hby at_56) k) ?_
    show own_G _ _ _ _ _ _ _ (s₁.setTop (mkF m 57 #[.val (.int i0), .val (.int i1), .val (.int i2), .val (.long pl), .second, .val (.long ww), .second, .val (.long xx), .second, .val (.long ((5 : Int64) + ((((i2.toUInt32 >>> ((1 : Int32) &&& 31).toUInt32).toInt32) &&& (7 : Int32)).toInt64))), .second, .val (.long (((((i2.toUInt32 >>> ((4 : Int32) &&& 31).toUInt32).toInt32) &&& (3 : Int32)).toInt64) - (1 : Int64))), .second] [(.long (0 : Int64)), (.long ww)]))
    refine own_st (fun t k => XS.lcmp X0.here hx rfl (hb hby at_57) rfl k) ?_
    show own_G _ _ _ _ _ _ _ (s₁.setTop (mkF m 58 #[.val (.int i0), .val (.int i1), .val (.int i2), .val (.long pl), .second, .val (.long ww), .second, .val (.long xx), .second, .val (.long ((5 : Int64) + ((((i2.toUInt32 >>> ((1 : Int32) &&& 31).toUInt32).toInt32) &&& (7 : Int32)).toInt64))), .second, .val (.long (((((i2.toUInt32 >>> ((4 : Int32) &&& 31).toUInt32).toInt32) &&& (3 : Int32)).toInt64) - (1 : Int64))), .second] [(.int (lcmpW ww (0 : Int64)))]))
    have J : ∀ (wl : Int64), 0 ≤ wl.toInt → wl.toInt < 17179869184 → own_G p.tables e below s (own_Q0 n0) room_1.cells room_1.slots (s₁.setTop (mkF m 64 #[.val (.int i0), .val (.int i1), .val (.int i2), .val (.long pl), .second, .val (.long wl), .second, .val (.long xx), .second, .val (.long ((5 : Int64) + ((((i2.toUInt32 >>> ((1 : Int32) &&& 31).toUInt32).toInt32) &&& (7 : Int32)).toInt64))), .second, .val (.long (((((i2.toUInt32 >>> ((4 : Int32) &&& 31).toUInt32).toInt32) &&& (3 : Int32)).toInt64) - (1 : Int64))), .second] [])) := by
      intro wl u0 u1
      show own_G _ _ _ _ _ _ _ (s₁.setTop (mkF m 64 #[.val (.int i0), .val (.int i1), .val (.int i2), .val (.long pl), .second, .val (.long wl), .second, .val (.long xx), .second, .val (.long ((5 : Int64) + ((((i2.toUInt32 >>> ((1 : Int32) &&& 31).toUInt32).toInt32) &&& (7 : Int32)).toInt64))), .second, .val (.long (((((i2.toUInt32 >>> ((4 : Int32) &&& 31).toUInt32).toInt32) &&& (3 : Int32)).toInt64) - (1 : Int64))), .second] []))
      refine own_st (fun t k => XS.goto X0.here hx rfl (pc0 := 64) (pc' := 82) rfl (hb hby at_64) (by decide) (by decide) k) ?_
      show own_G _ _ _ _ _ _ _ (s₁.setTop (mkF m 82 #[.val (.int i0), .val (.int i1), .val (.int i2), .val (.long pl), .second, .val (.long wl), .second, .val (.long xx), .second, .val (.long ((5 : Int64) + ((((i2.toUInt32 >>> ((1 : Int32) &&& 31).toUInt32).toInt32) &&& (7 : Int32)).toInt64))), .second, .val (.long (((((i2.toUInt32 >>> ((4 : Int32) &&& 31).toUInt32).toInt32) &&& (3 : Int32)).toInt64) - (1 : Int64))), .second] []))
      refine own_st (fun t k => XS.lload X0.here hx rfl (hb hby at_82) rfl k) ?_
      show own_G _ _ _ _ _ _ _ (s₁.setTop (mkF m 84 #[.val (.int i0), .val (.int i1), .val (.int i2), .val (.long pl), .second, .val (.long wl), .second, .val (.long xx), .second, .val (.long ((5 : Int64) + ((((i2.toUInt32 >>> ((1 : Int32) &&& 31).toUInt32).toInt32) &&& (7 : Int32)).toInt64))), .second, .val (.long (((((i2.toUInt32 >>> ((4 : Int32) &&& 31).toUInt32).toInt32) &&& (3 : Int32)).toInt64) - (1 : Int64))), .second] [(.long wl)]))
      refine own_st (fun t k => XS.l2dS X0.here hx rfl (hb hby at_84) rfl rfl k) ?_
      show own_G _ _ _ _ _ _ _ (s₁.setTop (mkF m 85 #[.val (.int i0), .val (.int i1), .val (.int i2), .val (.long pl), .second, .val (.long wl), .second, .val (.long xx), .second, .val (.long ((5 : Int64) + ((((i2.toUInt32 >>> ((1 : Int32) &&& 31).toUInt32).toInt32) &&& (7 : Int32)).toInt64))), .second, .val (.long (((((i2.toUInt32 >>> ((4 : Int32) &&& 31).toUInt32).toInt32) &&& (3 : Int32)).toInt64) - (1 : Int64))), .second] [(.double (FP.l2d wl))]))
      refine own_st (fun t k => XS.lloadN X0.here hx rfl (hb hby at_85) rfl k) ?_
      show own_G _ _ _ _ _ _ _ (s₁.setTop (mkF m 86 #[.val (.int i0), .val (.int i1), .val (.int i2), .val (.long pl), .second, .val (.long wl), .second, .val (.long xx), .second, .val (.long ((5 : Int64) + ((((i2.toUInt32 >>> ((1 : Int32) &&& 31).toUInt32).toInt32) &&& (7 : Int32)).toInt64))), .second, .val (.long (((((i2.toUInt32 >>> ((4 : Int32) &&& 31).toUInt32).toInt32) &&& (3 : Int32)).toInt64) - (1 : Int64))), .second] [(.long pl), (.double (FP.l2d wl))]))
      refine own_st (fun t k => XS.l2dS X0.here hx rfl (hb hby at_86) rfl rfl k) ?_
      show own_G _ _ _ _ _ _ _ (s₁.setTop (mkF m 87 #[.val (.int i0), .val (.int i1), .val (.int i2), .val (.long pl), .second, .val (.long wl), .second, .val (.long xx), .second, .val (.long ((5 : Int64) + ((((i2.toUInt32 >>> ((1 : Int32) &&& 31).toUInt32).toInt32) &&& (7 : Int32)).toInt64))), .second, .val (.long (((((i2.toUInt32 >>> ((4 : Int32) &&& 31).toUInt32).toInt32) &&& (3 : Int32)).toInt64) - (1 : Int64))), .second] [(.double (FP.l2d pl)), (.double (FP.l2d wl))]))
      obtain ⟨_, _, ⟨T4, L4, k4, n4⟩, -, X4, ⟨Lc4, hQ4, l4, y4, z4⟩, st4⟩ := Jvm.LawKit.callS X0 hx (y := (⟨"com/example/matres/matres/sim/ServiceRating", "of", "(DD)I"⟩ : MethodName)) hown (mvT hZ (hw _ (List.mem_of_getElem? (i := 1) rfl))) (mvT hZ (hw _ (List.mem_of_getElem? (i := 2) rfl))) (mvT hZ (hw _ (List.mem_of_getElem? (i := 3) rfl))) (mvT hZ (hw _ (List.mem_of_getElem? (i := 4) rfl))) (by decide) (backOf (W := 0) (own_rm1 l Z a0 hw [] wl pl (FP.l2d wl) (FP.l2d pl) dA cA h0 n0 Z0 rfl rfl u0 u1 v0 v1 Sx Ax sz x0 x1 x2 x3) hZ (hw _ (List.mem_of_getElem? (i := 4) rfl)) (hw _ (List.mem_of_getElem? (i := 3) rfl)) (by decide) (by decide)) (g := (mkF m 87 #[.val (.int i0), .val (.int i1), .val (.int i2), .val (.long pl), .second, .val (.long wl), .second, .val (.long xx), .second, .val (.long ((5 : Int64) + ((((i2.toUInt32 >>> ((1 : Int32) &&& 31).toUInt32).toInt32) &&& (7 : Int32)).toInt64))), .second, .val (.long (((((i2.toUInt32 >>> ((4 : Int32) &&& 31).toUInt32).toInt32) &&& (3 : Int32)).toInt64) - (1 : Int64))), .second] [(.double (FP.l2d pl)), (.double (FP.l2d wl))])) rfl (by rw [hml]; rfl) (argsL := [(.double (FP.l2d wl)), (.double (FP.l2d pl))]) (rest := []) (lenOf own_pd0 rfl) rfl (by show 2 * 0 + _ ≤ _; exact Nat.le_of_eq rfl) (hb hby at_87) (fun _ _ => ⟨rfl, e0, (by decide : 0 + 0 ≤ _), (by decide : 0 + 0 ≤ _)⟩)
      dsimp only [Pt.U, Pt.locs, Pt.cells, Pt.slots] at X4 l4 y4 z4 st4 hQ4
      subst l4 y4 z4
      obtain ⟨rfl, N4q, e4⟩ := hQ4
      have N4 := Fr.app N0 N4q
      refine own_st (fun t k => st4 t k) ?_
      show own_G _ _ _ _ _ _ _ (T4.setTop (mkF m 90 #[.val (.int i0), .val (.int i1), .val (.int i2), .val (.long pl), .second, .val (.long wl), .second, .val (.long xx), .second, .val (.long ((5 : Int64) + ((((i2.toUInt32 >>> ((1 : Int32) &&& 31).toUInt32).toInt32) &&& (7 : Int32)).toInt64))), .second, .val (.long (((((i2.toUInt32 >>> ((4 : Int32) &&& 31).toUInt32).toInt32) &&& (3 : Int32)).toInt64) - (1 : Int64))), .second] [(.int (own_rate wl pl))]))
      refine own_st (fun t k => XS.istore X4.here hx rfl (hb hby at_90) rfl (l' := #[.val (.int i0), .val (.int i1), .val (.int i2), .val (.long pl), .second, .val (.long wl), .second, .val (.int (own_rate wl pl)), .unset, .val (.long ((5 : Int64) + ((((i2.toUInt32 >>> ((1 : Int32) &&& 31).toUInt32).toInt32) &&& (7 : Int32)).toInt64))), .second, .val (.long (((((i2.toUInt32 >>> ((4 : Int32) &&& 31).toUInt32).toInt32) &&& (3 : Int32)).toInt64) - (1 : Int64))), .second]) rfl k) ?_
      show own_G _ _ _ _ _ _ _ (T4.setTop (mkF m 92 #[.val (.int i0), .val (.int i1), .val (.int i2), .val (.long pl), .second, .val (.long wl), .second, .val (.int (own_rate wl pl)), .unset, .val (.long ((5 : Int64) + ((((i2.toUInt32 >>> ((1 : Int32) &&& 31).toUInt32).toInt32) &&& (7 : Int32)).toInt64))), .second, .val (.long (((((i2.toUInt32 >>> ((4 : Int32) &&& 31).toUInt32).toInt32) &&& (3 : Int32)).toInt64) - (1 : Int64))), .second] []))
      refine own_st (fun t k => XS.iload X4.here hx rfl (hb hby at_92) rfl k) ?_
      show own_G _ _ _ _ _ _ _ (T4.setTop (mkF m 94 #[.val (.int i0), .val (.int i1), .val (.int i2), .val (.long pl), .second, .val (.long wl), .second, .val (.int (own_rate wl pl)), .unset, .val (.long ((5 : Int64) + ((((i2.toUInt32 >>> ((1 : Int32) &&& 31).toUInt32).toInt32) &&& (7 : Int32)).toInt64))), .second, .val (.long (((((i2.toUInt32 >>> ((4 : Int32) &&& 31).toUInt32).toInt32) &&& (3 : Int32)).toInt64) - (1 : Int64))), .second] [(.int (own_rate wl pl))]))
      refine own_st (fun t k => XS.lload X4.here hx rfl (hb hby at_94) rfl k) ?_
      show own_G _ _ _ _ _ _ _ (T4.setTop (mkF m 96 #[.val (.int i0), .val (.int i1), .val (.int i2), .val (.long pl), .second, .val (.long wl), .second, .val (.int (own_rate wl pl)), .unset, .val (.long ((5 : Int64) + ((((i2.toUInt32 >>> ((1 : Int32) &&& 31).toUInt32).toInt32) &&& (7 : Int32)).toInt64))), .second, .val (.long (((((i2.toUInt32 >>> ((4 : Int32) &&& 31).toUInt32).toInt32) &&& (3 : Int32)).toInt64) - (1 : Int64))), .second] [(.long wl), (.int (own_rate wl pl))]))
      refine own_st (fun t k => XS.lloadN X4.here hx rfl (hb hby at_96) rfl k) ?_
      show own_G _ _ _ _ _ _ _ (T4.setTop (mkF m 97 #[.val (.int i0), .val (.int i1), .val (.int i2), .val (.long pl), .second, .val (.long wl), .second, .val (.int (own_rate wl pl)), .unset, .val (.long ((5 : Int64) + ((((i2.toUInt32 >>> ((1 : Int32) &&& 31).toUInt32).toInt32) &&& (7 : Int32)).toInt64))), .second, .val (.long (((((i2.toUInt32 >>> ((4 : Int32) &&& 31).toUInt32).toInt32) &&& (3 : Int32)).toInt64) - (1 : Int64))), .second] [(.long pl), (.long wl), (.int (own_rate wl pl))]))
      obtain ⟨_, _, ⟨T5, L5, k5, n5⟩, -, X5, ⟨Lc5, hQ5, l5, y5, z5⟩, st5⟩ := Jvm.LawKit.callS X4 hx (y := (⟨"com/example/matres/matres/sim/ServiceRatingOfPinLaw", "expected", "(JJ)I"⟩ : MethodName)) hown (mvT hZ (hw _ (List.mem_of_getElem? (i := 7) rfl))) (mvT hZ (hw _ (List.mem_of_getElem? (i := 8) rfl))) (mvT hZ (hw _ (List.mem_of_getElem? (i := 9) rfl))) (mvT hZ (hw _ (List.mem_of_getElem? (i := 10) rfl))) (by decide) (backOf (W := 1) (own_rm2 l Z a0 hw [] wl pl h0 n0 Z0 u0 u1 v0 v1) hZ (hw _ (List.mem_of_getElem? (i := 10) rfl)) (hw _ (List.mem_of_getElem? (i := 9) rfl)) (by decide) (by decide)) (g := (mkF m 97 #[.val (.int i0), .val (.int i1), .val (.int i2), .val (.long pl), .second, .val (.long wl), .second, .val (.int (own_rate wl pl)), .unset, .val (.long ((5 : Int64) + ((((i2.toUInt32 >>> ((1 : Int32) &&& 31).toUInt32).toInt32) &&& (7 : Int32)).toInt64))), .second, .val (.long (((((i2.toUInt32 >>> ((4 : Int32) &&& 31).toUInt32).toInt32) &&& (3 : Int32)).toInt64) - (1 : Int64))), .second] [(.long pl), (.long wl), (.int (own_rate wl pl))])) rfl (by rw [hml]; rfl) (argsL := [(.long wl), (.long pl)]) (rest := [(.int (own_rate wl pl))]) (lenOf own_pd1 rfl) rfl (by show 2 * 0 + _ ≤ _; exact Nat.le_of_eq rfl) (hb hby at_97) (fun _ _ => ⟨rfl, e4, (by decide : 0 + 0 ≤ _), (by decide : 0 + 0 ≤ _)⟩)
      dsimp only [Pt.U, Pt.locs, Pt.cells, Pt.slots] at X5 l5 y5 z5 st5 hQ5
      subst l5 y5 z5
      obtain ⟨rfl, N5q, e5⟩ := hQ5
      have N5 := Fr.app N4 N5q
      refine own_st (fun t k => st5 t k) ?_
      show own_G _ _ _ _ _ _ _ (T5.setTop (mkF m 100 #[.val (.int i0), .val (.int i1), .val (.int i2), .val (.long pl), .second, .val (.long wl), .second, .val (.int (own_rate wl pl)), .unset, .val (.long ((5 : Int64) + ((((i2.toUInt32 >>> ((1 : Int32) &&& 31).toUInt32).toInt32) &&& (7 : Int32)).toInt64))), .second, .val (.long (((((i2.toUInt32 >>> ((4 : Int32) &&& 31).toUInt32).toInt32) &&& (3 : Int32)).toInt64) - (1 : Int64))), .second] [(.int (own_rate wl pl)), (.int (own_rate wl pl))]))
      refine own_st (fun t k => XS.icmpNo X5.here hx rfl (hb hby at_100) rfl (teq rfl).2 k) ?_
      show own_G _ _ _ _ _ _ _ (T5.setTop (mkF m 103 #[.val (.int i0), .val (.int i1), .val (.int i2), .val (.long pl), .second, .val (.long wl), .second, .val (.int (own_rate wl pl)), .unset, .val (.long ((5 : Int64) + ((((i2.toUInt32 >>> ((1 : Int32) &&& 31).toUInt32).toInt32) &&& (7 : Int32)).toInt64))), .second, .val (.long (((((i2.toUInt32 >>> ((4 : Int32) &&& 31).toUInt32).toInt32) &&& (3 : Int32)).toInt64) - (1 : Int64))), .second] []))
      refine own_st (fun t k => XS.iconst X5.here hx rfl (hb hby at_103) k) ?_
      show own_G _ _ _ _ _ _ _ (T5.setTop (mkF m 104 #[.val (.int i0), .val (.int i1), .val (.int i2), .val (.long pl), .second, .val (.long wl), .second, .val (.int (own_rate wl pl)), .unset, .val (.long ((5 : Int64) + ((((i2.toUInt32 >>> ((1 : Int32) &&& 31).toUInt32).toInt32) &&& (7 : Int32)).toInt64))), .second, .val (.long (((((i2.toUInt32 >>> ((4 : Int32) &&& 31).toUInt32).toInt32) &&& (3 : Int32)).toInt64) - (1 : Int64))), .second] [(.int (1 : Int32))]))
      refine own_st (fun t k => XS.goto X5.here hx rfl (pc0 := 104) (pc' := 108) rfl (hb hby at_104) (by decide) (by decide) k) ?_
      show own_G _ _ _ _ _ _ _ (T5.setTop (mkF m 108 #[.val (.int i0), .val (.int i1), .val (.int i2), .val (.long pl), .second, .val (.long wl), .second, .val (.int (own_rate wl pl)), .unset, .val (.long ((5 : Int64) + ((((i2.toUInt32 >>> ((1 : Int32) &&& 31).toUInt32).toInt32) &&& (7 : Int32)).toInt64))), .second, .val (.long (((((i2.toUInt32 >>> ((4 : Int32) &&& 31).toUInt32).toInt32) &&& (3 : Int32)).toInt64) - (1 : Int64))), .second] [(.int (1 : Int32))]))
      exact own_retN (t := .boolean) (by simp) X5 hx Bd.returns (BodyLoose.notSynchronized Bd) (hb hby at_108) (by decide) (by decide) ⟨rfl, N5⟩
    by_cases hm : (lcmpW ww (0 : Int64)) < (0 : Int32)
    · refine own_st (fun t k => XS.ifNo X0.here hx rfl (hb hby at_58) rfl ((if0 _ _).trans (tlt hm).2.1) k) ?_
      show own_G _ _ _ _ _ _ _ (s₁.setTop (mkF m 61 #[.val (.int i0), .val (.int i1), .val (.int i2), .val (.long pl), .second, .val (.long ww), .second, .val (.long xx), .second, .val (.long ((5 : Int64) + ((((i2.toUInt32 >>> ((1 : Int32) &&& 31).toUInt32).toInt32) &&& (7 : Int32)).toInt64))), .second, .val (.long (((((i2.toUInt32 >>> ((4 : Int32) &&& 31).toUInt32).toInt32) &&& (3 : Int32)).toInt64) - (1 : Int64))), .second] []))
      refine own_st (fun t k => XS.lconst X0.here hx rfl (hb hby at_61) k) ?_
      show own_G _ _ _ _ _ _ _ (s₁.setTop (mkF m 62 #[.val (.int i0), .val (.int i1), .val (.int i2), .val (.long pl), .second, .val (.long ww), .second, .val (.long xx), .second, .val (.long ((5 : Int64) + ((((i2.toUInt32 >>> ((1 : Int32) &&& 31).toUInt32).toInt32) &&& (7 : Int32)).toInt64))), .second, .val (.long (((((i2.toUInt32 >>> ((4 : Int32) &&& 31).toUInt32).toInt32) &&& (3 : Int32)).toInt64) - (1 : Int64))), .second] [(.long (0 : Int64))]))
      refine own_st (fun t k => XS.lstore X0.here hx rfl (hb hby at_62) rfl (l' := #[.val (.int i0), .val (.int i1), .val (.int i2), .val (.long pl), .second, .val (.long (0 : Int64)), .second, .val (.long xx), .second, .val (.long ((5 : Int64) + ((((i2.toUInt32 >>> ((1 : Int32) &&& 31).toUInt32).toInt32) &&& (7 : Int32)).toInt64))), .second, .val (.long (((((i2.toUInt32 >>> ((4 : Int32) &&& 31).toUInt32).toInt32) &&& (3 : Int32)).toInt64) - (1 : Int64))), .second]) rfl k) ?_
      show own_G _ _ _ _ _ _ _ (s₁.setTop (mkF m 64 #[.val (.int i0), .val (.int i1), .val (.int i2), .val (.long pl), .second, .val (.long (0 : Int64)), .second, .val (.long xx), .second, .val (.long ((5 : Int64) + ((((i2.toUInt32 >>> ((1 : Int32) &&& 31).toUInt32).toInt32) &&& (7 : Int32)).toInt64))), .second, .val (.long (((((i2.toUInt32 >>> ((4 : Int32) &&& 31).toUInt32).toInt32) &&& (3 : Int32)).toInt64) - (1 : Int64))), .second] []))
      exact J _ (by decide) (by rw [show (0 : Int64).toInt = 0 by decide]; omega)
    · refine own_st (fun t k => XS.ifYes X0.here hx rfl (pc0 := 58) (pc' := 64) rfl (hb hby at_58) rfl ((if0 _ _).trans (flt hm).2.1) (by decide) (by decide) k) ?_
      show own_G _ _ _ _ _ _ _ (s₁.setTop (mkF m 64 #[.val (.int i0), .val (.int i1), .val (.int i2), .val (.long pl), .second, .val (.long ww), .second, .val (.long xx), .second, .val (.long ((5 : Int64) + ((((i2.toUInt32 >>> ((1 : Int32) &&& 31).toUInt32).toInt32) &&& (7 : Int32)).toInt64))), .second, .val (.long (((((i2.toUInt32 >>> ((4 : Int32) &&& 31).toUInt32).toInt32) &&& (3 : Int32)).toInt64) - (1 : Int64))), .second] []))
      exact J _ ((Int.lt_or_le ww.toInt 0).elim (fun r => absurd ((lw_lt _ _).mpr (Int64.lt_iff_toInt_lt.mpr (by rw [show (0 : Int64).toInt = 0 by decide]; exact r))) hm) id) (by omega)
set_option maxRecDepth 65536 in
set_option maxHeartbeats 40000000 in
theorem own_comes {Post : Tables → Env → Array Value → State → Outcome → State → Prop} (hpost : ∀ tb e args s v u, (limb_1_1.after args s (.returned v) u = true ∧ limb_1_2.after args s (.returned v) u = true ∧ True) → FrameEnd s (.returned v) u (Jvm.fieldLocs frame_1_writes args s ++ Jvm.arrayLocs frame_1_arrays args s ++ Jvm.staticLocs frame_1_statics s) 0 0 → Post tb e args s (.returned v) u) :
    ArmFor flags0 classFile x code maxLocals ret World_1 tables_1 room_1 Calls_1 rest_1 Pre_1 Post := by
  intro l hfl _ _ p e ha hc hk s m args below hf hA hF happ hP
  obtain ⟨hcalls, hrest, hpre⟩ := hP
  obtain ⟨-, -, -, hnamed, -, -, -, hat⟩ := (Spec.applies_iff hf).mp happ
  obtain ⟨hg, hn⟩ := and_e (Cond.before_iff.mp (show (Jvm.Cond.and given_1 narrow_1).before args s = true from hpre))
  obtain ⟨gc, ga0⟩ := and_e hg
  obtain ⟨gi0, ga1⟩ := and_e ga0
  obtain ⟨gi1, ga2⟩ := and_e ga1
  obtain ⟨w0, w1, w2, rfl⟩ : ∃ w0 w1 w2 : Value, args = #[w0, w1, w2] := by
    have hs : args.size = 3 := by simpa [Cond.value, given_1] using gc
    obtain ⟨L⟩ := args
    match L, hs with
    | [w0, w1, w2], _ => exact ⟨w0, w1, w2, rfl⟩
  have hw := fun d (hd : d ∈ tables_1) => atoms_spec (ws := Jvm.Cond.code x code maxLocals ret :: tables_1) hat d (List.mem_cons_of_mem _ hd)
  have hfit : Fit s := fun {y c} hc i hi => by
    obtain ⟨ha, rfl⟩ := Array.getElem?_eq_some_iff.mp hc
    have q := List.all_eq_true.mp ((Array.all_eq_true_iff_forall_mem.mp hF) _ (Array.getElem_mem ha)) i (List.mem_range.mpr hi)
    simpa [Array.getElem?_eq_getElem hi] using q
  obtain ⟨i0, ei0⟩ := is_v gi0
  obtain rfl : w0 = (.int i0) := Option.some.inj ei0
  obtain ⟨i1, ei1⟩ := is_v gi1
  obtain rfl : w1 = (.int i1) := Option.some.inj ei1
  obtain ⟨i2, ei2⟩ := is_v ga2
  obtain rfl : w2 = (.int i2) := Option.some.inj ei2
  obtain ⟨nr0, nq0⟩ := and_e hn
  obtain ⟨nr1, nq1⟩ := and_e nq0
  obtain ⟨nr2, nq2⟩ := and_e nq1
  obtain ⟨nr3, nq3⟩ := and_e nq2
  obtain ⟨nr4, nq4⟩ := and_e nq3
  obtain ⟨dA, evd⟩ := arr_v nr0
  have Sx := Sta.start evd (Or.inr ⟨(hw _ (List.mem_of_getElem? (i := 3) rfl)), (hw _ (List.mem_of_getElem? (i := 6) rfl))⟩)
  obtain ⟨cA, Ax⟩ := Arr.start evd nr0
  obtain ⟨qA, lA⟩ := own_len evd Ax nr1
  have x0 := own_el evd Ax (own_eqd (y := (4608083138725491507 : UInt64)) rfl nr2)
  have x1 := own_el evd Ax (own_eqd (y := (4608983858650965606 : UInt64)) rfl nr3)
  have x2 := own_el evd Ax (own_eqd (y := (4609884578576439706 : UInt64)) rfl nr4)
  have x3 := own_el evd Ax (own_eqd (y := (4610785298501913805 : UInt64)) rfl nq4)
  obtain ⟨n, o, h1, h2, h3, _, L, rfl, ⟨rfl, N⟩, hq⟩ := own_rm0 l s _ hw tables_1 i0 i1 i2 dA cA s.heap s.heap.size (Nat.le_refl _) Sx Ax (own_sz qA lA) x0 x1 x2 x3 p e ha hc hk s m _ below hf ((Spec.applies_iff_loose hf).mp happ).1 ⟨rfl, State.Warmed39.refl s, rfl⟩ trivial
  refine ⟨n, _, h1, h2, h3, hpost _ _ _ _ _ _ ⟨Cond.after_iff.mpr rfl, Cond.after_iff.mpr (eq_i res_at (Term.int_eval (1)) rfl), trivial⟩ ⟨hq.1, hq.2.1, (hq.2.2.sift fun y hy => Or.inr (N y hy)).mono (by decide) (by decide)⟩⟩
theorem main_1_1 : Claimed_1_1 := own_comes fun _ _ _ _ _ _ h hF => ⟨h.1, hF⟩
theorem main_1_2 : Claimed_1_2 := own_comes fun _ _ _ _ _ _ h hF => ⟨h.2.1, hF⟩
end Jvm.Pilot.@@N@@
namespace Jvm.Pilot.@@N@@
open Jvm Jvm.ClassFile Sem Op Lib Jvm.Free Jvm.Stand Jvm.Pilot.@@N@@.Jvm.D
/-! MADE BY PROGRAM (witnessworld.py) out of the Statement's table words and the real class files: 11 classes; the members and pool entries that the words name. The judged class is class 1, her method 2. -/
namespace start1
open Jvm.ClassFile
def u (s : String) : CpInfo := .utf8 (stringToUtf16 s)
/-- a pool by its gaps: so many unusable entries, then the entry; so many at the end -/
def gap : Nat → List CpInfo → List CpInfo
  | 0, r => r
  | n + 1, r => .unusable :: gap n r
def poolList (es : List (Nat × CpInfo)) (last : Nat) : List CpInfo := es.foldr (fun e r => gap e.1 (e.2 :: r)) (gap last [])
def pool (es : List (Nat × CpInfo)) (last : Nat) : Array CpInfo := ⟨poolList es last⟩
def fileOf (pool : Array CpInfo) (this : Nat) (attrs : Array Attribute := #[]) (ms : Array MethodInfo := #[]) (fl : Nat := 33) (sup : Nat := 0) (ifs : Array Nat := #[]) (fds : Array FieldInfo := #[]) : ClassFile where
  minorVersion := 0
  majorVersion := 65
  constantPool := pool
  accessFlags := fl
  thisClass := this
  superClass := sup
  interfaces := ifs
  fields := fds
  methods := ms
  attributes := attrs
def plain (name : String) (sup : Option ClassId) : Class where
  name := name
  kind := .ordinary
  loader := none
  accessFlags := 33
  super := sup
  interfaces := #[]
  cf := none
  fields := #[]
  methods := #[]
  instanceTypes := #[]
  staticTypes := #[]
  resolved := #[]
  callSites := []
  init := .initialized
  statics := none
  mirror := none

def pool0 : Array CpInfo := pool [(5, u "<init>"), (0, u "()V"), (1, .class_ 10), (1, u "java/lang/Object")] 113

def k0m0 : Method := { name := "<init>", desc := "()V", sig := { parameters := [], returnType := none }, accessFlags := 1, code := none }
/-- java/lang/Object -/
def k0 : Class := { plain "java/lang/Object" none with
  accessFlags := 33
  interfaces := #[]
  cf := some (fileOf pool0 8 #[] #[{ accessFlags := 1, nameIndex := 5, descriptorIndex := 6, attributes := #[] }] 33 0 #[] #[])
  fields := #[]
  methods := #[k0m0]
  instanceTypes := #[]
  staticTypes := #[]
  resolved := Array.replicate 124 none
  statics := none }

def pool1 : Array CpInfo := pool [(2, .class_ 4), (1, u "java/lang/Object"), (0, u "<init>"), (0, u "()V"), (0, .long 5), (1, .long 9), (1, .long 8), (1, .long 7), (1, .long 6), (1, .long 268435455), (1, .long 2147483647), (1, .methodref 22 23), (0, .class_ 24), (0, .nameAndType 25 26), (0, u "com/example/matres/matres/sim/ServiceRating"), (0, u "of"), (0, u "(DD)I"), (0, .methodref 28 29), (0, .class_ 30), (0, .nameAndType 31 32), (0, u "com/example/matres/matres/sim/ServiceRatingOfPinLaw"), (0, u "expected"), (0, u "(JJ)I"), (3, u "law"), (0, u "(III)Z")] 2

def k1m0 : Method := { name := "<init>", desc := "()V", sig := { parameters := [], returnType := none }, accessFlags := 2, code := none }
def k1c1 : Code := { maxStack := 6, maxLocals := 6, code := method_2_code, exceptionTable := #[], attributes := #[] }
def k1m1 : Method := { name := "expected", desc := "(JJ)I", sig := { parameters := [.long, .long], returnType := some .int }, accessFlags := 10, code := some k1c1 }
def k1c2 : Code := { maxStack := 5, maxLocals := 13, code := code, exceptionTable := #[], attributes := #[] }
def k1m2 : Method := { name := "law", desc := "(III)Z", sig := { parameters := [.int, .int, .int], returnType := some .boolean }, accessFlags := 9, code := some k1c2 }
/-- com/example/matres/matres/sim/ServiceRatingOfPinLaw -/
def k1 : Class := { plain "com/example/matres/matres/sim/ServiceRatingOfPinLaw" (some 0) with
  accessFlags := 49
  interfaces := #[]
  cf := some (fileOf pool1 28 #[] #[{ accessFlags := 2, nameIndex := 5, descriptorIndex := 6, attributes := #[] }, { accessFlags := 10, nameIndex := 31, descriptorIndex := 32, attributes := #[] }, { accessFlags := 9, nameIndex := 36, descriptorIndex := 37, attributes := #[] }] 49 2 #[] #[])
  fields := #[]
  methods := #[k1m0, k1m1, k1m2]
  instanceTypes := #[]
  staticTypes := #[]
  resolved := Array.replicate 40 none
  statics := none }

def pool2 : Array CpInfo := pool [(2, .class_ 4), (1, u "java/lang/Object"), (0, u "<init>"), (0, u "()V"), (0, .class_ 8), (0, u "com/example/matres/matres/sim/ServiceRating"), (0, .fieldref 7 10), (0, .nameAndType 11 12), (0, u "EXCEEDED"), (0, u "[D"), (16, u "BEST"), (0, u "I"), (4, u "of"), (0, u "(DD)I")] 7

def k2m0 : Method := { name := "<init>", desc := "()V", sig := { parameters := [], returnType := none }, accessFlags := 2, code := none }
def k2c1 : Code := { maxStack := 6, maxLocals := 10, code := prog_112_method_2_code, exceptionTable := #[], attributes := #[] }
def k2m1 : Method := { name := "of", desc := "(DD)I", sig := { parameters := [.double, .double], returnType := some .int }, accessFlags := 8, code := some k2c1 }
/-- com/example/matres/matres/sim/ServiceRating -/
def k2 : Class := { plain "com/example/matres/matres/sim/ServiceRating" (some 0) with
  accessFlags := 32
  interfaces := #[]
  cf := some (fileOf pool2 7 #[] #[{ accessFlags := 2, nameIndex := 5, descriptorIndex := 6, attributes := #[] }, { accessFlags := 8, nameIndex := 35, descriptorIndex := 36, attributes := #[] }] 32 2 #[] #[{ accessFlags := 24, nameIndex := 29, descriptorIndex := 30, attributes := #[] }, { accessFlags := 26, nameIndex := 11, descriptorIndex := 12, attributes := #[] }])
  fields := #[{ name := "BEST", type := .int, accessFlags := 24, slot := 0, constantValue := 0 }, { name := "EXCEEDED", type := (.array .double), accessFlags := 26, slot := 1, constantValue := 0 }]
  methods := #[k2m0, k2m1]
  instanceTypes := #[]
  staticTypes := #[.int, (.array .double)]
  resolved := Array.replicate 44 none
  statics := some 0 }

def pool3 : Array CpInfo := pool [(1, u "java/lang/Cloneable"), (0, .class_ 1), (0, u "java/lang/Object"), (0, .class_ 3)] 3

/-- java/lang/Cloneable -/
def k3 : Class := { plain "java/lang/Cloneable" (some 0) with
  accessFlags := 1537
  interfaces := #[]
  cf := some (fileOf pool3 2 #[] #[] 1537 4 #[] #[])
  fields := #[]
  methods := #[]
  instanceTypes := #[]
  staticTypes := #[]
  resolved := Array.replicate 8 none
  statics := none }

def pool4 : Array CpInfo := pool [(1, u "java/io/Serializable"), (0, .class_ 1), (0, u "java/lang/Object"), (0, .class_ 3)] 3

/-- java/io/Serializable -/
def k4 : Class := { plain "java/io/Serializable" (some 0) with
  accessFlags := 1537
  interfaces := #[]
  cf := some (fileOf pool4 2 #[] #[] 1537 4 #[] #[])
  fields := #[]
  methods := #[]
  instanceTypes := #[]
  staticTypes := #[]
  resolved := Array.replicate 8 none
  statics := none }

/-- the primitive byte -/
def k5 : Class := { plain "byte" none with kind := .primitive 'B', accessFlags := 0x411 }
/-- [B -/
def k6 : Class := { plain "[B" (some 0) with kind := .array 5 .byte, interfaces := #[3, 4], accessFlags := 1041 }

/-- the primitive int -/
def k7 : Class := { plain "int" none with kind := .primitive 'I', accessFlags := 0x411 }
/-- [I -/
def k8 : Class := { plain "[I" (some 0) with kind := .array 7 .int, interfaces := #[3, 4], accessFlags := 1041 }

/-- the primitive double -/
def k9 : Class := { plain "double" none with kind := .primitive 'D', accessFlags := 0x411 }
/-- [D -/
def k10 : Class := { plain "[D" (some 0) with kind := .array 9 .double, interfaces := #[3, 4], accessFlags := 1041 }

def heap : Heap := #[{ cls := 2, slots := #[.int 0, .ref 1], vm := .statics 2 },
  { cls := 10, slots := #[.double 4608083138725491507, .double 4608983858650965606, .double 4609884578576439706, .double 4610785298501913805], vm := .none }]
def classes : Array Class := #[k0, k1, k2, k3, k4, k5, k6, k7, k8, k9, k10]
def interned : List (Array UInt16 × Addr) := []
def slotsUsed : Nat := 6
def theMethod : MethodId := ⟨1, 2⟩
def args0 : Array Value := #[.int 5, .int 6, .int 7]
def aboutOver (below : List Frame) : State where
  vm := { classes := classes, interned := interned.toArray }
  heap := heap
  slotsUsed := slotsUsed
  threads := #[{ frames := .invoking theMethod args0 :: below }]
def below0 : List Frame := [.native { method := ⟨0, 0⟩, args := #[] }]
def about1 : State := aboutOver below0
def p0 : Program := .bare "" "" ""
def e0 : Env := launch0.env 0 0 0
theorem w_frames : about1.frames = Frame.invoking theMethod args0 :: below0 := rfl
set_option maxRecDepth 65536 in
theorem w_args : argsFit about1.vm theMethod args0 = true := by decide +kernel
set_option maxRecDepth 65536 in
theorem w_heap : heapFits about1 = true := by decide +kernel
set_option maxRecDepth 65536 in
theorem w_runnable : about1.curStatus? = some .runnable := by decide +kernel
set_option maxRecDepth 65536 in
theorem w_alone : about1.alone = true := by decide +kernel
set_option maxRecDepth 65536 in
theorem w_named : about1.methodNamed? x = some theMethod := by decide +kernel
set_option maxRecDepth 65536 in
theorem w_hears : about1.hears theMethod below0 = true := by decide +kernel
set_option maxRecDepth 65536 in
theorem w_ripe : about1.ripe theMethod args0 below0 = true := by decide +kernel
theorem w_running : about1.status = .running := rfl
set_option maxRecDepth 65536 in
theorem w_room : about1.hasRoom e0.platform room_1 = true :=
  launch0.hasRoom_least _ room_1 (by decide +kernel) (by decide +kernel) (by decide +kernel) (by decide +kernel) (by decide +kernel) (by decide +kernel)
theorem allAtoms_all (ts : List Jvm.Cond) (a : Array Jvm.Value) (st : Jvm.State) : (allAtoms ts).before a st = ts.all (fun c => c.before a st) := by
  induction ts with
  | nil => rfl
  | cons c t ih =>
    show (Jvm.Cond.and c (allAtoms t)).before a st = _
    rw [Jvm.Cond.before_and, ih, List.all_cons]
def words1 : List Jvm.Cond := Jvm.Cond.code x code maxLocals ret :: tables_1
/-- a 'code' word, met by the world's own term for the bytes: nothing is compared byte by byte -/
theorem code_word {y : MethodName} {bytes : ByteArray} {mx : Nat} {rt : Option FieldType} {a : Array Value} {s : State} {m : MethodId} {meth : Method} {c : Code} (h1 : s.methodNamed? y = some m) (h2 : s.vm.method? m = some meth) (h3 : meth.code = some c) (h4 : c.code = bytes)
    (h5 : (c.maxLocals == mx && c.exceptionTable.isEmpty && decide (c.maxStack ≤ mostOperands) && decide (meth.sig.returnType = rt) && !meth.locks && decide (parseMethodDescriptor y.desc = some meth.sig)) = true) : (Jvm.Cond.code y bytes mx rt).before a s = true := by
  simp only [Bool.and_eq_true, beq_iff_eq, Bool.not_eq_true', decide_eq_true_eq] at h5
  obtain ⟨⟨⟨⟨⟨g1, g2⟩, g3⟩, g4⟩, g5⟩, g6⟩ := h5
  simp [Cond.before, Cond.holds, Cond.value, h1, h2, h3, h4, g1, g2, g3, g4, g5, g6]
def isCode : Jvm.Cond → Bool
  | .code _ _ _ _ => true
  | _ => false
theorem all_split {L : List Jvm.Cond} {P : Jvm.Cond → Bool} (h1 : L.all (fun c => isCode c || P c) = true) (h2 : ∀ c ∈ L.filter isCode, P c = true) : L.all P = true := by
  refine List.all_eq_true.mpr fun c hc => ?_
  have h := List.all_eq_true.mp h1 c hc
  rcases Bool.eq_false_or_eq_true (isCode c) with hi | hi
  · exact h2 c (List.mem_filter.mpr ⟨hc, hi⟩)
  · simpa [hi] using h
set_option maxRecDepth 65536 in
theorem w_c0 : (Jvm.Cond.code x code maxLocals ret).before args0 about1 = true := code_word (m := ⟨1, 2⟩) (meth := k1m2) (c := k1c2) (by decide +kernel) rfl rfl rfl (by decide +kernel)
set_option maxRecDepth 65536 in
theorem w_c1 : (Jvm.Cond.code ({ cls := "com/example/matres/matres/sim/ServiceRating", name := "of", desc := "(DD)I" } : Jvm.MethodName) prog_112_method_2_code (10 : Nat) (Option.some Jvm.ClassFile.FieldType.int)).before args0 about1 = true := code_word (m := ⟨2, 1⟩) (meth := k2m1) (c := k2c1) (by decide +kernel) rfl rfl rfl (by decide +kernel)
set_option maxRecDepth 65536 in
theorem w_c2 : (Jvm.Cond.code ({ cls := "com/example/matres/matres/sim/ServiceRatingOfPinLaw", name := "expected", desc := "(JJ)I" } : Jvm.MethodName) method_2_code (6 : Nat) (Option.some Jvm.ClassFile.FieldType.int)).before args0 about1 = true := code_word (m := ⟨1, 1⟩) (meth := k1m1) (c := k1c1) (by decide +kernel) rfl rfl rfl (by decide +kernel)
def codes1 : List Jvm.Cond := [Jvm.Cond.code x code maxLocals ret, Jvm.Cond.code ({ cls := "com/example/matres/matres/sim/ServiceRating", name := "of", desc := "(DD)I" } : Jvm.MethodName) prog_112_method_2_code (10 : Nat) (Option.some Jvm.ClassFile.FieldType.int), Jvm.Cond.code ({ cls := "com/example/matres/matres/sim/ServiceRatingOfPinLaw", name := "expected", desc := "(JJ)I" } : Jvm.MethodName) method_2_code (6 : Nat) (Option.some Jvm.ClassFile.FieldType.int)]
set_option maxRecDepth 65536 in
theorem codes_eq : words1.filter isCode = codes1 := rfl
theorem w_codes : ∀ c ∈ words1.filter isCode, c.before args0 about1 = true := by
  rw [codes_eq]
  intro c hc
  simp only [codes1, List.mem_cons, List.not_mem_nil, or_false] at hc
  rcases hc with rfl | rfl | rfl
  · exact w_c0
  · exact w_c1
  · exact w_c2
set_option maxRecDepth 65536 in
theorem w_t1 : words1.all (fun c => isCode c || c.before args0 about1) = true := by decide +kernel
theorem w_tables : (allAtoms (Jvm.Cond.code x code maxLocals ret :: tables_1)).before args0 about1 = true := by
  rw [allAtoms_all]
  show words1.all (fun c => c.before args0 about1) = true
  refine all_split ?_ w_codes
  rw [w_t1]
set_option maxRecDepth 65536 in
theorem w_case : (Jvm.Cond.and given_1 narrow_1).before args0 about1 = true := by decide +kernel
theorem w_applies : (headSpec (Jvm.Cond.code x code maxLocals ret :: tables_1) room_1).applies x e0.platform about1 = true :=
  (Spec.applies_iff w_frames).mpr ⟨w_running, w_runnable, w_alone, w_named, w_hears, w_ripe, w_room, w_tables⟩
theorem atStart : AtStart classFile x code maxLocals ret World_1 tables_1 room_1 Calls_1 rest_1 Pre_1 launch0 p0 e0 about1 theMethod args0 below0 :=
  ⟨lists_1, trivial, launch0.admits_env _ _ _, launch0.least_env, fairChoices_fair.cas, fairChoices_fair.clock, w_frames, w_args, w_heap, w_applies, trivial, trivial, w_case⟩
end start1
theorem witness_1 : WitnessClaimed_1 := ⟨start1.p0, start1.e0, start1.about1, start1.theMethod, start1.args0, start1.below0, start1.atStart⟩
end Jvm.Pilot.@@N@@
