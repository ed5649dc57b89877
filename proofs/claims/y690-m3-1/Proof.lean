import JvmDerived
import JvmDerived.Pilot.@@N@@Statement
import JvmDerived.Pilot.@@N@@Code
set_option linter.unusedVariables false
set_option linter.unusedSimpArgs false
@@BLOCK:NumsL.lean.txt@@
namespace Jvm.Pilot.@@N@@
open Jvm Jvm.ClassFile Sem Op Lib Jvm.Free Jvm.Stand Jvm.LawKit Jvm.RoadKit Bundle Jvm.Pilot.@@N@@.Jvm.D
/-! the goal that a walk carries along: from this state the run comes to the method's end, and Q holds there -/
def own_G (tb : Tables) (e : Env) (below : List Frame) (s : State) (Q : Option Value → Heap → List Loc → Prop) (kc ks : Nat) (st : State) : Prop :=
  ∃ u o, Steps tb e below st u ∧ u.status = .running ∧ Ended u below o ∧ ∃ v L, o = .returned v ∧ Q v u.heap L ∧ FrameEnd s o u L kc ks
theorem own_in {tb : Tables} {e : Env} {below : List Frame} {s : State} {Q : Option Value → Heap → List Loc → Prop} {kc ks : Nat} {st : State} (h : own_G tb e below s Q kc ks st) :
    ∃ u o, Steps tb e below st u ∧ u.status = .running ∧ Ended u below o ∧ ∃ v L, o = .returned v ∧ Q v u.heap L ∧ FrameEnd s o u L kc ks := h
theorem own_st {tb : Tables} {e : Env} {below : List Frame} {s : State} {Q : Option Value → Heap → List Loc → Prop} {kc ks : Nat} {a b : State} (k : ∀ t, Steps tb e below b t → Steps tb e below a t) (h : own_G tb e below s Q kc ks b) : own_G tb e below s Q kc ks a := by
  obtain ⟨u, o, h1, h2⟩ := h; exact ⟨u, o, k u h1, h2⟩
section OwnRet
variable {p : Program} {l : Launch} {e : Env} {R : Room} {s : State} {m : MethodId} {args : Array Value} {below : List Frame} {meth : Method} {c : Code} {T : State} {locs : List Loc} {cells slots : Nat} {Q : Option Value → Heap → List Loc → Prop} {kc ks : Nat} {pc : Nat} {Ls : Array Slot} {rest : List Value}
theorem own_ret (X : Stand p l e R s m args below meth c T locs cells slots) {v : Option Value} (hv : meth.sig.returnType = none → v = none) (hlk : meth.locks = false) (hc : cells ≤ kc) (hs : slots ≤ ks) (hQ : Q v T.heap locs) {st : State}
    (step : ∀ fs, (∀ (f : JFrame) (acts : List Action), f.method = m → f.locked = none → f.entered = [] → (doReturn e (T.setTop f) acts v).1 = T.setFrames fs) → Steps p.tables e below st (T.setFrames fs)) : own_G p.tables e below s Q kc ks st := by
  obtain ⟨fs, hr, hrun, hended, hW, hsame⟩ := X.leave (v := v) hv hlk
  exact ⟨_, _, step fs hr, hrun, hended, _, _, rfl, hQ, ⟨_, rfl⟩, hW, hsame.mono hc hs⟩
theorem own_retV (X : Stand p l e R s m args below meth c T locs cells slots) (hx : p.tables.exec = Jvm.exec) (hret : meth.sig.returnType = none) (hlk : meth.locks = false) (hd : decode c.code pc = .ok (.return_, 1)) (hc : cells ≤ kc) (hs : slots ≤ ks) (hQ : Q none T.heap locs) : own_G p.tables e below s Q kc ks (T.setTop (mkF m pc Ls [])) :=
  own_ret X (v := none) (fun _ => rfl) hlk hc hs hQ fun _ hr => X.returnOut hx hret hd hr
theorem own_retI {z : Int32} (X : Stand p l e R s m args below meth c T locs cells slots) (hx : p.tables.exec = Jvm.exec) (hret : meth.sig.returnType = some .int) (hlk : meth.locks = false) (hd : decode c.code pc = .ok (.ireturn, 1)) (hc : cells ≤ kc) (hs : slots ≤ ks) (hQ : Q (some (.int z)) T.heap locs) : own_G p.tables e below s Q kc ks (T.setTop (mkF m pc Ls (.int z :: rest))) :=
  own_ret X (v := some (.int z)) (fun h => by rw [hret] at h; cases h) hlk hc hs hQ fun _ hr => retOut X hx hret rfl (Or.inl ⟨rfl, Or.inl rfl, z, rfl⟩) hd hr
theorem own_retJ {z : Int64} (X : Stand p l e R s m args below meth c T locs cells slots) (hx : p.tables.exec = Jvm.exec) (hret : meth.sig.returnType = some .long) (hlk : meth.locks = false) (hd : decode c.code pc = .ok (.lreturn, 1)) (hc : cells ≤ kc) (hs : slots ≤ ks) (hQ : Q (some (.long z)) T.heap locs) : own_G p.tables e below s Q kc ks (T.setTop (mkF m pc Ls (.long z :: rest))) :=
  own_ret X (v := some (.long z)) (fun h => by rw [hret] at h; cases h) hlk hc hs hQ fun _ hr => retOut X hx hret rfl (Or.inr (Or.inl ⟨rfl, rfl, z, rfl⟩)) hd hr
theorem own_retA {ft : FieldType} {w : Value} (ht : ft.isReference = true) (hw : w.isRef = true) (X : Stand p l e R s m args below meth c T locs cells slots) (hx : p.tables.exec = Jvm.exec) (hret : meth.sig.returnType = some ft) (hlk : meth.locks = false) (hd : decode c.code pc = .ok (.areturn, 1)) (hc : cells ≤ kc) (hs : slots ≤ ks) (hQ : Q (some w) T.heap locs) : own_G p.tables e below s Q kc ks (T.setTop (mkF m pc Ls (w :: rest))) :=
  own_ret X (v := some w) (fun h => by rw [hret] at h; cases h) hlk hc hs hQ fun _ hr => retOut X hx hret (by cases ft <;> first | (cases ht; done) | (cases w <;> first | rfl | cases hw)) (Or.inr (Or.inr (Or.inr (Or.inr ⟨rfl, ht, hw⟩)))) hd hr
theorem own_retN {t : FieldType} {z : Int32} (ht : t = .boolean ∨ t = .byte ∨ t = .char ∨ t = .short) (X : Stand p l e R s m args below meth c T locs cells slots) (hx : p.tables.exec = Jvm.exec) (hret : meth.sig.returnType = some t) (hlk : meth.locks = false) (hd : decode c.code pc = .ok (.ireturn, 1)) (hc : cells ≤ kc) (hs : slots ≤ ks) (hQ : Q (some (.int (nar t z))) T.heap locs) : own_G p.tables e below s Q kc ks (T.setTop (mkF m pc Ls (.int z :: rest))) :=
  own_ret X (v := some (.int (nar t z))) (fun h => by rw [hret] at h; cases h) hlk hc hs hQ fun _ hr => retN X hx hret ht hd hr
end OwnRet
def own_b (P : Prop) [Decidable P] : Int32 := if P then 1 else 0
theorem own_bT {P : Prop} [Decidable P] (h : P) : some (Value.int (nar .boolean (1 : Int32))) = some (Value.int (own_b P)) := by rw [own_b, if_pos h]; rfl
theorem own_bF {P : Prop} [Decidable P] (h : ¬ P) : some (Value.int (nar .boolean (0 : Int32))) = some (Value.int (own_b P)) := by rw [own_b, if_neg h]; rfl
theorem own_bEq {P P' : Prop} [Decidable P] [Decidable P'] (h : P ↔ P') : own_b P = own_b P' := by simp only [own_b, h]
/-- a body that writes nothing: what it returns, the heap as it was -/
def own_Qp (r : Option Value) (h0 : Heap) (n0 : Nat) (v : Option Value) (h : Heap) (L : List Loc) : Prop := v = r ∧ Fr n0 L ∧ h = h0
/-- the law's own end: it returns 1, nothing old is written -/
def own_Q0 (n0 : Nat) (v : Option Value) (h : Heap) (L : List Loc) : Prop := v = some (.int 1) ∧ Fr n0 L
theorem own_ord {s : State} {args : Array Value} {t : Term} {a : Addr} {C n d : String} {k : Int32} (ev : t.eval args s none [] s = some (.ref a)) (h : (Jvm.Cond.eq (Term.field t C n d) (Term.int k)).value args s none s [] = some true) : Fld s s.heap a C n d (.int k) := by
  obtain ⟨x, y, e1, e2, -, k2⟩ := cmp_v (Or.inl h)
  obtain rfl : Value.int k = y := Option.some.inj e2
  obtain ⟨z, rfl⟩ := k2
  have q : z = k := by simpa [Jvm.Cond.value, e1, e2] using h
  subst q
  exact Fld.start ((fld_at ev).symm.trans e1)
theorem own_len {s : State} {args : Array Value} {t : Term} {a : Addr} {c : Cell} {ty : FieldType} {n : Int32} (ev : t.eval args s none [] s = some (.ref a)) (A : Arr s s.heap a c ty) (h : (Jvm.Cond.eq (Term.length t) (Term.int n)).value args s none s [] = some true) : c.slots.size < 2 ^ 31 ∧ c.slots.size.toInt32 = n := by
  have q := eqv_i (Term.int_eval n) h
  have f := A.fin (Vm.Alike.refl _)
  have z : c.slots.size < 2147483648 ∧ c.slots.size.toInt32 = n := by simpa [Term.eval, ev, f] using q
  exact z
theorem own_eqr {s : State} {args : Array Value} {X F : Term} {y : Addr} (hF : F.eval args s none [] s = some (.ref y)) (h : (Jvm.Cond.eq X F).value args s none s [] = some true) : X.eval args s none [] s = some (.ref y) := by
  obtain ⟨x, y', e1, e2, k1, k2⟩ := cmp_v (Or.inl h)
  cases hF.symm.trans e2
  have hx : x.isRef = true := k2.2
  have q := gotT (eq_R e1 hF hx rfl) h
  rw [q] at e1; exact e1
theorem own_el {s : State} {args : Array Value} {t : Term} {a : Addr} {c : Cell} {ty : FieldType} {j : Int32} {v : Value} (ev : t.eval args s none [] s = some (.ref a)) (A : Arr s s.heap a c ty) (h : (Term.elem t (Term.int j)).eval args s none [] s = some v) : c.slots[j.toNatClampNeg]? = some v := (elem_in h ev (Term.int_eval j) A.1).2
theorem own_nea {Z : State} {h : Heap} {a b : Addr} {C : String} {a0 : Array Value} {k : Nat} {kc : ClassId} {ty : FieldType} {z : Int32} {vs : List Value} {d : Value} (F : Exa Z h a C) (wi : (Jvm.Cond.instantiable C k).before a0 Z = true) (V : Arv Z h b kc ty z vs d) : a ≠ b := by
  obtain ⟨c, A, -⟩ := V; exact ne_arr F wi A
def own_lb (M : Int64) (p q : Int32) : Int64 := if q = 0 then 76 * p.toInt64 + (32 + 16 * p.toInt64) * q.toInt64 else if 0 < lcmpW (32 + 16 * p.toInt64) ((M - 76 * p.toInt64) / q.toInt64) then M else 76 * p.toInt64 + (32 + 16 * p.toInt64) * q.toInt64
theorem own_sh (a s : Int32) : 0 ≤ (((a &&& 2147483647).toUInt32 >>> (s &&& 31).toUInt32).toInt32).toInt := by
  have h : (((a &&& 2147483647).toUInt32 >>> (s &&& 31).toUInt32).toInt32).toBitVec.toNat < 2 ^ 31 := by
    show ((a &&& 2147483647).toUInt32 >>> (s &&& 31).toUInt32).toNat < 2 ^ 31
    rw [UInt32.toNat_shiftRight, Nat.shiftRight_eq_div_pow]
    refine Nat.lt_of_le_of_lt (Nat.div_le_self _ _) ?_
    show (a.toBitVec &&& (2147483647 : Int32).toBitVec).toNat < 2 ^ 31
    rw [BitVec.toNat_and]
    exact Nat.lt_of_le_of_lt Nat.and_le_right (by decide)
  show 0 ≤ (((a &&& 2147483647).toUInt32 >>> (s &&& 31).toUInt32).toInt32).toBitVec.toInt
  rw [BitVec.toInt_eq_toNat_of_lt (by omega)]
  omega
theorem own_plain (M : Int64) (eM : M.toInt = 9223372036854775807) (p q : Int32) (hp : 0 ≤ p.toInt) (hq : 0 ≤ q.toInt) :
    (0 < lcmpW (p.toInt64 * q.toInt64) ((M - (76 * p.toInt64 + 32 * q.toInt64)) / 16) → M = own_lb M p q) ∧
    (¬ 0 < lcmpW (p.toInt64 * q.toInt64) ((M - (76 * p.toInt64 + 32 * q.toInt64)) / 16) → (76 * p.toInt64 + 32 * q.toInt64) + 16 * (p.toInt64 * q.toInt64) = own_lb M p q) := by
  have hp2 := p.toInt_lt
  have hq2 := q.toInt_lt
  have eq0 : q = 0 ↔ q.toInt = 0 := by rw [← Int32.toInt_inj]; rfl
  have e16 : (16 : Int64).toInt = 16 := by decide
  have e32 : (32 : Int64).toInt = 32 := by decide
  have e76 : (76 : Int64).toInt = 76 := by decide
  have ep := Jvm.Kit.i64_of_i32 p
  have eq := Jvm.Kit.i64_of_i32 q
  simp only [own_lb, lw_gt, eq0]
  generalize p.toInt64 = p6 at *
  generalize q.toInt64 = q6 at *
  generalize p.toInt = P at *
  generalize q.toInt = Q at *
  generalize (16 : Int64) = c16 at *
  generalize (32 : Int64) = c32 at *
  generalize (76 : Int64) = c76 at *
  have g0 : 0 ≤ P * Q := Int.mul_nonneg hp hq
  have g1 : P * Q ≤ 2147483647 * 2147483647 := Int.mul_le_mul (by omega) (by omega) hq (by omega)
  have k : (32 + 16 * P) * Q = 32 * Q + 16 * (P * Q) := by rw [Int.add_mul, Int.mul_assoc]
  have m1 : (p6 * q6).toInt = P * Q := by rw [Jvm.Kit.i64_mul, ep, eq] <;> rw [ep, eq] <;> omega
  have m2 : (c76 * p6).toInt = 76 * P := by rw [Jvm.Kit.i64_mul, e76, ep] <;> rw [e76, ep] <;> omega
  have m3 : (c32 * q6).toInt = 32 * Q := by rw [Jvm.Kit.i64_mul, e32, eq] <;> rw [e32, eq] <;> omega
  have m4 : (c76 * p6 + c32 * q6).toInt = 76 * P + 32 * Q := by rw [Jvm.Kit.i64_add, m2, m3] <;> rw [m2, m3] <;> omega
  have m5 : (M - (c76 * p6 + c32 * q6)).toInt = 9223372036854775807 - (76 * P + 32 * Q) := by rw [Jvm.Kit.i64_sub, eM, m4] <;> rw [eM, m4] <;> omega
  have m6 : ((M - (c76 * p6 + c32 * q6)) / c16).toInt = (9223372036854775807 - (76 * P + 32 * Q)) / 16 := by
    rw [Jvm.Kit.i64_div (by omega), m5, e16, Int.tdiv_eq_ediv_of_nonneg (by omega)]
  have m7 : (c16 * p6).toInt = 16 * P := by rw [Jvm.Kit.i64_mul, e16, ep] <;> rw [e16, ep] <;> omega
  have m8 : (c32 + c16 * p6).toInt = 32 + 16 * P := by rw [Jvm.Kit.i64_add, e32, m7] <;> rw [e32, m7] <;> omega
  have m9 : (M - c76 * p6).toInt = 9223372036854775807 - 76 * P := by rw [Jvm.Kit.i64_sub, eM, m2] <;> rw [eM, m2] <;> omega
  have m10 : ((M - c76 * p6) / q6).toInt = (9223372036854775807 - 76 * P) / Q := by
    rw [Jvm.Kit.i64_div (by omega), m9, eq, Int.tdiv_eq_ediv_of_nonneg (by omega)]
  have A : P * Q ≤ (9223372036854775807 - (76 * P + 32 * Q)) / 16 → (c76 * p6 + c32 * q6) + c16 * (p6 * q6) = c76 * p6 + (c32 + c16 * p6) * q6 := by
    intro h
    have b1 : (c16 * (p6 * q6)).toInt = 16 * (P * Q) := by rw [Jvm.Kit.i64_mul, e16, m1] <;> rw [e16, m1] <;> omega
    have b2 : ((c32 + c16 * p6) * q6).toInt = 32 * Q + 16 * (P * Q) := by rw [Jvm.Kit.i64_mul, m8, eq, k] <;> rw [m8, eq, k] <;> omega
    have b3 : ((c76 * p6 + c32 * q6) + c16 * (p6 * q6)).toInt = 76 * P + 32 * Q + 16 * (P * Q) := by rw [Jvm.Kit.i64_add (x := c76 * p6 + c32 * q6), m4, b1] <;> rw [m4, b1] <;> omega
    have b4 : (c76 * p6 + (c32 + c16 * p6) * q6).toInt = 76 * P + (32 * Q + 16 * (P * Q)) := by rw [Jvm.Kit.i64_add (x := c76 * p6), m2, b2] <;> rw [m2, b2] <;> omega
    rw [← Int64.toInt_inj, b3, b4]; omega
  simp only [Int64.lt_iff_toInt_lt, m1, m6, m8, m10]
  by_cases z : Q = 0
  · subst z
    simp only [if_true]
    constructor
    · intro h; rw [Int.mul_zero] at h; omega
    · intro h; exact A (by omega)
  · simp only [z, if_false]
    have zz : (9223372036854775807 - 76 * P) / Q < 32 + 16 * P ↔ (9223372036854775807 - (76 * P + 32 * Q)) / 16 < P * Q := by
      rw [Int.ediv_lt_iff_lt_mul (by omega), k]; omega
    simp only [zz]
    constructor
    · intro h; rw [if_pos h]
    · intro h; rw [if_neg h]; exact A (by omega)
theorem own_nz {q : Int32} (h : ¬ q = 0) : q.toInt64 ≠ 0 := fun z => h (by have := congrArg Int64.toInt z; rw [Int32.toInt_toInt64] at this; exact Int32.toInt_inj.mp this)
theorem own_pn0 : plainName "com/example/matres/matres/core/CredibilityFilterModel" = true := by first | (simp [plainName, overriddenIn]; done) | decide +kernel
theorem own_d1_0 : decode prog_44_method_3_code 0 = .ok (.ldc2_w 94, 3) := by decide +kernel
theorem own_d1_3 : decode prog_44_method_3_code 3 = .ok (.iload_n 0, 1) := by decide +kernel
theorem own_d1_4 : decode prog_44_method_3_code 4 = .ok (.i2l, 1) := by decide +kernel
theorem own_d1_5 : decode prog_44_method_3_code 5 = .ok (.lmul, 1) := by decide +kernel
theorem own_d1_6 : decode prog_44_method_3_code 6 = .ok (.lstore_n 2, 1) := by decide +kernel
theorem own_d1_7 : decode prog_44_method_3_code 7 = .ok (.ldc2_w 96, 3) := by decide +kernel
theorem own_d1_10 : decode prog_44_method_3_code 10 = .ok (.ldc2_w 98, 3) := by decide +kernel
theorem own_d1_13 : decode prog_44_method_3_code 13 = .ok (.iload_n 0, 1) := by decide +kernel
theorem own_d1_14 : decode prog_44_method_3_code 14 = .ok (.i2l, 1) := by decide +kernel
theorem own_d1_15 : decode prog_44_method_3_code 15 = .ok (.lmul, 1) := by decide +kernel
theorem own_d1_16 : decode prog_44_method_3_code 16 = .ok (.ladd, 1) := by decide +kernel
theorem own_d1_17 : decode prog_44_method_3_code 17 = .ok (.lstore 4, 2) := by decide +kernel
theorem own_d1_19 : decode prog_44_method_3_code 19 = .ok (.ldc2_w 102, 3) := by decide +kernel
theorem own_d1_22 : decode prog_44_method_3_code 22 = .ok (.lstore 6, 2) := by decide +kernel
theorem own_d1_24 : decode prog_44_method_3_code 24 = .ok (.iload_n 1, 1) := by decide +kernel
theorem own_d1_25 : decode prog_44_method_3_code 25 = .ok (.ifCond .eq 17, 3) := by decide +kernel
theorem own_d1_28 : decode prog_44_method_3_code 28 = .ok (.lload 4, 2) := by decide +kernel
theorem own_d1_30 : decode prog_44_method_3_code 30 = .ok (.ldc2_w 102, 3) := by decide +kernel
theorem own_d1_33 : decode prog_44_method_3_code 33 = .ok (.lload_n 2, 1) := by decide +kernel
theorem own_d1_34 : decode prog_44_method_3_code 34 = .ok (.lsub, 1) := by decide +kernel
theorem own_d1_35 : decode prog_44_method_3_code 35 = .ok (.iload_n 1, 1) := by decide +kernel
theorem own_d1_36 : decode prog_44_method_3_code 36 = .ok (.i2l, 1) := by decide +kernel
theorem own_d1_37 : decode prog_44_method_3_code 37 = .ok (.ldiv, 1) := by decide +kernel
theorem own_d1_38 : decode prog_44_method_3_code 38 = .ok (.lcmp, 1) := by decide +kernel
theorem own_d1_39 : decode prog_44_method_3_code 39 = .ok (.ifCond .gt 12, 3) := by decide +kernel
theorem own_d1_42 : decode prog_44_method_3_code 42 = .ok (.lload_n 2, 1) := by decide +kernel
theorem own_d1_43 : decode prog_44_method_3_code 43 = .ok (.lload 4, 2) := by decide +kernel
theorem own_d1_45 : decode prog_44_method_3_code 45 = .ok (.iload_n 1, 1) := by decide +kernel
theorem own_d1_46 : decode prog_44_method_3_code 46 = .ok (.i2l, 1) := by decide +kernel
theorem own_d1_47 : decode prog_44_method_3_code 47 = .ok (.lmul, 1) := by decide +kernel
theorem own_d1_48 : decode prog_44_method_3_code 48 = .ok (.ladd, 1) := by decide +kernel
theorem own_d1_49 : decode prog_44_method_3_code 49 = .ok (.lstore 6, 2) := by decide +kernel
theorem own_d1_51 : decode prog_44_method_3_code 51 = .ok (.lload 6, 2) := by decide +kernel
theorem own_d1_53 : decode prog_44_method_3_code 53 = .ok (.lreturn, 1) := by decide +kernel
theorem own_ef1 (m : MethodId) (p1 : Int32) (p2 : Int32) : entryFrame m #[(.int p1), (.int p2)] 8 = mkF m 0 #[.val (.int p1), .val (.int p2), .unset, .unset, .unset, .unset, .unset, .unset] [] := by first | (simp [entryFrame, mkF, argsToLocals, Value.category]; done) | rfl
set_option maxRecDepth 65536 in
set_option maxHeartbeats 40000000 in
theorem own_rm1 (l : Launch) (Z : State) (a0 : Array Value) (hw : ∀ d ∈ tables_1, d.before a0 Z = true) (ws : List Jvm.Cond) (p1 p2 : Int32) (h0 : Heap) (n0 : Nat) (Z0 : n0 ≤ h0.size)  :
    MetFree l (⟨"com/example/matres/matres/core/CredibilityFilterModel", "leastBytes", "(II)J"⟩ : MethodName) (head1 (Jvm.Cond.code (⟨"com/example/matres/matres/core/CredibilityFilterModel", "leastBytes", "(II)J"⟩ : MethodName) prog_44_method_3_code 8 (some .long) :: ws) ({ frames := 0, cells := 0, slots := 0, locals := 0 } : Room)) (fun a U => a = #[(.int p1), (.int p2)] ∧ Z.Warmed39 U.vm ∧ U.heap = h0) (fun _ _ _ _ _ => True) (fun _ U o U' => ∃ v L, o = .returned v ∧ own_Qp (some (.long (own_lb 9223372036854775807 p1 p2))) h0 n0 v U'.heap L ∧ FrameEnd U o U' L ({ frames := 0, cells := 0, slots := 0, locals := 0 } : Room).cells ({ frames := 0, cells := 0, slots := 0, locals := 0 } : Room).slots) := by
  refine MetFree.of_bodySF (plainFor_of_name own_pn0) hisR ?_
  intro p e s m args below meth c s₁ Bd hml0 hP hK
  obtain ⟨rfl, hZ, hh⟩ := hP
  have hx := Bd.exec
  have hby := Bd.bytes
  have hml : c.maxLocals = 8 := hml0
  have hown : s.vm.findClass "com/example/matres/matres/core/CredibilityFilterModel" = some m.cls := findClass_of_methodNamed Bd.named
  have hnm := (name_of_methodNamed Bd.named Bd.method).1
  have X0 : Stand p l e ({ frames := 0, cells := 0, slots := 0, locals := 0 } : Room) s m #[(.int p1), (.int p2)] below meth c s₁ [] 0 0 := Stand.of_body Bd
  have e0 : s₁.heap = h0 := by rw [← hh, Bd.state]; rfl
  have N0 := Fr.nil n0
  refine own_in (Q := own_Qp (some (.long (own_lb 9223372036854775807 p1 p2))) h0 n0) ?_
  rw [own_ef1]
  show own_G _ _ _ _ _ _ _ (s₁.setTop (mkF m 0 #[.val (.int p1), .val (.int p2), .unset, .unset, .unset, .unset, .unset, .unset] []))
  refine own_st (fun t k => X0.ldc2Long hx hown (mvT hZ (hw _ (List.mem_of_getElem? (i := 9) rfl))) (g := (mkF m 0 #[.val (.int p1), .val (.int p2), .unset, .unset, .unset, .unset, .unset, .unset] [])) rfl (hb hby own_d1_0) t k) ?_
  show own_G _ _ _ _ _ _ _ (s₁.setTop (mkF m 3 #[.val (.int p1), .val (.int p2), .unset, .unset, .unset, .unset, .unset, .unset] [(.long (76 : Int64))]))
  refine own_st (fun t k => XS.iloadN X0.here hx rfl (hb hby own_d1_3) rfl k) ?_
  show own_G _ _ _ _ _ _ _ (s₁.setTop (mkF m 4 #[.val (.int p1), .val (.int p2), .unset, .unset, .unset, .unset, .unset, .unset] [(.int p1), (.long (76 : Int64))]))
  refine own_st (fun t k => XS.i2l X0.here hx rfl (hb hby own_d1_4) rfl k) ?_
  show own_G _ _ _ _ _ _ _ (s₁.setTop (mkF m 5 #[.val (.int p1), .val (.int p2), .unset, .unset, .unset, .unset, .unset, .unset] [(.long (p1.toInt64)), (.long (76 : Int64))]))
  refine own_st (fun t k => XS.lmul X0.here hx rfl (hb hby own_d1_5) rfl k) ?_
  show own_G _ _ _ _ _ _ _ (s₁.setTop (mkF m 6 #[.val (.int p1), .val (.int p2), .unset, .unset, .unset, .unset, .unset, .unset] [(.long ((76 : Int64) * (p1.toInt64)))]))
  refine own_st (fun t k => XS.lstoreN X0.here hx rfl (hb hby own_d1_6) rfl (l' := #[.val (.int p1), .val (.int p2), .val (.long ((76 : Int64) * (p1.toInt64))), .second, .unset, .unset, .unset, .unset]) rfl k) ?_
  show own_G _ _ _ _ _ _ _ (s₁.setTop (mkF m 7 #[.val (.int p1), .val (.int p2), .val (.long ((76 : Int64) * (p1.toInt64))), .second, .unset, .unset, .unset, .unset] []))
  refine own_st (fun t k => X0.ldc2Long hx hown (mvT hZ (hw _ (List.mem_of_getElem? (i := 10) rfl))) (g := (mkF m 7 #[.val (.int p1), .val (.int p2), .val (.long ((76 : Int64) * (p1.toInt64))), .second, .unset, .unset, .unset, .unset] [])) rfl (hb hby own_d1_7) t k) ?_
  show own_G _ _ _ _ _ _ _ (s₁.setTop (mkF m 10 #[.val (.int p1), .val (.int p2), .val (.long ((76 : Int64) * (p1.toInt64))), .second, .unset, .unset, .unset, .unset] [(.long (32 : Int64))]))
  refine own_st (fun t k => X0.ldc2Long hx hown (mvT hZ (hw _ (List.mem_of_getElem? (i := 11) rfl))) (g := (mkF m 10 #[.val (.int p1), .val (.int p2), .val (.long ((76 : Int64) * (p1.toInt64))), .second, .unset, .unset, .unset, .unset] [(.long (32 : Int64))])) rfl (hb hby own_d1_10) t k) ?_
  show own_G _ _ _ _ _ _ _ (s₁.setTop (mkF m 13 #[.val (.int p1), .val (.int p2), .val (.long ((76 : Int64) * (p1.toInt64))), .second, .unset, .unset, .unset, .unset] [(.long (16 : Int64)), (.long (32 : Int64))]))
  refine own_st (fun t k => XS.iloadN X0.here hx rfl (hb hby own_d1_13) rfl k) ?_
  show own_G _ _ _ _ _ _ _ (s₁.setTop (mkF m 14 #[.val (.int p1), .val (.int p2), .val (.long ((76 : Int64) * (p1.toInt64))), .second, .unset, .unset, .unset, .unset] [(.int p1), (.long (16 : Int64)), (.long (32 : Int64))]))
  refine own_st (fun t k => XS.i2l X0.here hx rfl (hb hby own_d1_14) rfl k) ?_
  show own_G _ _ _ _ _ _ _ (s₁.setTop (mkF m 15 #[.val (.int p1), .val (.int p2), .val (.long ((76 : Int64) * (p1.toInt64))), .second, .unset, .unset, .unset, .unset] [(.long (p1.toInt64)), (.long (16 : Int64)), (.long (32 : Int64))]))
  refine own_st (fun t k => XS.lmul X0.here hx rfl (hb hby own_d1_15) rfl k) ?_
  show own_G _ _ _ _ _ _ _ (s₁.setTop (mkF m 16 #[.val (.int p1), .val (.int p2), .val (.long ((76 : Int64) * (p1.toInt64))), .second, .unset, .unset, .unset, .unset] [(.long ((16 : Int64) * (p1.toInt64))), (.long (32 : Int64))]))
  refine own_st (fun t k => XS.ladd X0.here hx rfl (hb hby own_d1_16) rfl k) ?_
  show own_G _ _ _ _ _ _ _ (s₁.setTop (mkF m 17 #[.val (.int p1), .val (.int p2), .val (.long ((76 : Int64) * (p1.toInt64))), .second, .unset, .unset, .unset, .unset] [(.long ((32 : Int64) + ((16 : Int64) * (p1.toInt64))))]))
  refine own_st (fun t k => XS.lstore X0.here hx rfl (hb hby own_d1_17) rfl (l' := #[.val (.int p1), .val (.int p2), .val (.long ((76 : Int64) * (p1.toInt64))), .second, .val (.long ((32 : Int64) + ((16 : Int64) * (p1.toInt64)))), .second, .unset, .unset]) rfl k) ?_
  show own_G _ _ _ _ _ _ _ (s₁.setTop (mkF m 19 #[.val (.int p1), .val (.int p2), .val (.long ((76 : Int64) * (p1.toInt64))), .second, .val (.long ((32 : Int64) + ((16 : Int64) * (p1.toInt64)))), .second, .unset, .unset] []))
  refine own_st (fun t k => X0.ldc2Long hx hown (mvT hZ (hw _ (List.mem_of_getElem? (i := 12) rfl))) (g := (mkF m 19 #[.val (.int p1), .val (.int p2), .val (.long ((76 : Int64) * (p1.toInt64))), .second, .val (.long ((32 : Int64) + ((16 : Int64) * (p1.toInt64)))), .second, .unset, .unset] [])) rfl (hb hby own_d1_19) t k) ?_
  show own_G _ _ _ _ _ _ _ (s₁.setTop (mkF m 22 #[.val (.int p1), .val (.int p2), .val (.long ((76 : Int64) * (p1.toInt64))), .second, .val (.long ((32 : Int64) + ((16 : Int64) * (p1.toInt64)))), .second, .unset, .unset] [(.long (9223372036854775807 : Int64))]))
  refine own_st (fun t k => XS.lstore X0.here hx rfl (hb hby own_d1_22) rfl (l' := #[.val (.int p1), .val (.int p2), .val (.long ((76 : Int64) * (p1.toInt64))), .second, .val (.long ((32 : Int64) + ((16 : Int64) * (p1.toInt64)))), .second, .val (.long (9223372036854775807 : Int64)), .second]) rfl k) ?_
  show own_G _ _ _ _ _ _ _ (s₁.setTop (mkF m 24 #[.val (.int p1), .val (.int p2), .val (.long ((76 : Int64) * (p1.toInt64))), .second, .val (.long ((32 : Int64) + ((16 : Int64) * (p1.toInt64)))), .second, .val (.long (9223372036854775807 : Int64)), .second] []))
  refine own_st (fun t k => XS.iloadN X0.here hx rfl (hb hby own_d1_24) rfl k) ?_
  show own_G _ _ _ _ _ _ _ (s₁.setTop (mkF m 25 #[.val (.int p1), .val (.int p2), .val (.long ((76 : Int64) * (p1.toInt64))), .second, .val (.long ((32 : Int64) + ((16 : Int64) * (p1.toInt64)))), .second, .val (.long (9223372036854775807 : Int64)), .second] [(.int p2)]))
  by_cases hz : p2 = (0 : Int32)
  · refine own_st (fun t k => XS.ifYes X0.here hx rfl (pc0 := 25) (pc' := 42) rfl (hb hby own_d1_25) rfl ((if0 _ _).trans (teq hz).1) (by decide) (by decide) k) ?_
    show own_G _ _ _ _ _ _ _ (s₁.setTop (mkF m 42 #[.val (.int p1), .val (.int p2), .val (.long ((76 : Int64) * (p1.toInt64))), .second, .val (.long ((32 : Int64) + ((16 : Int64) * (p1.toInt64)))), .second, .val (.long (9223372036854775807 : Int64)), .second] []))
    refine own_st (fun t k => XS.lloadN X0.here hx rfl (hb hby own_d1_42) rfl k) ?_
    show own_G _ _ _ _ _ _ _ (s₁.setTop (mkF m 43 #[.val (.int p1), .val (.int p2), .val (.long ((76 : Int64) * (p1.toInt64))), .second, .val (.long ((32 : Int64) + ((16 : Int64) * (p1.toInt64)))), .second, .val (.long (9223372036854775807 : Int64)), .second] [(.long ((76 : Int64) * (p1.toInt64)))]))
    refine own_st (fun t k => XS.lload X0.here hx rfl (hb hby own_d1_43) rfl k) ?_
    show own_G _ _ _ _ _ _ _ (s₁.setTop (mkF m 45 #[.val (.int p1), .val (.int p2), .val (.long ((76 : Int64) * (p1.toInt64))), .second, .val (.long ((32 : Int64) + ((16 : Int64) * (p1.toInt64)))), .second, .val (.long (9223372036854775807 : Int64)), .second] [(.long ((32 : Int64) + ((16 : Int64) * (p1.toInt64)))), (.long ((76 : Int64) * (p1.toInt64)))]))
    refine own_st (fun t k => XS.iloadN X0.here hx rfl (hb hby own_d1_45) rfl k) ?_
    show own_G _ _ _ _ _ _ _ (s₁.setTop (mkF m 46 #[.val (.int p1), .val (.int p2), .val (.long ((76 : Int64) * (p1.toInt64))), .second, .val (.long ((32 : Int64) + ((16 : Int64) * (p1.toInt64)))), .second, .val (.long (9223372036854775807 : Int64)), .second] [(.int p2), (.long ((32 : Int64) + ((16 : Int64) * (p1.toInt64)))), (.long ((76 : Int64) * (p1.toInt64)))]))
    refine own_st (fun t k => XS.i2l X0.here hx rfl (hb hby own_d1_46) rfl k) ?_
    show own_G _ _ _ _ _ _ _ (s₁.setTop (mkF m 47 #[.val (.int p1), .val (.int p2), .val (.long ((76 : Int64) * (p1.toInt64))), .second, .val (.long ((32 : Int64) + ((16 : Int64) * (p1.toInt64)))), .second, .val (.long (9223372036854775807 : Int64)), .second] [(.long (p2.toInt64)), (.long ((32 : Int64) + ((16 : Int64) * (p1.toInt64)))), (.long ((76 : Int64) * (p1.toInt64)))]))
    refine own_st (fun t k => XS.lmul X0.here hx rfl (hb hby own_d1_47) rfl k) ?_
    show own_G _ _ _ _ _ _ _ (s₁.setTop (mkF m 48 #[.val (.int p1), .val (.int p2), .val (.long ((76 : Int64) * (p1.toInt64))), .second, .val (.long ((32 : Int64) + ((16 : Int64) * (p1.toInt64)))), .second, .val (.long (9223372036854775807 : Int64)), .second] [(.long (((32 : Int64) + ((16 : Int64) * (p1.toInt64))) * (p2.toInt64))), (.long ((76 : Int64) * (p1.toInt64)))]))
    refine own_st (fun t k => XS.ladd X0.here hx rfl (hb hby own_d1_48) rfl k) ?_
    show own_G _ _ _ _ _ _ _ (s₁.setTop (mkF m 49 #[.val (.int p1), .val (.int p2), .val (.long ((76 : Int64) * (p1.toInt64))), .second, .val (.long ((32 : Int64) + ((16 : Int64) * (p1.toInt64)))), .second, .val (.long (9223372036854775807 : Int64)), .second] [(.long (((76 : Int64) * (p1.toInt64)) + (((32 : Int64) + ((16 : Int64) * (p1.toInt64))) * (p2.toInt64))))]))
    refine own_st (fun t k => XS.lstore X0.here hx rfl (hb hby own_d1_49) rfl (l' := #[.val (.int p1), .val (.int p2), .val (.long ((76 : Int64) * (p1.toInt64))), .second, .val (.long ((32 : Int64) + ((16 : Int64) * (p1.toInt64)))), .second, .val (.long (((76 : Int64) * (p1.toInt64)) + (((32 : Int64) + ((16 : Int64) * (p1.toInt64))) * (p2.toInt64)))), .second]) rfl k) ?_
    show own_G _ _ _ _ _ _ _ (s₁.setTop (mkF m 51 #[.val (.int p1), .val (.int p2), .val (.long ((76 : Int64) * (p1.toInt64))), .second, .val (.long ((32 : Int64) + ((16 : Int64) * (p1.toInt64)))), .second, .val (.long (((76 : Int64) * (p1.toInt64)) + (((32 : Int64) + ((16 : Int64) * (p1.toInt64))) * (p2.toInt64)))), .second] []))
    refine own_st (fun t k => XS.lload X0.here hx rfl (hb hby own_d1_51) rfl k) ?_
    show own_G _ _ _ _ _ _ _ (s₁.setTop (mkF m 53 #[.val (.int p1), .val (.int p2), .val (.long ((76 : Int64) * (p1.toInt64))), .second, .val (.long ((32 : Int64) + ((16 : Int64) * (p1.toInt64)))), .second, .val (.long (((76 : Int64) * (p1.toInt64)) + (((32 : Int64) + ((16 : Int64) * (p1.toInt64))) * (p2.toInt64)))), .second] [(.long (((76 : Int64) * (p1.toInt64)) + (((32 : Int64) + ((16 : Int64) * (p1.toInt64))) * (p2.toInt64))))]))
    exact own_retJ X0 hx Bd.returns (BodyLoose.notSynchronized Bd) (hb hby own_d1_53) (by decide) (by decide) ⟨congrArg (fun z => some (Value.long z)) (show _ = own_lb _ _ _ by simp only [own_lb, if_pos hz]), N0, e0⟩
  · refine own_st (fun t k => XS.ifNo X0.here hx rfl (hb hby own_d1_25) rfl ((if0 _ _).trans (feq hz).1) k) ?_
    show own_G _ _ _ _ _ _ _ (s₁.setTop (mkF m 28 #[.val (.int p1), .val (.int p2), .val (.long ((76 : Int64) * (p1.toInt64))), .second, .val (.long ((32 : Int64) + ((16 : Int64) * (p1.toInt64)))), .second, .val (.long (9223372036854775807 : Int64)), .second] []))
    refine own_st (fun t k => XS.lload X0.here hx rfl (hb hby own_d1_28) rfl k) ?_
    show own_G _ _ _ _ _ _ _ (s₁.setTop (mkF m 30 #[.val (.int p1), .val (.int p2), .val (.long ((76 : Int64) * (p1.toInt64))), .second, .val (.long ((32 : Int64) + ((16 : Int64) * (p1.toInt64)))), .second, .val (.long (9223372036854775807 : Int64)), .second] [(.long ((32 : Int64) + ((16 : Int64) * (p1.toInt64))))]))
    refine own_st (fun t k => X0.ldc2Long hx hown (mvT hZ (hw _ (List.mem_of_getElem? (i := 12) rfl))) (g := (mkF m 30 #[.val (.int p1), .val (.int p2), .val (.long ((76 : Int64) * (p1.toInt64))), .second, .val (.long ((32 : Int64) + ((16 : Int64) * (p1.toInt64)))), .second, .val (.long (9223372036854775807 : Int64)), .second] [(.long ((32 : Int64) + ((16 : Int64) * (p1.toInt64))))])) rfl (hb hby own_d1_30) t k) ?_
    show own_G _ _ _ _ _ _ _ (s₁.setTop (mkF m 33 #[.val (.int p1), .val (.int p2), .val (.long ((76 : Int64) * (p1.toInt64))), .second, .val (.long ((32 : Int64) + ((16 : Int64) * (p1.toInt64)))), .second, .val (.long (9223372036854775807 : Int64)), .second] [(.long (9223372036854775807 : Int64)), (.long ((32 : Int64) + ((16 : Int64) * (p1.toInt64))))]))
    refine own_st (fun t k => XS.lloadN X0.here hx rfl (hb hby own_d1_33) rfl k) ?_
    show own_G _ _ _ _ _ _ _ (s₁.setTop (mkF m 34 #[.val (.int p1), .val (.int p2), .val (.long ((76 : Int64) * (p1.toInt64))), .second, .val (.long ((32 : Int64) + ((16 : Int64) * (p1.toInt64)))), .second, .val (.long (9223372036854775807 : Int64)), .second] [(.long ((76 : Int64) * (p1.toInt64))), (.long (9223372036854775807 : Int64)), (.long ((32 : Int64) + ((16 : Int64) * (p1.toInt64))))]))
    refine own_st (fun t k => XS.lsub X0.here hx rfl (hb hby own_d1_34) rfl k) ?_
    show own_G _ _ _ _ _ _ _ (s₁.setTop (mkF m 35 #[.val (.int p1), .val (.int p2), .val (.long ((76 : Int64) * (p1.toInt64))), .second, .val (.long ((32 : Int64) + ((16 : Int64) * (p1.toInt64)))), .second, .val (.long (9223372036854775807 : Int64)), .second] [(.long ((9223372036854775807 : Int64) - ((76 : Int64) * (p1.toInt64)))), (.long ((32 : Int64) + ((16 : Int64) * (p1.toInt64))))]))
    refine own_st (fun t k => XS.iloadN X0.here hx rfl (hb hby own_d1_35) rfl k) ?_
    show own_G _ _ _ _ _ _ _ (s₁.setTop (mkF m 36 #[.val (.int p1), .val (.int p2), .val (.long ((76 : Int64) * (p1.toInt64))), .second, .val (.long ((32 : Int64) + ((16 : Int64) * (p1.toInt64)))), .second, .val (.long (9223372036854775807 : Int64)), .second] [(.int p2), (.long ((9223372036854775807 : Int64) - ((76 : Int64) * (p1.toInt64)))), (.long ((32 : Int64) + ((16 : Int64) * (p1.toInt64))))]))
    refine own_st (fun t k => XS.i2l X0.here hx rfl (hb hby own_d1_36) rfl k) ?_
    show own_G _ _ _ _ _ _ _ (s₁.setTop (mkF m 37 #[.val (.int p1), .val (.int p2), .val (.long ((76 : Int64) * (p1.toInt64))), .second, .val (.long ((32 : Int64) + ((16 : Int64) * (p1.toInt64)))), .second, .val (.long (9223372036854775807 : Int64)), .second] [(.long (p2.toInt64)), (.long ((9223372036854775807 : Int64) - ((76 : Int64) * (p1.toInt64)))), (.long ((32 : Int64) + ((16 : Int64) * (p1.toInt64))))]))
    refine own_st (fun t k => XS.ldiv X0.here hx rfl (hb hby own_d1_37) rfl (own_nz hz) k) ?_
    show own_G _ _ _ _ _ _ _ (s₁.setTop (mkF m 38 #[.val (.int p1), .val (.int p2), .val (.long ((76 : Int64) * (p1.toInt64))), .second, .val (.long ((32 : Int64) + ((16 : Int64) * (p1.toInt64)))), .second, .val (.long (9223372036854775807 : Int64)), .second] [(.long (((9223372036854775807 : Int64) - ((76 : Int64) * (p1.toInt64))) / (p2.toInt64))), (.long ((32 : Int64) + ((16 : Int64) * (p1.toInt64))))]))
    refine own_st (fun t k => XS.lcmp X0.here hx rfl (hb hby own_d1_38) rfl k) ?_
    show own_G _ _ _ _ _ _ _ (s₁.setTop (mkF m 39 #[.val (.int p1), .val (.int p2), .val (.long ((76 : Int64) * (p1.toInt64))), .second, .val (.long ((32 : Int64) + ((16 : Int64) * (p1.toInt64)))), .second, .val (.long (9223372036854775807 : Int64)), .second] [(.int (lcmpW ((32 : Int64) + ((16 : Int64) * (p1.toInt64))) (((9223372036854775807 : Int64) - ((76 : Int64) * (p1.toInt64))) / (p2.toInt64))))]))
    by_cases hc : (0 : Int32) < (lcmpW ((32 : Int64) + ((16 : Int64) * (p1.toInt64))) (((9223372036854775807 : Int64) - ((76 : Int64) * (p1.toInt64))) / (p2.toInt64)))
    · refine own_st (fun t k => XS.ifYes X0.here hx rfl (pc0 := 39) (pc' := 51) rfl (hb hby own_d1_39) rfl ((if0 _ _).trans (tlt hc).2.2.1) (by decide) (by decide) k) ?_
      show own_G _ _ _ _ _ _ _ (s₁.setTop (mkF m 51 #[.val (.int p1), .val (.int p2), .val (.long ((76 : Int64) * (p1.toInt64))), .second, .val (.long ((32 : Int64) + ((16 : Int64) * (p1.toInt64)))), .second, .val (.long (9223372036854775807 : Int64)), .second] []))
      refine own_st (fun t k => XS.lload X0.here hx rfl (hb hby own_d1_51) rfl k) ?_
      show own_G _ _ _ _ _ _ _ (s₁.setTop (mkF m 53 #[.val (.int p1), .val (.int p2), .val (.long ((76 : Int64) * (p1.toInt64))), .second, .val (.long ((32 : Int64) + ((16 : Int64) * (p1.toInt64)))), .second, .val (.long (9223372036854775807 : Int64)), .second] [(.long (9223372036854775807 : Int64))]))
      exact own_retJ X0 hx Bd.returns (BodyLoose.notSynchronized Bd) (hb hby own_d1_53) (by decide) (by decide) ⟨congrArg (fun z => some (Value.long z)) (show _ = own_lb _ _ _ by simp only [own_lb, if_neg hz, if_pos hc]), N0, e0⟩
    · refine own_st (fun t k => XS.ifNo X0.here hx rfl (hb hby own_d1_39) rfl ((if0 _ _).trans (flt hc).2.2.1) k) ?_
      show own_G _ _ _ _ _ _ _ (s₁.setTop (mkF m 42 #[.val (.int p1), .val (.int p2), .val (.long ((76 : Int64) * (p1.toInt64))), .second, .val (.long ((32 : Int64) + ((16 : Int64) * (p1.toInt64)))), .second, .val (.long (9223372036854775807 : Int64)), .second] []))
      refine own_st (fun t k => XS.lloadN X0.here hx rfl (hb hby own_d1_42) rfl k) ?_
      show own_G _ _ _ _ _ _ _ (s₁.setTop (mkF m 43 #[.val (.int p1), .val (.int p2), .val (.long ((76 : Int64) * (p1.toInt64))), .second, .val (.long ((32 : Int64) + ((16 : Int64) * (p1.toInt64)))), .second, .val (.long (9223372036854775807 : Int64)), .second] [(.long ((76 : Int64) * (p1.toInt64)))]))
      refine own_st (fun t k => XS.lload X0.here hx rfl (hb hby own_d1_43) rfl k) ?_
      show own_G _ _ _ _ _ _ _ (s₁.setTop (mkF m 45 #[.val (.int p1), .val (.int p2), .val (.long ((76 : Int64) * (p1.toInt64))), .second, .val (.long ((32 : Int64) + ((16 : Int64) * (p1.toInt64)))), .second, .val (.long (9223372036854775807 : Int64)), .second] [(.long ((32 : Int64) + ((16 : Int64) * (p1.toInt64)))), (.long ((76 : Int64) * (p1.toInt64)))]))
      refine own_st (fun t k => XS.iloadN X0.here hx rfl (hb hby own_d1_45) rfl k) ?_
      show own_G _ _ _ _ _ _ _ (s₁.setTop (mkF m 46 #[.val (.int p1), .val (.int p2), .val (.long ((76 : Int64) * (p1.toInt64))), .second, .val (.long ((32 : Int64) + ((16 : Int64) * (p1.toInt64)))), .second, .val (.long (9223372036854775807 : Int64)), .second] [(.int p2), (.long ((32 : Int64) + ((16 : Int64) * (p1.toInt64)))), (.long ((76 : Int64) * (p1.toInt64)))]))
      refine own_st (fun t k => XS.i2l X0.here hx rfl (hb hby own_d1_46) rfl k) ?_
      show own_G _ _ _ _ _ _ _ (s₁.setTop (mkF m 47 #[.val (.int p1), .val (.int p2), .val (.long ((76 : Int64) * (p1.toInt64))), .second, .val (.long ((32 : Int64) + ((16 : Int64) * (p1.toInt64)))), .second, .val (.long (9223372036854775807 : Int64)), .second] [(.long (p2.toInt64)), (.long ((32 : Int64) + ((16 : Int64) * (p1.toInt64)))), (.long ((76 : Int64) * (p1.toInt64)))]))
      refine own_st (fun t k => XS.lmul X0.here hx rfl (hb hby own_d1_47) rfl k) ?_
      show own_G _ _ _ _ _ _ _ (s₁.setTop (mkF m 48 #[.val (.int p1), .val (.int p2), .val (.long ((76 : Int64) * (p1.toInt64))), .second, .val (.long ((32 : Int64) + ((16 : Int64) * (p1.toInt64)))), .second, .val (.long (9223372036854775807 : Int64)), .second] [(.long (((32 : Int64) + ((16 : Int64) * (p1.toInt64))) * (p2.toInt64))), (.long ((76 : Int64) * (p1.toInt64)))]))
      refine own_st (fun t k => XS.ladd X0.here hx rfl (hb hby own_d1_48) rfl k) ?_
      show own_G _ _ _ _ _ _ _ (s₁.setTop (mkF m 49 #[.val (.int p1), .val (.int p2), .val (.long ((76 : Int64) * (p1.toInt64))), .second, .val (.long ((32 : Int64) + ((16 : Int64) * (p1.toInt64)))), .second, .val (.long (9223372036854775807 : Int64)), .second] [(.long (((76 : Int64) * (p1.toInt64)) + (((32 : Int64) + ((16 : Int64) * (p1.toInt64))) * (p2.toInt64))))]))
      refine own_st (fun t k => XS.lstore X0.here hx rfl (hb hby own_d1_49) rfl (l' := #[.val (.int p1), .val (.int p2), .val (.long ((76 : Int64) * (p1.toInt64))), .second, .val (.long ((32 : Int64) + ((16 : Int64) * (p1.toInt64)))), .second, .val (.long (((76 : Int64) * (p1.toInt64)) + (((32 : Int64) + ((16 : Int64) * (p1.toInt64))) * (p2.toInt64)))), .second]) rfl k) ?_
      show own_G _ _ _ _ _ _ _ (s₁.setTop (mkF m 51 #[.val (.int p1), .val (.int p2), .val (.long ((76 : Int64) * (p1.toInt64))), .second, .val (.long ((32 : Int64) + ((16 : Int64) * (p1.toInt64)))), .second, .val (.long (((76 : Int64) * (p1.toInt64)) + (((32 : Int64) + ((16 : Int64) * (p1.toInt64))) * (p2.toInt64)))), .second] []))
      refine own_st (fun t k => XS.lload X0.here hx rfl (hb hby own_d1_51) rfl k) ?_
      show own_G _ _ _ _ _ _ _ (s₁.setTop (mkF m 53 #[.val (.int p1), .val (.int p2), .val (.long ((76 : Int64) * (p1.toInt64))), .second, .val (.long ((32 : Int64) + ((16 : Int64) * (p1.toInt64)))), .second, .val (.long (((76 : Int64) * (p1.toInt64)) + (((32 : Int64) + ((16 : Int64) * (p1.toInt64))) * (p2.toInt64)))), .second] [(.long (((76 : Int64) * (p1.toInt64)) + (((32 : Int64) + ((16 : Int64) * (p1.toInt64))) * (p2.toInt64))))]))
      exact own_retJ X0 hx Bd.returns (BodyLoose.notSynchronized Bd) (hb hby own_d1_53) (by decide) (by decide) ⟨congrArg (fun z => some (Value.long z)) (show _ = own_lb _ _ _ by simp only [own_lb, if_neg hz, if_neg hc]), N0, e0⟩
theorem own_pd0 : parseMethodDescriptor "(II)J" = some ⟨[.int, .int], some .long⟩ := by decide +kernel
theorem own_pn1 : plainName "com/example/matres/matres/core/CredibilityFilterModelLeastBytesPinLaw" = true := by first | (simp [plainName, overriddenIn]; done) | decide +kernel
theorem own_ef0 (m : MethodId) (p1 : Int32) (p2 : Int32) (p3 : Int32) : entryFrame m #[(.int p1), (.int p2), (.int p3)] maxLocals = mkF m 0 #[.val (.int p1), .val (.int p2), .val (.int p3), .unset, .unset, .unset, .unset, .unset, .unset, .unset, .unset, .unset, .unset, .unset, .unset, .unset, .unset] [] := by first | (simp [entryFrame, mkF, argsToLocals, Value.category, maxLocals]; done) | rfl
set_option maxRecDepth 65536 in
set_option maxHeartbeats 40000000 in
theorem own_rm0 (l : Launch) (Z : State) (a0 : Array Value) (hw : ∀ d ∈ tables_1, d.before a0 Z = true) (ws : List Jvm.Cond) (p1 p2 p3 : Int32) (h0 : Heap) (n0 : Nat) (Z0 : n0 ≤ h0.size)  :
    MetFree l x (head1 (Jvm.Cond.code x code maxLocals ret :: ws) room_1) (fun a U => a = #[(.int p1), (.int p2), (.int p3)] ∧ Z.Warmed39 U.vm ∧ U.heap = h0) (fun _ _ _ _ _ => True) (fun _ U o U' => ∃ v L, o = .returned v ∧ own_Q0 n0 v U'.heap L ∧ FrameEnd U o U' L room_1.cells room_1.slots) := by
  refine MetFree.of_bodySF (plainFor_of_name own_pn1) hisR ?_
  intro p e s m args below meth c s₁ Bd hml0 hP hK
  obtain ⟨rfl, hZ, hh⟩ := hP
  have hx := Bd.exec
  have hby := Bd.bytes
  have hml : c.maxLocals = 17 := hml0
  have hown : s.vm.findClass "com/example/matres/matres/core/CredibilityFilterModelLeastBytesPinLaw" = some m.cls := findClass_of_methodNamed Bd.named
  have hnm := (name_of_methodNamed Bd.named Bd.method).1
  have X0 : Stand p l e room_1 s m #[(.int p1), (.int p2), (.int p3)] below meth c s₁ [] 0 0 := Stand.of_body Bd
  have e0 : s₁.heap = h0 := by rw [← hh, Bd.state]; rfl
  have N0 := Fr.nil n0
  refine own_in (Q := own_Q0 n0) ?_
  rw [own_ef0]
  show own_G _ _ _ _ _ _ _ (s₁.setTop (mkF m 0 #[.val (.int p1), .val (.int p2), .val (.int p3), .unset, .unset, .unset, .unset, .unset, .unset, .unset, .unset, .unset, .unset, .unset, .unset, .unset, .unset] []))
  refine own_st (fun t k => XS.iloadN X0.here hx rfl (hb hby at_0) rfl k) ?_
  show own_G _ _ _ _ _ _ _ (s₁.setTop (mkF m 1 #[.val (.int p1), .val (.int p2), .val (.int p3), .unset, .unset, .unset, .unset, .unset, .unset, .unset, .unset, .unset, .unset, .unset, .unset, .unset, .unset] [(.int p1)]))
  refine own_st (fun t k => X0.ldcInt hx hown (mvT hZ (hw _ (List.mem_of_getElem? (i := 0) rfl))) (g := (mkF m 1 #[.val (.int p1), .val (.int p2), .val (.int p3), .unset, .unset, .unset, .unset, .unset, .unset, .unset, .unset, .unset, .unset, .unset, .unset, .unset, .unset] [(.int p1)])) rfl (hb hby at_1) t k) ?_
  show own_G _ _ _ _ _ _ _ (s₁.setTop (mkF m 3 #[.val (.int p1), .val (.int p2), .val (.int p3), .unset, .unset, .unset, .unset, .unset, .unset, .unset, .unset, .unset, .unset, .unset, .unset, .unset, .unset] [(.int (2147483647 : Int32)), (.int p1)]))
  refine own_st (fun t k => XS.iand X0.here hx rfl (hb hby at_3) rfl k) ?_
  show own_G _ _ _ _ _ _ _ (s₁.setTop (mkF m 4 #[.val (.int p1), .val (.int p2), .val (.int p3), .unset, .unset, .unset, .unset, .unset, .unset, .unset, .unset, .unset, .unset, .unset, .unset, .unset, .unset] [(.int (p1 &&& (2147483647 : Int32)))]))
  refine own_st (fun t k => XS.iloadN X0.here hx rfl (hb hby at_4) rfl k) ?_
  show own_G _ _ _ _ _ _ _ (s₁.setTop (mkF m 5 #[.val (.int p1), .val (.int p2), .val (.int p3), .unset, .unset, .unset, .unset, .unset, .unset, .unset, .unset, .unset, .unset, .unset, .unset, .unset, .unset] [(.int p3), (.int (p1 &&& (2147483647 : Int32)))]))
  refine own_st (fun t k => XS.bipush X0.here hx rfl (hb hby at_5) k) ?_
  show own_G _ _ _ _ _ _ _ (s₁.setTop (mkF m 7 #[.val (.int p1), .val (.int p2), .val (.int p3), .unset, .unset, .unset, .unset, .unset, .unset, .unset, .unset, .unset, .unset, .unset, .unset, .unset, .unset] [(.int (31 : Int32)), (.int p3), (.int (p1 &&& (2147483647 : Int32)))]))
  refine own_st (fun t k => XS.iand X0.here hx rfl (hb hby at_7) rfl k) ?_
  show own_G _ _ _ _ _ _ _ (s₁.setTop (mkF m 8 #[.val (.int p1), .val (.int p2), .val (.int p3), .unset, .unset, .unset, .unset, .unset, .unset, .unset, .unset, .unset, .unset, .unset, .unset, .unset, .unset] [(.int (p3 &&& (31 : Int32))), (.int (p1 &&& (2147483647 : Int32)))]))
  refine own_st (fun t k => XS.iushr X0.here hx rfl (hb hby at_8) rfl k) ?_
  show own_G _ _ _ _ _ _ _ (s₁.setTop (mkF m 9 #[.val (.int p1), .val (.int p2), .val (.int p3), .unset, .unset, .unset, .unset, .unset, .unset, .unset, .unset, .unset, .unset, .unset, .unset, .unset, .unset] [(.int (((p1 &&& (2147483647 : Int32)).toUInt32 >>> ((p3 &&& (31 : Int32)) &&& 31).toUInt32).toInt32))]))
  have hp := own_sh p1 (p3 &&& 31)
  generalize (((p1 &&& (2147483647 : Int32)).toUInt32 >>> ((p3 &&& (31 : Int32)) &&& 31).toUInt32).toInt32) = pr at hp ⊢
  show own_G _ _ _ _ _ _ _ (s₁.setTop (mkF m 9 #[.val (.int p1), .val (.int p2), .val (.int p3), .unset, .unset, .unset, .unset, .unset, .unset, .unset, .unset, .unset, .unset, .unset, .unset, .unset, .unset] [(.int pr)]))
  refine own_st (fun t k => XS.istoreN X0.here hx rfl (hb hby at_9) rfl (l' := #[.val (.int p1), .val (.int p2), .val (.int p3), .val (.int pr), .unset, .unset, .unset, .unset, .unset, .unset, .unset, .unset, .unset, .unset, .unset, .unset, .unset]) rfl k) ?_
  show own_G _ _ _ _ _ _ _ (s₁.setTop (mkF m 10 #[.val (.int p1), .val (.int p2), .val (.int p3), .val (.int pr), .unset, .unset, .unset, .unset, .unset, .unset, .unset, .unset, .unset, .unset, .unset, .unset, .unset] []))
  refine own_st (fun t k => XS.iloadN X0.here hx rfl (hb hby at_10) rfl k) ?_
  show own_G _ _ _ _ _ _ _ (s₁.setTop (mkF m 11 #[.val (.int p1), .val (.int p2), .val (.int p3), .val (.int pr), .unset, .unset, .unset, .unset, .unset, .unset, .unset, .unset, .unset, .unset, .unset, .unset, .unset] [(.int p2)]))
  refine own_st (fun t k => X0.ldcInt hx hown (mvT hZ (hw _ (List.mem_of_getElem? (i := 0) rfl))) (g := (mkF m 11 #[.val (.int p1), .val (.int p2), .val (.int p3), .val (.int pr), .unset, .unset, .unset, .unset, .unset, .unset, .unset, .unset, .unset, .unset, .unset, .unset, .unset] [(.int p2)])) rfl (hb hby at_11) t k) ?_
  show own_G _ _ _ _ _ _ _ (s₁.setTop (mkF m 13 #[.val (.int p1), .val (.int p2), .val (.int p3), .val (.int pr), .unset, .unset, .unset, .unset, .unset, .unset, .unset, .unset, .unset, .unset, .unset, .unset, .unset] [(.int (2147483647 : Int32)), (.int p2)]))
  refine own_st (fun t k => XS.iand X0.here hx rfl (hb hby at_13) rfl k) ?_
  show own_G _ _ _ _ _ _ _ (s₁.setTop (mkF m 14 #[.val (.int p1), .val (.int p2), .val (.int p3), .val (.int pr), .unset, .unset, .unset, .unset, .unset, .unset, .unset, .unset, .unset, .unset, .unset, .unset, .unset] [(.int (p2 &&& (2147483647 : Int32)))]))
  refine own_st (fun t k => XS.iloadN X0.here hx rfl (hb hby at_14) rfl k) ?_
  show own_G _ _ _ _ _ _ _ (s₁.setTop (mkF m 15 #[.val (.int p1), .val (.int p2), .val (.int p3), .val (.int pr), .unset, .unset, .unset, .unset, .unset, .unset, .unset, .unset, .unset, .unset, .unset, .unset, .unset] [(.int p3), (.int (p2 &&& (2147483647 : Int32)))]))
  refine own_st (fun t k => XS.iconst X0.here hx rfl (hb hby at_15) k) ?_
  show own_G _ _ _ _ _ _ _ (s₁.setTop (mkF m 16 #[.val (.int p1), .val (.int p2), .val (.int p3), .val (.int pr), .unset, .unset, .unset, .unset, .unset, .unset, .unset, .unset, .unset, .unset, .unset, .unset, .unset] [(.int (5 : Int32)), (.int p3), (.int (p2 &&& (2147483647 : Int32)))]))
  refine own_st (fun t k => XS.iushr X0.here hx rfl (hb hby at_16) rfl k) ?_
  show own_G _ _ _ _ _ _ _ (s₁.setTop (mkF m 17 #[.val (.int p1), .val (.int p2), .val (.int p3), .val (.int pr), .unset, .unset, .unset, .unset, .unset, .unset, .unset, .unset, .unset, .unset, .unset, .unset, .unset] [(.int ((p3.toUInt32 >>> ((5 : Int32) &&& 31).toUInt32).toInt32)), (.int (p2 &&& (2147483647 : Int32)))]))
  refine own_st (fun t k => XS.bipush X0.here hx rfl (hb hby at_17) k) ?_
  show own_G _ _ _ _ _ _ _ (s₁.setTop (mkF m 19 #[.val (.int p1), .val (.int p2), .val (.int p3), .val (.int pr), .unset, .unset, .unset, .unset, .unset, .unset, .unset, .unset, .unset, .unset, .unset, .unset, .unset] [(.int (31 : Int32)), (.int ((p3.toUInt32 >>> ((5 : Int32) &&& 31).toUInt32).toInt32)), (.int (p2 &&& (2147483647 : Int32)))]))
  refine own_st (fun t k => XS.iand X0.here hx rfl (hb hby at_19) rfl k) ?_
  show own_G _ _ _ _ _ _ _ (s₁.setTop (mkF m 20 #[.val (.int p1), .val (.int p2), .val (.int p3), .val (.int pr), .unset, .unset, .unset, .unset, .unset, .unset, .unset, .unset, .unset, .unset, .unset, .unset, .unset] [(.int (((p3.toUInt32 >>> ((5 : Int32) &&& 31).toUInt32).toInt32) &&& (31 : Int32))), (.int (p2 &&& (2147483647 : Int32)))]))
  refine own_st (fun t k => XS.iushr X0.here hx rfl (hb hby at_20) rfl k) ?_
  show own_G _ _ _ _ _ _ _ (s₁.setTop (mkF m 21 #[.val (.int p1), .val (.int p2), .val (.int p3), .val (.int pr), .unset, .unset, .unset, .unset, .unset, .unset, .unset, .unset, .unset, .unset, .unset, .unset, .unset] [(.int (((p2 &&& (2147483647 : Int32)).toUInt32 >>> ((((p3.toUInt32 >>> ((5 : Int32) &&& 31).toUInt32).toInt32) &&& (31 : Int32)) &&& 31).toUInt32).toInt32))]))
  have hq := own_sh p2 (((p3.toUInt32 >>> (5 &&& 31 : Int32).toUInt32).toInt32) &&& 31)
  generalize (((p2 &&& (2147483647 : Int32)).toUInt32 >>> ((((p3.toUInt32 >>> ((5 : Int32) &&& 31).toUInt32).toInt32) &&& (31 : Int32)) &&& 31).toUInt32).toInt32) = wi at hq ⊢
  show own_G _ _ _ _ _ _ _ (s₁.setTop (mkF m 21 #[.val (.int p1), .val (.int p2), .val (.int p3), .val (.int pr), .unset, .unset, .unset, .unset, .unset, .unset, .unset, .unset, .unset, .unset, .unset, .unset, .unset] [(.int wi)]))
  refine own_st (fun t k => XS.istore X0.here hx rfl (hb hby at_21) rfl (l' := #[.val (.int p1), .val (.int p2), .val (.int p3), .val (.int pr), .val (.int wi), .unset, .unset, .unset, .unset, .unset, .unset, .unset, .unset, .unset, .unset, .unset, .unset]) rfl k) ?_
  show own_G _ _ _ _ _ _ _ (s₁.setTop (mkF m 23 #[.val (.int p1), .val (.int p2), .val (.int p3), .val (.int pr), .val (.int wi), .unset, .unset, .unset, .unset, .unset, .unset, .unset, .unset, .unset, .unset, .unset, .unset] []))
  refine own_st (fun t k => XS.iloadN X0.here hx rfl (hb hby at_23) rfl k) ?_
  show own_G _ _ _ _ _ _ _ (s₁.setTop (mkF m 24 #[.val (.int p1), .val (.int p2), .val (.int p3), .val (.int pr), .val (.int wi), .unset, .unset, .unset, .unset, .unset, .unset, .unset, .unset, .unset, .unset, .unset, .unset] [(.int pr)]))
  refine own_st (fun t k => XS.i2l X0.here hx rfl (hb hby at_24) rfl k) ?_
  show own_G _ _ _ _ _ _ _ (s₁.setTop (mkF m 25 #[.val (.int p1), .val (.int p2), .val (.int p3), .val (.int pr), .val (.int wi), .unset, .unset, .unset, .unset, .unset, .unset, .unset, .unset, .unset, .unset, .unset, .unset] [(.long (pr.toInt64))]))
  refine own_st (fun t k => XS.lstore X0.here hx rfl (hb hby at_25) rfl (l' := #[.val (.int p1), .val (.int p2), .val (.int p3), .val (.int pr), .val (.int wi), .val (.long (pr.toInt64)), .second, .unset, .unset, .unset, .unset, .unset, .unset, .unset, .unset, .unset, .unset]) rfl k) ?_
  show own_G _ _ _ _ _ _ _ (s₁.setTop (mkF m 27 #[.val (.int p1), .val (.int p2), .val (.int p3), .val (.int pr), .val (.int wi), .val (.long (pr.toInt64)), .second, .unset, .unset, .unset, .unset, .unset, .unset, .unset, .unset, .unset, .unset] []))
  refine own_st (fun t k => XS.iload X0.here hx rfl (hb hby at_27) rfl k) ?_
  show own_G _ _ _ _ _ _ _ (s₁.setTop (mkF m 29 #[.val (.int p1), .val (.int p2), .val (.int p3), .val (.int pr), .val (.int wi), .val (.long (pr.toInt64)), .second, .unset, .unset, .unset, .unset, .unset, .unset, .unset, .unset, .unset, .unset] [(.int wi)]))
  refine own_st (fun t k => XS.i2l X0.here hx rfl (hb hby at_29) rfl k) ?_
  show own_G _ _ _ _ _ _ _ (s₁.setTop (mkF m 30 #[.val (.int p1), .val (.int p2), .val (.int p3), .val (.int pr), .val (.int wi), .val (.long (pr.toInt64)), .second, .unset, .unset, .unset, .unset, .unset, .unset, .unset, .unset, .unset, .unset] [(.long (wi.toInt64))]))
  refine own_st (fun t k => XS.lstore X0.here hx rfl (hb hby at_30) rfl (l' := #[.val (.int p1), .val (.int p2), .val (.int p3), .val (.int pr), .val (.int wi), .val (.long (pr.toInt64)), .second, .val (.long (wi.toInt64)), .second, .unset, .unset, .unset, .unset, .unset, .unset, .unset, .unset]) rfl k) ?_
  show own_G _ _ _ _ _ _ _ (s₁.setTop (mkF m 32 #[.val (.int p1), .val (.int p2), .val (.int p3), .val (.int pr), .val (.int wi), .val (.long (pr.toInt64)), .second, .val (.long (wi.toInt64)), .second, .unset, .unset, .unset, .unset, .unset, .unset, .unset, .unset] []))
  refine own_st (fun t k => XS.lload X0.here hx rfl (hb hby at_32) rfl k) ?_
  show own_G _ _ _ _ _ _ _ (s₁.setTop (mkF m 34 #[.val (.int p1), .val (.int p2), .val (.int p3), .val (.int pr), .val (.int wi), .val (.long (pr.toInt64)), .second, .val (.long (wi.toInt64)), .second, .unset, .unset, .unset, .unset, .unset, .unset, .unset, .unset] [(.long (pr.toInt64))]))
  refine own_st (fun t k => XS.lload X0.here hx rfl (hb hby at_34) rfl k) ?_
  show own_G _ _ _ _ _ _ _ (s₁.setTop (mkF m 36 #[.val (.int p1), .val (.int p2), .val (.int p3), .val (.int pr), .val (.int wi), .val (.long (pr.toInt64)), .second, .val (.long (wi.toInt64)), .second, .unset, .unset, .unset, .unset, .unset, .unset, .unset, .unset] [(.long (wi.toInt64)), (.long (pr.toInt64))]))
  refine own_st (fun t k => XS.lmul X0.here hx rfl (hb hby at_36) rfl k) ?_
  show own_G _ _ _ _ _ _ _ (s₁.setTop (mkF m 37 #[.val (.int p1), .val (.int p2), .val (.int p3), .val (.int pr), .val (.int wi), .val (.long (pr.toInt64)), .second, .val (.long (wi.toInt64)), .second, .unset, .unset, .unset, .unset, .unset, .unset, .unset, .unset] [(.long ((pr.toInt64) * (wi.toInt64)))]))
  refine own_st (fun t k => XS.lstore X0.here hx rfl (hb hby at_37) rfl (l' := #[.val (.int p1), .val (.int p2), .val (.int p3), .val (.int pr), .val (.int wi), .val (.long (pr.toInt64)), .second, .val (.long (wi.toInt64)), .second, .val (.long ((pr.toInt64) * (wi.toInt64))), .second, .unset, .unset, .unset, .unset, .unset, .unset]) rfl k) ?_
  show own_G _ _ _ _ _ _ _ (s₁.setTop (mkF m 39 #[.val (.int p1), .val (.int p2), .val (.int p3), .val (.int pr), .val (.int wi), .val (.long (pr.toInt64)), .second, .val (.long (wi.toInt64)), .second, .val (.long ((pr.toInt64) * (wi.toInt64))), .second, .unset, .unset, .unset, .unset, .unset, .unset] []))
  refine own_st (fun t k => X0.ldc2Long hx hown (mvT hZ (hw _ (List.mem_of_getElem? (i := 1) rfl))) (g := (mkF m 39 #[.val (.int p1), .val (.int p2), .val (.int p3), .val (.int pr), .val (.int wi), .val (.long (pr.toInt64)), .second, .val (.long (wi.toInt64)), .second, .val (.long ((pr.toInt64) * (wi.toInt64))), .second, .unset, .unset, .unset, .unset, .unset, .unset] [])) rfl (hb hby at_39) t k) ?_
  show own_G _ _ _ _ _ _ _ (s₁.setTop (mkF m 42 #[.val (.int p1), .val (.int p2), .val (.int p3), .val (.int pr), .val (.int wi), .val (.long (pr.toInt64)), .second, .val (.long (wi.toInt64)), .second, .val (.long ((pr.toInt64) * (wi.toInt64))), .second, .unset, .unset, .unset, .unset, .unset, .unset] [(.long (76 : Int64))]))
  refine own_st (fun t k => XS.lload X0.here hx rfl (hb hby at_42) rfl k) ?_
  show own_G _ _ _ _ _ _ _ (s₁.setTop (mkF m 44 #[.val (.int p1), .val (.int p2), .val (.int p3), .val (.int pr), .val (.int wi), .val (.long (pr.toInt64)), .second, .val (.long (wi.toInt64)), .second, .val (.long ((pr.toInt64) * (wi.toInt64))), .second, .unset, .unset, .unset, .unset, .unset, .unset] [(.long (pr.toInt64)), (.long (76 : Int64))]))
  refine own_st (fun t k => XS.lmul X0.here hx rfl (hb hby at_44) rfl k) ?_
  show own_G _ _ _ _ _ _ _ (s₁.setTop (mkF m 45 #[.val (.int p1), .val (.int p2), .val (.int p3), .val (.int pr), .val (.int wi), .val (.long (pr.toInt64)), .second, .val (.long (wi.toInt64)), .second, .val (.long ((pr.toInt64) * (wi.toInt64))), .second, .unset, .unset, .unset, .unset, .unset, .unset] [(.long ((76 : Int64) * (pr.toInt64)))]))
  refine own_st (fun t k => X0.ldc2Long hx hown (mvT hZ (hw _ (List.mem_of_getElem? (i := 2) rfl))) (g := (mkF m 45 #[.val (.int p1), .val (.int p2), .val (.int p3), .val (.int pr), .val (.int wi), .val (.long (pr.toInt64)), .second, .val (.long (wi.toInt64)), .second, .val (.long ((pr.toInt64) * (wi.toInt64))), .second, .unset, .unset, .unset, .unset, .unset, .unset] [(.long ((76 : Int64) * (pr.toInt64)))])) rfl (hb hby at_45) t k) ?_
  show own_G _ _ _ _ _ _ _ (s₁.setTop (mkF m 48 #[.val (.int p1), .val (.int p2), .val (.int p3), .val (.int pr), .val (.int wi), .val (.long (pr.toInt64)), .second, .val (.long (wi.toInt64)), .second, .val (.long ((pr.toInt64) * (wi.toInt64))), .second, .unset, .unset, .unset, .unset, .unset, .unset] [(.long (32 : Int64)), (.long ((76 : Int64) * (pr.toInt64)))]))
  refine own_st (fun t k => XS.lload X0.here hx rfl (hb hby at_48) rfl k) ?_
  show own_G _ _ _ _ _ _ _ (s₁.setTop (mkF m 50 #[.val (.int p1), .val (.int p2), .val (.int p3), .val (.int pr), .val (.int wi), .val (.long (pr.toInt64)), .second, .val (.long (wi.toInt64)), .second, .val (.long ((pr.toInt64) * (wi.toInt64))), .second, .unset, .unset, .unset, .unset, .unset, .unset] [(.long (wi.toInt64)), (.long (32 : Int64)), (.long ((76 : Int64) * (pr.toInt64)))]))
  refine own_st (fun t k => XS.lmul X0.here hx rfl (hb hby at_50) rfl k) ?_
  show own_G _ _ _ _ _ _ _ (s₁.setTop (mkF m 51 #[.val (.int p1), .val (.int p2), .val (.int p3), .val (.int pr), .val (.int wi), .val (.long (pr.toInt64)), .second, .val (.long (wi.toInt64)), .second, .val (.long ((pr.toInt64) * (wi.toInt64))), .second, .unset, .unset, .unset, .unset, .unset, .unset] [(.long ((32 : Int64) * (wi.toInt64))), (.long ((76 : Int64) * (pr.toInt64)))]))
  refine own_st (fun t k => XS.ladd X0.here hx rfl (hb hby at_51) rfl k) ?_
  show own_G _ _ _ _ _ _ _ (s₁.setTop (mkF m 52 #[.val (.int p1), .val (.int p2), .val (.int p3), .val (.int pr), .val (.int wi), .val (.long (pr.toInt64)), .second, .val (.long (wi.toInt64)), .second, .val (.long ((pr.toInt64) * (wi.toInt64))), .second, .unset, .unset, .unset, .unset, .unset, .unset] [(.long (((76 : Int64) * (pr.toInt64)) + ((32 : Int64) * (wi.toInt64))))]))
  refine own_st (fun t k => XS.lstore X0.here hx rfl (hb hby at_52) rfl (l' := #[.val (.int p1), .val (.int p2), .val (.int p3), .val (.int pr), .val (.int wi), .val (.long (pr.toInt64)), .second, .val (.long (wi.toInt64)), .second, .val (.long ((pr.toInt64) * (wi.toInt64))), .second, .val (.long (((76 : Int64) * (pr.toInt64)) + ((32 : Int64) * (wi.toInt64)))), .second, .unset, .unset, .unset, .unset]) rfl k) ?_
  show own_G _ _ _ _ _ _ _ (s₁.setTop (mkF m 54 #[.val (.int p1), .val (.int p2), .val (.int p3), .val (.int pr), .val (.int wi), .val (.long (pr.toInt64)), .second, .val (.long (wi.toInt64)), .second, .val (.long ((pr.toInt64) * (wi.toInt64))), .second, .val (.long (((76 : Int64) * (pr.toInt64)) + ((32 : Int64) * (wi.toInt64)))), .second, .unset, .unset, .unset, .unset] []))
  refine own_st (fun t k => X0.ldc2Long hx hown (mvT hZ (hw _ (List.mem_of_getElem? (i := 3) rfl))) (g := (mkF m 54 #[.val (.int p1), .val (.int p2), .val (.int p3), .val (.int pr), .val (.int wi), .val (.long (pr.toInt64)), .second, .val (.long (wi.toInt64)), .second, .val (.long ((pr.toInt64) * (wi.toInt64))), .second, .val (.long (((76 : Int64) * (pr.toInt64)) + ((32 : Int64) * (wi.toInt64)))), .second, .unset, .unset, .unset, .unset] [])) rfl (hb hby at_54) t k) ?_
  show own_G _ _ _ _ _ _ _ (s₁.setTop (mkF m 57 #[.val (.int p1), .val (.int p2), .val (.int p3), .val (.int pr), .val (.int wi), .val (.long (pr.toInt64)), .second, .val (.long (wi.toInt64)), .second, .val (.long ((pr.toInt64) * (wi.toInt64))), .second, .val (.long (((76 : Int64) * (pr.toInt64)) + ((32 : Int64) * (wi.toInt64)))), .second, .unset, .unset, .unset, .unset] [(.long (9223372036854775807 : Int64))]))
  refine own_st (fun t k => XS.lload X0.here hx rfl (hb hby at_57) rfl k) ?_
  show own_G _ _ _ _ _ _ _ (s₁.setTop (mkF m 59 #[.val (.int p1), .val (.int p2), .val (.int p3), .val (.int pr), .val (.int wi), .val (.long (pr.toInt64)), .second, .val (.long (wi.toInt64)), .second, .val (.long ((pr.toInt64) * (wi.toInt64))), .second, .val (.long (((76 : Int64) * (pr.toInt64)) + ((32 : Int64) * (wi.toInt64)))), .second, .unset, .unset, .unset, .unset] [(.long (((76 : Int64) * (pr.toInt64)) + ((32 : Int64) * (wi.toInt64)))), (.long (9223372036854775807 : Int64))]))
  refine own_st (fun t k => XS.lsub X0.here hx rfl (hb hby at_59) rfl k) ?_
  show own_G _ _ _ _ _ _ _ (s₁.setTop (mkF m 60 #[.val (.int p1), .val (.int p2), .val (.int p3), .val (.int pr), .val (.int wi), .val (.long (pr.toInt64)), .second, .val (.long (wi.toInt64)), .second, .val (.long ((pr.toInt64) * (wi.toInt64))), .second, .val (.long (((76 : Int64) * (pr.toInt64)) + ((32 : Int64) * (wi.toInt64)))), .second, .unset, .unset, .unset, .unset] [(.long ((9223372036854775807 : Int64) - (((76 : Int64) * (pr.toInt64)) + ((32 : Int64) * (wi.toInt64)))))]))
  refine own_st (fun t k => XS.lstore X0.here hx rfl (hb hby at_60) rfl (l' := #[.val (.int p1), .val (.int p2), .val (.int p3), .val (.int pr), .val (.int wi), .val (.long (pr.toInt64)), .second, .val (.long (wi.toInt64)), .second, .val (.long ((pr.toInt64) * (wi.toInt64))), .second, .val (.long (((76 : Int64) * (pr.toInt64)) + ((32 : Int64) * (wi.toInt64)))), .second, .val (.long ((9223372036854775807 : Int64) - (((76 : Int64) * (pr.toInt64)) + ((32 : Int64) * (wi.toInt64))))), .second, .unset, .unset]) rfl k) ?_
  show own_G _ _ _ _ _ _ _ (s₁.setTop (mkF m 62 #[.val (.int p1), .val (.int p2), .val (.int p3), .val (.int pr), .val (.int wi), .val (.long (pr.toInt64)), .second, .val (.long (wi.toInt64)), .second, .val (.long ((pr.toInt64) * (wi.toInt64))), .second, .val (.long (((76 : Int64) * (pr.toInt64)) + ((32 : Int64) * (wi.toInt64)))), .second, .val (.long ((9223372036854775807 : Int64) - (((76 : Int64) * (pr.toInt64)) + ((32 : Int64) * (wi.toInt64))))), .second, .unset, .unset] []))
  have J : ∀ (v : Int64), v = own_lb 9223372036854775807 pr wi → own_G p.tables e below s (own_Q0 n0) room_1.cells room_1.slots (s₁.setTop (mkF m 89 #[.val (.int p1), .val (.int p2), .val (.int p3), .val (.int pr), .val (.int wi), .val (.long (pr.toInt64)), .second, .val (.long (wi.toInt64)), .second, .val (.long ((pr.toInt64) * (wi.toInt64))), .second, .val (.long (((76 : Int64) * (pr.toInt64)) + ((32 : Int64) * (wi.toInt64)))), .second, .val (.long ((9223372036854775807 : Int64) - (((76 : Int64) * (pr.toInt64)) + ((32 : Int64) * (wi.toInt64))))), .second, .unset, .unset] [(.long v)])) := by
    intro v hv
    refine own_st (fun t k => XS.lstore X0.here hx rfl (hb hby at_89) rfl (l' := #[.val (.int p1), .val (.int p2), .val (.int p3), .val (.int pr), .val (.int wi), .val (.long (pr.toInt64)), .second, .val (.long (wi.toInt64)), .second, .val (.long ((pr.toInt64) * (wi.toInt64))), .second, .val (.long (((76 : Int64) * (pr.toInt64)) + ((32 : Int64) * (wi.toInt64)))), .second, .val (.long ((9223372036854775807 : Int64) - (((76 : Int64) * (pr.toInt64)) + ((32 : Int64) * (wi.toInt64))))), .second, .val (.long v), .second]) rfl k) ?_
    show own_G _ _ _ _ _ _ _ (s₁.setTop (mkF m 91 #[.val (.int p1), .val (.int p2), .val (.int p3), .val (.int pr), .val (.int wi), .val (.long (pr.toInt64)), .second, .val (.long (wi.toInt64)), .second, .val (.long ((pr.toInt64) * (wi.toInt64))), .second, .val (.long (((76 : Int64) * (pr.toInt64)) + ((32 : Int64) * (wi.toInt64)))), .second, .val (.long ((9223372036854775807 : Int64) - (((76 : Int64) * (pr.toInt64)) + ((32 : Int64) * (wi.toInt64))))), .second, .val (.long v), .second] []))
    refine own_st (fun t k => XS.iloadN X0.here hx rfl (hb hby at_91) rfl k) ?_
    show own_G _ _ _ _ _ _ _ (s₁.setTop (mkF m 92 #[.val (.int p1), .val (.int p2), .val (.int p3), .val (.int pr), .val (.int wi), .val (.long (pr.toInt64)), .second, .val (.long (wi.toInt64)), .second, .val (.long ((pr.toInt64) * (wi.toInt64))), .second, .val (.long (((76 : Int64) * (pr.toInt64)) + ((32 : Int64) * (wi.toInt64)))), .second, .val (.long ((9223372036854775807 : Int64) - (((76 : Int64) * (pr.toInt64)) + ((32 : Int64) * (wi.toInt64))))), .second, .val (.long v), .second] [(.int pr)]))
    refine own_st (fun t k => XS.iload X0.here hx rfl (hb hby at_92) rfl k) ?_
    show own_G _ _ _ _ _ _ _ (s₁.setTop (mkF m 94 #[.val (.int p1), .val (.int p2), .val (.int p3), .val (.int pr), .val (.int wi), .val (.long (pr.toInt64)), .second, .val (.long (wi.toInt64)), .second, .val (.long ((pr.toInt64) * (wi.toInt64))), .second, .val (.long (((76 : Int64) * (pr.toInt64)) + ((32 : Int64) * (wi.toInt64)))), .second, .val (.long ((9223372036854775807 : Int64) - (((76 : Int64) * (pr.toInt64)) + ((32 : Int64) * (wi.toInt64))))), .second, .val (.long v), .second] [(.int wi), (.int pr)]))
    obtain ⟨_, _, ⟨T1, L1, k1, n1⟩, -, X1, ⟨Lc1, hQ1, l1, y1, z1⟩, st1⟩ := Jvm.LawKit.callS X0 hx (y := (⟨"com/example/matres/matres/core/CredibilityFilterModel", "leastBytes", "(II)J"⟩ : MethodName)) hown (mvT hZ (hw _ (List.mem_of_getElem? (i := 5) rfl))) (mvT hZ (hw _ (List.mem_of_getElem? (i := 6) rfl))) (mvT hZ (hw _ (List.mem_of_getElem? (i := 7) rfl))) (mvT hZ (hw _ (List.mem_of_getElem? (i := 8) rfl))) (by decide) (backOf (W := 0) (own_rm1 l Z a0 hw [] pr wi h0 n0 Z0) hZ (hw _ (List.mem_of_getElem? (i := 8) rfl)) (hw _ (List.mem_of_getElem? (i := 7) rfl)) (by decide) (by decide)) (g := (mkF m 94 #[.val (.int p1), .val (.int p2), .val (.int p3), .val (.int pr), .val (.int wi), .val (.long (pr.toInt64)), .second, .val (.long (wi.toInt64)), .second, .val (.long ((pr.toInt64) * (wi.toInt64))), .second, .val (.long (((76 : Int64) * (pr.toInt64)) + ((32 : Int64) * (wi.toInt64)))), .second, .val (.long ((9223372036854775807 : Int64) - (((76 : Int64) * (pr.toInt64)) + ((32 : Int64) * (wi.toInt64))))), .second, .val (.long v), .second] [(.int wi), (.int pr)])) rfl (by rw [hml]; rfl) (argsL := [(.int pr), (.int wi)]) (rest := []) (lenOf own_pd0 rfl) rfl (by show 2 * 0 + _ ≤ _; exact Nat.le_of_eq rfl) (hb hby at_94) (fun _ _ => ⟨rfl, e0, (by decide : 0 + 0 ≤ _), (by decide : 0 + 0 ≤ _)⟩)
    dsimp only [Pt.U, Pt.locs, Pt.cells, Pt.slots] at X1 l1 y1 z1 st1 hQ1
    subst l1 y1 z1
    obtain ⟨rfl, N1q, e1⟩ := hQ1
    have N1 := Fr.app N0 N1q
    refine own_st (fun t k => st1 t k) ?_
    show own_G _ _ _ _ _ _ _ (T1.setTop (mkF m 97 #[.val (.int p1), .val (.int p2), .val (.int p3), .val (.int pr), .val (.int wi), .val (.long (pr.toInt64)), .second, .val (.long (wi.toInt64)), .second, .val (.long ((pr.toInt64) * (wi.toInt64))), .second, .val (.long (((76 : Int64) * (pr.toInt64)) + ((32 : Int64) * (wi.toInt64)))), .second, .val (.long ((9223372036854775807 : Int64) - (((76 : Int64) * (pr.toInt64)) + ((32 : Int64) * (wi.toInt64))))), .second, .val (.long v), .second] [(.long (own_lb 9223372036854775807 pr wi))]))
    refine own_st (fun t k => XS.lload X1.here hx rfl (hb hby at_97) rfl k) ?_
    show own_G _ _ _ _ _ _ _ (T1.setTop (mkF m 99 #[.val (.int p1), .val (.int p2), .val (.int p3), .val (.int pr), .val (.int wi), .val (.long (pr.toInt64)), .second, .val (.long (wi.toInt64)), .second, .val (.long ((pr.toInt64) * (wi.toInt64))), .second, .val (.long (((76 : Int64) * (pr.toInt64)) + ((32 : Int64) * (wi.toInt64)))), .second, .val (.long ((9223372036854775807 : Int64) - (((76 : Int64) * (pr.toInt64)) + ((32 : Int64) * (wi.toInt64))))), .second, .val (.long v), .second] [(.long v), (.long (own_lb 9223372036854775807 pr wi))]))
    refine own_st (fun t k => XS.lcmp X1.here hx rfl (hb hby at_99) rfl k) ?_
    show own_G _ _ _ _ _ _ _ (T1.setTop (mkF m 100 #[.val (.int p1), .val (.int p2), .val (.int p3), .val (.int pr), .val (.int wi), .val (.long (pr.toInt64)), .second, .val (.long (wi.toInt64)), .second, .val (.long ((pr.toInt64) * (wi.toInt64))), .second, .val (.long (((76 : Int64) * (pr.toInt64)) + ((32 : Int64) * (wi.toInt64)))), .second, .val (.long ((9223372036854775807 : Int64) - (((76 : Int64) * (pr.toInt64)) + ((32 : Int64) * (wi.toInt64))))), .second, .val (.long v), .second] [(.int (lcmpW (own_lb 9223372036854775807 pr wi) v))]))
    refine own_st (fun t k => XS.ifNo X1.here hx rfl (hb hby at_100) rfl ((if0 _ _).trans (teq ((lw_eq _ _).mpr hv.symm)).2) k) ?_
    show own_G _ _ _ _ _ _ _ (T1.setTop (mkF m 103 #[.val (.int p1), .val (.int p2), .val (.int p3), .val (.int pr), .val (.int wi), .val (.long (pr.toInt64)), .second, .val (.long (wi.toInt64)), .second, .val (.long ((pr.toInt64) * (wi.toInt64))), .second, .val (.long (((76 : Int64) * (pr.toInt64)) + ((32 : Int64) * (wi.toInt64)))), .second, .val (.long ((9223372036854775807 : Int64) - (((76 : Int64) * (pr.toInt64)) + ((32 : Int64) * (wi.toInt64))))), .second, .val (.long v), .second] []))
    refine own_st (fun t k => XS.iconst X1.here hx rfl (hb hby at_103) k) ?_
    show own_G _ _ _ _ _ _ _ (T1.setTop (mkF m 104 #[.val (.int p1), .val (.int p2), .val (.int p3), .val (.int pr), .val (.int wi), .val (.long (pr.toInt64)), .second, .val (.long (wi.toInt64)), .second, .val (.long ((pr.toInt64) * (wi.toInt64))), .second, .val (.long (((76 : Int64) * (pr.toInt64)) + ((32 : Int64) * (wi.toInt64)))), .second, .val (.long ((9223372036854775807 : Int64) - (((76 : Int64) * (pr.toInt64)) + ((32 : Int64) * (wi.toInt64))))), .second, .val (.long v), .second] [(.int (1 : Int32))]))
    refine own_st (fun t k => XS.goto X1.here hx rfl (pc0 := 104) (pc' := 108) rfl (hb hby at_104) (by decide) (by decide) k) ?_
    show own_G _ _ _ _ _ _ _ (T1.setTop (mkF m 108 #[.val (.int p1), .val (.int p2), .val (.int p3), .val (.int pr), .val (.int wi), .val (.long (pr.toInt64)), .second, .val (.long (wi.toInt64)), .second, .val (.long ((pr.toInt64) * (wi.toInt64))), .second, .val (.long (((76 : Int64) * (pr.toInt64)) + ((32 : Int64) * (wi.toInt64)))), .second, .val (.long ((9223372036854775807 : Int64) - (((76 : Int64) * (pr.toInt64)) + ((32 : Int64) * (wi.toInt64))))), .second, .val (.long v), .second] [(.int (1 : Int32))]))
    exact own_retN (t := .boolean) (by simp) X1 hx Bd.returns (BodyLoose.notSynchronized Bd) (hb hby at_108) (by decide) (by decide) ⟨rfl, N1⟩
  have pl := own_plain 9223372036854775807 (by decide) pr wi hp hq
  refine own_st (fun t k => XS.lload X0.here hx rfl (hb hby at_62) rfl k) ?_
  show own_G _ _ _ _ _ _ _ (s₁.setTop (mkF m 64 #[.val (.int p1), .val (.int p2), .val (.int p3), .val (.int pr), .val (.int wi), .val (.long (pr.toInt64)), .second, .val (.long (wi.toInt64)), .second, .val (.long ((pr.toInt64) * (wi.toInt64))), .second, .val (.long (((76 : Int64) * (pr.toInt64)) + ((32 : Int64) * (wi.toInt64)))), .second, .val (.long ((9223372036854775807 : Int64) - (((76 : Int64) * (pr.toInt64)) + ((32 : Int64) * (wi.toInt64))))), .second, .unset, .unset] [(.long ((pr.toInt64) * (wi.toInt64)))]))
  refine own_st (fun t k => XS.lload X0.here hx rfl (hb hby at_64) rfl k) ?_
  show own_G _ _ _ _ _ _ _ (s₁.setTop (mkF m 66 #[.val (.int p1), .val (.int p2), .val (.int p3), .val (.int pr), .val (.int wi), .val (.long (pr.toInt64)), .second, .val (.long (wi.toInt64)), .second, .val (.long ((pr.toInt64) * (wi.toInt64))), .second, .val (.long (((76 : Int64) * (pr.toInt64)) + ((32 : Int64) * (wi.toInt64)))), .second, .val (.long ((9223372036854775807 : Int64) - (((76 : Int64) * (pr.toInt64)) + ((32 : Int64) * (wi.toInt64))))), .second, .unset, .unset] [(.long ((9223372036854775807 : Int64) - (((76 : Int64) * (pr.toInt64)) + ((32 : Int64) * (wi.toInt64))))), (.long ((pr.toInt64) * (wi.toInt64)))]))
  refine own_st (fun t k => X0.ldc2Long hx hown (mvT hZ (hw _ (List.mem_of_getElem? (i := 4) rfl))) (g := (mkF m 66 #[.val (.int p1), .val (.int p2), .val (.int p3), .val (.int pr), .val (.int wi), .val (.long (pr.toInt64)), .second, .val (.long (wi.toInt64)), .second, .val (.long ((pr.toInt64) * (wi.toInt64))), .second, .val (.long (((76 : Int64) * (pr.toInt64)) + ((32 : Int64) * (wi.toInt64)))), .second, .val (.long ((9223372036854775807 : Int64) - (((76 : Int64) * (pr.toInt64)) + ((32 : Int64) * (wi.toInt64))))), .second, .unset, .unset] [(.long ((9223372036854775807 : Int64) - (((76 : Int64) * (pr.toInt64)) + ((32 : Int64) * (wi.toInt64))))), (.long ((pr.toInt64) * (wi.toInt64)))])) rfl (hb hby at_66) t k) ?_
  show own_G _ _ _ _ _ _ _ (s₁.setTop (mkF m 69 #[.val (.int p1), .val (.int p2), .val (.int p3), .val (.int pr), .val (.int wi), .val (.long (pr.toInt64)), .second, .val (.long (wi.toInt64)), .second, .val (.long ((pr.toInt64) * (wi.toInt64))), .second, .val (.long (((76 : Int64) * (pr.toInt64)) + ((32 : Int64) * (wi.toInt64)))), .second, .val (.long ((9223372036854775807 : Int64) - (((76 : Int64) * (pr.toInt64)) + ((32 : Int64) * (wi.toInt64))))), .second, .unset, .unset] [(.long (16 : Int64)), (.long ((9223372036854775807 : Int64) - (((76 : Int64) * (pr.toInt64)) + ((32 : Int64) * (wi.toInt64))))), (.long ((pr.toInt64) * (wi.toInt64)))]))
  refine own_st (fun t k => XS.ldiv X0.here hx rfl (hb hby at_69) rfl (by decide) k) ?_
  show own_G _ _ _ _ _ _ _ (s₁.setTop (mkF m 70 #[.val (.int p1), .val (.int p2), .val (.int p3), .val (.int pr), .val (.int wi), .val (.long (pr.toInt64)), .second, .val (.long (wi.toInt64)), .second, .val (.long ((pr.toInt64) * (wi.toInt64))), .second, .val (.long (((76 : Int64) * (pr.toInt64)) + ((32 : Int64) * (wi.toInt64)))), .second, .val (.long ((9223372036854775807 : Int64) - (((76 : Int64) * (pr.toInt64)) + ((32 : Int64) * (wi.toInt64))))), .second, .unset, .unset] [(.long (((9223372036854775807 : Int64) - (((76 : Int64) * (pr.toInt64)) + ((32 : Int64) * (wi.toInt64)))) / (16 : Int64))), (.long ((pr.toInt64) * (wi.toInt64)))]))
  refine own_st (fun t k => XS.lcmp X0.here hx rfl (hb hby at_70) rfl k) ?_
  show own_G _ _ _ _ _ _ _ (s₁.setTop (mkF m 71 #[.val (.int p1), .val (.int p2), .val (.int p3), .val (.int pr), .val (.int wi), .val (.long (pr.toInt64)), .second, .val (.long (wi.toInt64)), .second, .val (.long ((pr.toInt64) * (wi.toInt64))), .second, .val (.long (((76 : Int64) * (pr.toInt64)) + ((32 : Int64) * (wi.toInt64)))), .second, .val (.long ((9223372036854775807 : Int64) - (((76 : Int64) * (pr.toInt64)) + ((32 : Int64) * (wi.toInt64))))), .second, .unset, .unset] [(.int (lcmpW ((pr.toInt64) * (wi.toInt64)) (((9223372036854775807 : Int64) - (((76 : Int64) * (pr.toInt64)) + ((32 : Int64) * (wi.toInt64)))) / (16 : Int64))))]))
  by_cases hc : (0 : Int32) < (lcmpW ((pr.toInt64) * (wi.toInt64)) (((9223372036854775807 : Int64) - (((76 : Int64) * (pr.toInt64)) + ((32 : Int64) * (wi.toInt64)))) / (16 : Int64)))
  · refine own_st (fun t k => XS.ifYes X0.here hx rfl (pc0 := 71) (pc' := 86) rfl (hb hby at_71) rfl ((if0 _ _).trans (tlt hc).2.2.1) (by decide) (by decide) k) ?_
    show own_G _ _ _ _ _ _ _ (s₁.setTop (mkF m 86 #[.val (.int p1), .val (.int p2), .val (.int p3), .val (.int pr), .val (.int wi), .val (.long (pr.toInt64)), .second, .val (.long (wi.toInt64)), .second, .val (.long ((pr.toInt64) * (wi.toInt64))), .second, .val (.long (((76 : Int64) * (pr.toInt64)) + ((32 : Int64) * (wi.toInt64)))), .second, .val (.long ((9223372036854775807 : Int64) - (((76 : Int64) * (pr.toInt64)) + ((32 : Int64) * (wi.toInt64))))), .second, .unset, .unset] []))
    refine own_st (fun t k => X0.ldc2Long hx hown (mvT hZ (hw _ (List.mem_of_getElem? (i := 3) rfl))) (g := (mkF m 86 #[.val (.int p1), .val (.int p2), .val (.int p3), .val (.int pr), .val (.int wi), .val (.long (pr.toInt64)), .second, .val (.long (wi.toInt64)), .second, .val (.long ((pr.toInt64) * (wi.toInt64))), .second, .val (.long (((76 : Int64) * (pr.toInt64)) + ((32 : Int64) * (wi.toInt64)))), .second, .val (.long ((9223372036854775807 : Int64) - (((76 : Int64) * (pr.toInt64)) + ((32 : Int64) * (wi.toInt64))))), .second, .unset, .unset] [])) rfl (hb hby at_86) t k) ?_
    show own_G _ _ _ _ _ _ _ (s₁.setTop (mkF m 89 #[.val (.int p1), .val (.int p2), .val (.int p3), .val (.int pr), .val (.int wi), .val (.long (pr.toInt64)), .second, .val (.long (wi.toInt64)), .second, .val (.long ((pr.toInt64) * (wi.toInt64))), .second, .val (.long (((76 : Int64) * (pr.toInt64)) + ((32 : Int64) * (wi.toInt64)))), .second, .val (.long ((9223372036854775807 : Int64) - (((76 : Int64) * (pr.toInt64)) + ((32 : Int64) * (wi.toInt64))))), .second, .unset, .unset] [(.long (9223372036854775807 : Int64))]))
    exact J _ (pl.1 hc)
  · refine own_st (fun t k => XS.ifNo X0.here hx rfl (hb hby at_71) rfl ((if0 _ _).trans (flt hc).2.2.1) k) ?_
    show own_G _ _ _ _ _ _ _ (s₁.setTop (mkF m 74 #[.val (.int p1), .val (.int p2), .val (.int p3), .val (.int pr), .val (.int wi), .val (.long (pr.toInt64)), .second, .val (.long (wi.toInt64)), .second, .val (.long ((pr.toInt64) * (wi.toInt64))), .second, .val (.long (((76 : Int64) * (pr.toInt64)) + ((32 : Int64) * (wi.toInt64)))), .second, .val (.long ((9223372036854775807 : Int64) - (((76 : Int64) * (pr.toInt64)) + ((32 : Int64) * (wi.toInt64))))), .second, .unset, .unset] []))
    refine own_st (fun t k => XS.lload X0.here hx rfl (hb hby at_74) rfl k) ?_
    show own_G _ _ _ _ _ _ _ (s₁.setTop (mkF m 76 #[.val (.int p1), .val (.int p2), .val (.int p3), .val (.int pr), .val (.int wi), .val (.long (pr.toInt64)), .second, .val (.long (wi.toInt64)), .second, .val (.long ((pr.toInt64) * (wi.toInt64))), .second, .val (.long (((76 : Int64) * (pr.toInt64)) + ((32 : Int64) * (wi.toInt64)))), .second, .val (.long ((9223372036854775807 : Int64) - (((76 : Int64) * (pr.toInt64)) + ((32 : Int64) * (wi.toInt64))))), .second, .unset, .unset] [(.long (((76 : Int64) * (pr.toInt64)) + ((32 : Int64) * (wi.toInt64))))]))
    refine own_st (fun t k => X0.ldc2Long hx hown (mvT hZ (hw _ (List.mem_of_getElem? (i := 4) rfl))) (g := (mkF m 76 #[.val (.int p1), .val (.int p2), .val (.int p3), .val (.int pr), .val (.int wi), .val (.long (pr.toInt64)), .second, .val (.long (wi.toInt64)), .second, .val (.long ((pr.toInt64) * (wi.toInt64))), .second, .val (.long (((76 : Int64) * (pr.toInt64)) + ((32 : Int64) * (wi.toInt64)))), .second, .val (.long ((9223372036854775807 : Int64) - (((76 : Int64) * (pr.toInt64)) + ((32 : Int64) * (wi.toInt64))))), .second, .unset, .unset] [(.long (((76 : Int64) * (pr.toInt64)) + ((32 : Int64) * (wi.toInt64))))])) rfl (hb hby at_76) t k) ?_
    show own_G _ _ _ _ _ _ _ (s₁.setTop (mkF m 79 #[.val (.int p1), .val (.int p2), .val (.int p3), .val (.int pr), .val (.int wi), .val (.long (pr.toInt64)), .second, .val (.long (wi.toInt64)), .second, .val (.long ((pr.toInt64) * (wi.toInt64))), .second, .val (.long (((76 : Int64) * (pr.toInt64)) + ((32 : Int64) * (wi.toInt64)))), .second, .val (.long ((9223372036854775807 : Int64) - (((76 : Int64) * (pr.toInt64)) + ((32 : Int64) * (wi.toInt64))))), .second, .unset, .unset] [(.long (16 : Int64)), (.long (((76 : Int64) * (pr.toInt64)) + ((32 : Int64) * (wi.toInt64))))]))
    refine own_st (fun t k => XS.lload X0.here hx rfl (hb hby at_79) rfl k) ?_
    show own_G _ _ _ _ _ _ _ (s₁.setTop (mkF m 81 #[.val (.int p1), .val (.int p2), .val (.int p3), .val (.int pr), .val (.int wi), .val (.long (pr.toInt64)), .second, .val (.long (wi.toInt64)), .second, .val (.long ((pr.toInt64) * (wi.toInt64))), .second, .val (.long (((76 : Int64) * (pr.toInt64)) + ((32 : Int64) * (wi.toInt64)))), .second, .val (.long ((9223372036854775807 : Int64) - (((76 : Int64) * (pr.toInt64)) + ((32 : Int64) * (wi.toInt64))))), .second, .unset, .unset] [(.long ((pr.toInt64) * (wi.toInt64))), (.long (16 : Int64)), (.long (((76 : Int64) * (pr.toInt64)) + ((32 : Int64) * (wi.toInt64))))]))
    refine own_st (fun t k => XS.lmul X0.here hx rfl (hb hby at_81) rfl k) ?_
    show own_G _ _ _ _ _ _ _ (s₁.setTop (mkF m 82 #[.val (.int p1), .val (.int p2), .val (.int p3), .val (.int pr), .val (.int wi), .val (.long (pr.toInt64)), .second, .val (.long (wi.toInt64)), .second, .val (.long ((pr.toInt64) * (wi.toInt64))), .second, .val (.long (((76 : Int64) * (pr.toInt64)) + ((32 : Int64) * (wi.toInt64)))), .second, .val (.long ((9223372036854775807 : Int64) - (((76 : Int64) * (pr.toInt64)) + ((32 : Int64) * (wi.toInt64))))), .second, .unset, .unset] [(.long ((16 : Int64) * ((pr.toInt64) * (wi.toInt64)))), (.long (((76 : Int64) * (pr.toInt64)) + ((32 : Int64) * (wi.toInt64))))]))
    refine own_st (fun t k => XS.ladd X0.here hx rfl (hb hby at_82) rfl k) ?_
    show own_G _ _ _ _ _ _ _ (s₁.setTop (mkF m 83 #[.val (.int p1), .val (.int p2), .val (.int p3), .val (.int pr), .val (.int wi), .val (.long (pr.toInt64)), .second, .val (.long (wi.toInt64)), .second, .val (.long ((pr.toInt64) * (wi.toInt64))), .second, .val (.long (((76 : Int64) * (pr.toInt64)) + ((32 : Int64) * (wi.toInt64)))), .second, .val (.long ((9223372036854775807 : Int64) - (((76 : Int64) * (pr.toInt64)) + ((32 : Int64) * (wi.toInt64))))), .second, .unset, .unset] [(.long ((((76 : Int64) * (pr.toInt64)) + ((32 : Int64) * (wi.toInt64))) + ((16 : Int64) * ((pr.toInt64) * (wi.toInt64)))))]))
    refine own_st (fun t k => XS.goto X0.here hx rfl (pc0 := 83) (pc' := 89) rfl (hb hby at_83) (by decide) (by decide) k) ?_
    show own_G _ _ _ _ _ _ _ (s₁.setTop (mkF m 89 #[.val (.int p1), .val (.int p2), .val (.int p3), .val (.int pr), .val (.int wi), .val (.long (pr.toInt64)), .second, .val (.long (wi.toInt64)), .second, .val (.long ((pr.toInt64) * (wi.toInt64))), .second, .val (.long (((76 : Int64) * (pr.toInt64)) + ((32 : Int64) * (wi.toInt64)))), .second, .val (.long ((9223372036854775807 : Int64) - (((76 : Int64) * (pr.toInt64)) + ((32 : Int64) * (wi.toInt64))))), .second, .unset, .unset] [(.long ((((76 : Int64) * (pr.toInt64)) + ((32 : Int64) * (wi.toInt64))) + ((16 : Int64) * ((pr.toInt64) * (wi.toInt64)))))]))
    exact J _ (pl.2 hc)
set_option maxRecDepth 65536 in
set_option maxHeartbeats 40000000 in
theorem own_comes {Post : Tables → Env → Array Value → State → Outcome → State → Prop} (hpost : ∀ tb e args s v u, (limb_1_1.after args s (.returned v) u = true ∧ limb_1_2.after args s (.returned v) u = true ∧ True) → FrameEnd s (.returned v) u (Jvm.fieldLocs frame_1_writes args s ++ Jvm.arrayLocs frame_1_arrays args s ++ Jvm.staticLocs frame_1_statics s) 0 0 → Post tb e args s (.returned v) u) :
    ArmFor flags0 classFile x code maxLocals ret World_1 tables_1 room_1 Calls_1 rest_1 Pre_1 Post := by
  intro l hfl _ _ p e ha hc hk s m args below hf hA hF happ hP
  obtain ⟨hcalls, hrest, hpre⟩ := hP
  obtain ⟨-, -, -, hnamed, -, -, -, hat⟩ := (Spec.applies_iff hf).mp happ
  obtain ⟨hg, hn⟩ := and_e (Cond.before_iff.mp (show (Jvm.Cond.and given_1 narrow_1).before args s = true from hpre))
  obtain ⟨gc, ga0⟩ := and_e hg
  obtain ⟨gi0, ga1⟩ := and_e ga0
  obtain ⟨gi1, ga2⟩ := and_e ga1
  obtain ⟨w0, w1, w2, rfl⟩ : ∃ w0 w1 w2 : Value, args = #[w0, w1, w2] := by
    have hs : args.size = 3 := by simpa [Cond.value, given_1] using gc
    obtain ⟨L⟩ := args
    match L, hs with
    | [w0, w1, w2], _ => exact ⟨w0, w1, w2, rfl⟩
  have hw := fun d (hd : d ∈ tables_1) => atoms_spec (ws := Jvm.Cond.code x code maxLocals ret :: tables_1) hat d (List.mem_cons_of_mem _ hd)
  have hfit : Fit s := fun {y c} hc i hi => by
    obtain ⟨ha, rfl⟩ := Array.getElem?_eq_some_iff.mp hc
    have q := List.all_eq_true.mp ((Array.all_eq_true_iff_forall_mem.mp hF) _ (Array.getElem_mem ha)) i (List.mem_range.mpr hi)
    simpa [Array.getElem?_eq_getElem hi] using q
  obtain ⟨i0, ei0⟩ := is_v gi0
  obtain rfl : w0 = (.int i0) := Option.some.inj ei0
  obtain ⟨i1, ei1⟩ := is_v gi1
  obtain rfl : w1 = (.int i1) := Option.some.inj ei1
  obtain ⟨i2, ei2⟩ := is_v ga2
  obtain rfl : w2 = (.int i2) := Option.some.inj ei2
  obtain ⟨n, o, h1, h2, h3, _, L, rfl, ⟨rfl, N⟩, hq⟩ := own_rm0 l s _ hw tables_1 i0 i1 i2 s.heap s.heap.size (Nat.le_refl _)  p e ha hc hk s m _ below hf ((Spec.applies_iff_loose hf).mp happ).1 ⟨rfl, State.Warmed39.refl s, rfl⟩ trivial
  refine ⟨n, _, h1, h2, h3, hpost _ _ _ _ _ _ ⟨Cond.after_iff.mpr rfl, Cond.after_iff.mpr (eq_i res_at (Term.int_eval (1)) rfl), trivial⟩ ⟨hq.1, hq.2.1, (hq.2.2.sift fun y hy => Or.inr (N y hy)).mono (by decide) (by decide)⟩⟩
theorem main_1_1 : Claimed_1_1 := own_comes fun _ _ _ _ _ _ h hF => ⟨h.1, hF⟩
theorem main_1_2 : Claimed_1_2 := own_comes fun _ _ _ _ _ _ h hF => ⟨h.2.1, hF⟩
end Jvm.Pilot.@@N@@
namespace Jvm.Pilot.@@N@@
open Jvm Jvm.ClassFile Sem Op Lib Jvm.Free Jvm.Stand Jvm.Pilot.@@N@@.Jvm.D
/-! MADE BY PROGRAM (witnessworld.py) out of the Statement's table words and the real class files: 11 classes; the members and pool entries that the words name. The judged class is class 1, her method 1. -/
namespace start1
open Jvm.ClassFile
def u (s : String) : CpInfo := .utf8 (stringToUtf16 s)
/-- a pool by its gaps: so many unusable entries, then the entry; so many at the end -/
def gap : Nat → List CpInfo → List CpInfo
  | 0, r => r
  | n + 1, r => .unusable :: gap n r
def poolList (es : List (Nat × CpInfo)) (last : Nat) : List CpInfo := es.foldr (fun e r => gap e.1 (e.2 :: r)) (gap last [])
def pool (es : List (Nat × CpInfo)) (last : Nat) : Array CpInfo := ⟨poolList es last⟩
def fileOf (pool : Array CpInfo) (this : Nat) (attrs : Array Attribute := #[]) (ms : Array MethodInfo := #[]) (fl : Nat := 33) (sup : Nat := 0) (ifs : Array Nat := #[]) (fds : Array FieldInfo := #[]) : ClassFile where
  minorVersion := 0
  majorVersion := 65
  constantPool := pool
  accessFlags := fl
  thisClass := this
  superClass := sup
  interfaces := ifs
  fields := fds
  methods := ms
  attributes := attrs
def plain (name : String) (sup : Option ClassId) : Class where
  name := name
  kind := .ordinary
  loader := none
  accessFlags := 33
  super := sup
  interfaces := #[]
  cf := none
  fields := #[]
  methods := #[]
  instanceTypes := #[]
  staticTypes := #[]
  resolved := #[]
  callSites := []
  init := .initialized
  statics := none
  mirror := none

def pool0 : Array CpInfo := pool [(5, u "<init>"), (0, u "()V"), (1, .class_ 10), (1, u "java/lang/Object")] 113

def k0m0 : Method := { name := "<init>", desc := "()V", sig := { parameters := [], returnType := none }, accessFlags := 1, code := none }
/-- java/lang/Object -/
def k0 : Class := { plain "java/lang/Object" none with
  accessFlags := 33
  interfaces := #[]
  cf := some (fileOf pool0 8 #[] #[{ accessFlags := 1, nameIndex := 5, descriptorIndex := 6, attributes := #[] }] 33 0 #[] #[])
  fields := #[]
  methods := #[k0m0]
  instanceTypes := #[]
  staticTypes := #[]
  resolved := Array.replicate 124 none
  statics := none }

def pool1 : Array CpInfo := pool [(2, .class_ 4), (1, u "java/lang/Object"), (0, u "<init>"), (0, u "()V"), (0, .integer 2147483647), (0, .long 76), (1, .long 32), (3, .long 9223372036854775807), (1, .long 16), (1, .methodref 19 20), (0, .class_ 21), (0, .nameAndType 22 23), (0, u "com/example/matres/matres/core/CredibilityFilterModel"), (0, u "leastBytes"), (0, u "(II)J"), (0, .class_ 25), (0, u "com/example/matres/matres/core/CredibilityFilterModelLeastBytesPinLaw"), (2, u "law"), (0, u "(III)Z")] 3

def k1m0 : Method := { name := "<init>", desc := "()V", sig := { parameters := [], returnType := none }, accessFlags := 2, code := none }
def k1c1 : Code := { maxStack := 6, maxLocals := 17, code := code, exceptionTable := #[], attributes := #[] }
def k1m1 : Method := { name := "law", desc := "(III)Z", sig := { parameters := [.int, .int, .int], returnType := some .boolean }, accessFlags := 9, code := some k1c1 }
/-- com/example/matres/matres/core/CredibilityFilterModelLeastBytesPinLaw -/
def k1 : Class := { plain "com/example/matres/matres/core/CredibilityFilterModelLeastBytesPinLaw" (some 0) with
  accessFlags := 49
  interfaces := #[]
  cf := some (fileOf pool1 24 #[] #[{ accessFlags := 2, nameIndex := 5, descriptorIndex := 6, attributes := #[] }, { accessFlags := 9, nameIndex := 28, descriptorIndex := 29, attributes := #[] }] 49 2 #[] #[])
  fields := #[]
  methods := #[k1m0, k1m1]
  instanceTypes := #[]
  staticTypes := #[]
  resolved := Array.replicate 33 none
  statics := none }

def pool2 : Array CpInfo := pool [(1, .class_ 2), (0, u "com/example/matres/matres/core/TrustModel"), (0, .class_ 4), (0, u "java/lang/Object")] 6

/-- com/example/matres/matres/core/TrustModel -/
def k2 : Class := { plain "com/example/matres/matres/core/TrustModel" (some 0) with
  accessFlags := 1537
  interfaces := #[]
  cf := some (fileOf pool2 1 #[] #[] 1537 3 #[] #[])
  fields := #[]
  methods := #[]
  instanceTypes := #[]
  staticTypes := #[]
  resolved := Array.replicate 11 none
  statics := none }

def pool3 : Array CpInfo := pool [(2, .class_ 4), (1, u "com/example/matres/matres/core/ReputationModel"), (22, .class_ 28), (0, u "java/lang/Object"), (0, .class_ 30), (0, u "com/example/matres/matres/core/TrustModel")] 40

/-- com/example/matres/matres/core/ReputationModel -/
def k3 : Class := { plain "com/example/matres/matres/core/ReputationModel" (some 0) with
  accessFlags := 1537
  interfaces := #[2]
  cf := some (fileOf pool3 2 #[] #[] 1537 27 #[29] #[])
  fields := #[]
  methods := #[]
  instanceTypes := #[]
  staticTypes := #[]
  resolved := Array.replicate 71 none
  statics := none }

def pool4 : Array CpInfo := pool [(6, .class_ 8), (1, u "java/lang/Object"), (5, .class_ 16), (1, u "com/example/matres/matres/core/CredibilityFilterModel"), (0, u "now"), (0, u "D"), (13, u "witnesses"), (19, u "filter"), (0, u "Lcom/example/matres/matres/core/CredibilityFilter;"), (5, u "providers"), (0, u "Lcom/example/matres/matres/core/IdSlots;"), (4, u "dealings"), (0, u "[Lcom/example/matres/matres/core/Dealings;"), (4, u "reportedRatings"), (0, u "[D"), (2, u "reportedTimes"), (11, u "recorded"), (0, u "J"), (5, .long 76), (1, .long 32), (1, .long 16), (3, .long 9223372036854775807), (72, .class_ 176), (0, u "com/example/matres/matres/core/CredibilityFilterModel$Weighing"), (38, .class_ 216), (0, u "com/example/matres/matres/core/CredibilityFilterModel$Hearing"), (54, .class_ 273), (1, u "com/example/matres/matres/core/CredibilityFilterModel$Credibilities"), (101, u "PARAMETERS"), (0, u "Ljava/util/List;"), (0, .class_ 378), (0, u "com/example/matres/matres/core/ReputationModel"), (0, u "THRESHOLD"), (0, u "Ljava/lang/String;"), (1, u "WITNESSES"), (0, u "DECAY"), (2, u "REFERENCE_BYTES"), (0, u "I"), (1, u "REPORT_BYTES"), (1, u "FIRST_PROVIDERS"), (1, u "FIRST_WITNESSES"), (0, u "NO_REPORT"), (5, u "leastBytes"), (0, u "(II)J"), (23, .class_ 426), (0, u "com/example/matres/matres/core/CredibilityFilterModel$OwnTrust"), (0, .class_ 428), (0, u "com/example/matres/matres/core/CredibilityFilterModel$Agreeing")] 8

def k4c0 : Code := { maxStack := 6, maxLocals := 8, code := prog_44_method_3_code, exceptionTable := #[], attributes := #[] }
def k4m0 : Method := { name := "leastBytes", desc := "(II)J", sig := { parameters := [.int, .int], returnType := some .long }, accessFlags := 8, code := some k4c0 }
/-- com/example/matres/matres/core/CredibilityFilterModel -/
def k4 : Class := { plain "com/example/matres/matres/core/CredibilityFilterModel" (some 0) with
  accessFlags := 33
  interfaces := #[3]
  cf := some (fileOf pool4 14 #[.nestMembers #[425, 215, 427, 175, 271]] #[{ accessFlags := 8, nameIndex := 400, descriptorIndex := 401, attributes := #[] }] 33 6 #[377] #[{ accessFlags := 26, nameIndex := 379, descriptorIndex := 380, attributes := #[] }, { accessFlags := 26, nameIndex := 382, descriptorIndex := 380, attributes := #[] }, { accessFlags := 26, nameIndex := 383, descriptorIndex := 380, attributes := #[] }, { accessFlags := 24, nameIndex := 375, descriptorIndex := 376, attributes := #[] }, { accessFlags := 26, nameIndex := 386, descriptorIndex := 387, attributes := #[] }, { accessFlags := 26, nameIndex := 389, descriptorIndex := 387, attributes := #[] }, { accessFlags := 26, nameIndex := 391, descriptorIndex := 387, attributes := #[] }, { accessFlags := 26, nameIndex := 393, descriptorIndex := 387, attributes := #[] }, { accessFlags := 26, nameIndex := 394, descriptorIndex := 18, attributes := #[] }, { accessFlags := 18, nameIndex := 52, descriptorIndex := 53, attributes := #[] }, { accessFlags := 18, nameIndex := 59, descriptorIndex := 60, attributes := #[] }, { accessFlags := 2, nameIndex := 65, descriptorIndex := 66, attributes := #[] }, { accessFlags := 2, nameIndex := 17, descriptorIndex := 18, attributes := #[] }, { accessFlags := 2, nameIndex := 87, descriptorIndex := 88, attributes := #[] }, { accessFlags := 18, nameIndex := 32, descriptorIndex := 60, attributes := #[] }, { accessFlags := 2, nameIndex := 71, descriptorIndex := 72, attributes := #[] }, { accessFlags := 2, nameIndex := 75, descriptorIndex := 72, attributes := #[] }])
  fields := #[{ name := "THRESHOLD", type := (.object "java/lang/String"), accessFlags := 26, slot := 0, constantValue := 0 }, { name := "WITNESSES", type := (.object "java/lang/String"), accessFlags := 26, slot := 1, constantValue := 0 }, { name := "DECAY", type := (.object "java/lang/String"), accessFlags := 26, slot := 2, constantValue := 0 }, { name := "PARAMETERS", type := (.object "java/util/List"), accessFlags := 24, slot := 3, constantValue := 0 }, { name := "REFERENCE_BYTES", type := .int, accessFlags := 26, slot := 4, constantValue := 0 }, { name := "REPORT_BYTES", type := .int, accessFlags := 26, slot := 5, constantValue := 0 }, { name := "FIRST_PROVIDERS", type := .int, accessFlags := 26, slot := 6, constantValue := 0 }, { name := "FIRST_WITNESSES", type := .int, accessFlags := 26, slot := 7, constantValue := 0 }, { name := "NO_REPORT", type := .double, accessFlags := 26, slot := 8, constantValue := 0 }, { name := "filter", type := (.object "com/example/matres/matres/core/CredibilityFilter"), accessFlags := 18, slot := 0, constantValue := 0 }, { name := "providers", type := (.object "com/example/matres/matres/core/IdSlots"), accessFlags := 18, slot := 1, constantValue := 0 }, { name := "dealings", type := (.array (.object "com/example/matres/matres/core/Dealings")), accessFlags := 2, slot := 2, constantValue := 0 }, { name := "now", type := .double, accessFlags := 2, slot := 3, constantValue := 0 }, { name := "recorded", type := .long, accessFlags := 2, slot := 4, constantValue := 0 }, { name := "witnesses", type := (.object "com/example/matres/matres/core/IdSlots"), accessFlags := 18, slot := 5, constantValue := 0 }, { name := "reportedRatings", type := (.array .double), accessFlags := 2, slot := 6, constantValue := 0 }, { name := "reportedTimes", type := (.array .double), accessFlags := 2, slot := 7, constantValue := 0 }]
  methods := #[k4m0]
  instanceTypes := #[(.object "com/example/matres/matres/core/CredibilityFilter"), (.object "com/example/matres/matres/core/IdSlots"), (.array (.object "com/example/matres/matres/core/Dealings")), .double, .long, (.object "com/example/matres/matres/core/IdSlots"), (.array .double), (.array .double)]
  staticTypes := #[(.object "java/lang/String"), (.object "java/lang/String"), (.object "java/lang/String"), (.object "java/util/List"), .int, .int, .int, .int, .double]
  resolved := Array.replicate 437 none
  statics := none }

def pool5 : Array CpInfo := pool [(1, u "java/lang/Cloneable"), (0, .class_ 1), (0, u "java/lang/Object"), (0, .class_ 3)] 3

/-- java/lang/Cloneable -/
def k5 : Class := { plain "java/lang/Cloneable" (some 0) with
  accessFlags := 1537
  interfaces := #[]
  cf := some (fileOf pool5 2 #[] #[] 1537 4 #[] #[])
  fields := #[]
  methods := #[]
  instanceTypes := #[]
  staticTypes := #[]
  resolved := Array.replicate 8 none
  statics := none }

def pool6 : Array CpInfo := pool [(1, u "java/io/Serializable"), (0, .class_ 1), (0, u "java/lang/Object"), (0, .class_ 3)] 3

/-- java/io/Serializable -/
def k6 : Class := { plain "java/io/Serializable" (some 0) with
  accessFlags := 1537
  interfaces := #[]
  cf := some (fileOf pool6 2 #[] #[] 1537 4 #[] #[])
  fields := #[]
  methods := #[]
  instanceTypes := #[]
  staticTypes := #[]
  resolved := Array.replicate 8 none
  statics := none }

/-- the primitive byte -/
def k7 : Class := { plain "byte" none with kind := .primitive 'B', accessFlags := 0x411 }
/-- [B -/
def k8 : Class := { plain "[B" (some 0) with kind := .array 7 .byte, interfaces := #[5, 6], accessFlags := 1041 }

/-- the primitive int -/
def k9 : Class := { plain "int" none with kind := .primitive 'I', accessFlags := 0x411 }
/-- [I -/
def k10 : Class := { plain "[I" (some 0) with kind := .array 9 .int, interfaces := #[5, 6], accessFlags := 1041 }

def heap : Heap := #[]
def classes : Array Class := #[k0, k1, k2, k3, k4, k5, k6, k7, k8, k9, k10]
def interned : List (Array UInt16 × Addr) := []
def slotsUsed : Nat := 0
def theMethod : MethodId := ⟨1, 1⟩
def args0 : Array Value := #[.int 5, .int 7, .int 3]
def aboutOver (below : List Frame) : State where
  vm := { classes := classes, interned := interned.toArray }
  heap := heap
  slotsUsed := slotsUsed
  threads := #[{ frames := .invoking theMethod args0 :: below }]
def below0 : List Frame := [.native { method := ⟨0, 0⟩, args := #[] }]
def about1 : State := aboutOver below0
def p0 : Program := .bare "" "" ""
def e0 : Env := launch0.env 0 0 0
theorem w_frames : about1.frames = Frame.invoking theMethod args0 :: below0 := rfl
set_option maxRecDepth 65536 in
theorem w_args : argsFit about1.vm theMethod args0 = true := by decide +kernel
set_option maxRecDepth 65536 in
theorem w_heap : heapFits about1 = true := by decide +kernel
set_option maxRecDepth 65536 in
theorem w_runnable : about1.curStatus? = some .runnable := by decide +kernel
set_option maxRecDepth 65536 in
theorem w_alone : about1.alone = true := by decide +kernel
set_option maxRecDepth 65536 in
theorem w_named : about1.methodNamed? x = some theMethod := by decide +kernel
set_option maxRecDepth 65536 in
theorem w_hears : about1.hears theMethod below0 = true := by decide +kernel
set_option maxRecDepth 65536 in
theorem w_ripe : about1.ripe theMethod args0 below0 = true := by decide +kernel
theorem w_running : about1.status = .running := rfl
set_option maxRecDepth 65536 in
theorem w_room : about1.hasRoom e0.platform room_1 = true :=
  launch0.hasRoom_least _ room_1 (by decide +kernel) (by decide +kernel) (by decide +kernel) (by decide +kernel) (by decide +kernel) (by decide +kernel)
theorem allAtoms_all (ts : List Jvm.Cond) (a : Array Jvm.Value) (st : Jvm.State) : (allAtoms ts).before a st = ts.all (fun c => c.before a st) := by
  induction ts with
  | nil => rfl
  | cons c t ih =>
    show (Jvm.Cond.and c (allAtoms t)).before a st = _
    rw [Jvm.Cond.before_and, ih, List.all_cons]
def words1 : List Jvm.Cond := Jvm.Cond.code x code maxLocals ret :: tables_1
/-- a 'code' word, met by the world's own term for the bytes: nothing is compared byte by byte -/
theorem code_word {y : MethodName} {bytes : ByteArray} {mx : Nat} {rt : Option FieldType} {a : Array Value} {s : State} {m : MethodId} {meth : Method} {c : Code} (h1 : s.methodNamed? y = some m) (h2 : s.vm.method? m = some meth) (h3 : meth.code = some c) (h4 : c.code = bytes)
    (h5 : (c.maxLocals == mx && c.exceptionTable.isEmpty && decide (c.maxStack ≤ mostOperands) && decide (meth.sig.returnType = rt) && !meth.locks && decide (parseMethodDescriptor y.desc = some meth.sig)) = true) : (Jvm.Cond.code y bytes mx rt).before a s = true := by
  simp only [Bool.and_eq_true, beq_iff_eq, Bool.not_eq_true', decide_eq_true_eq] at h5
  obtain ⟨⟨⟨⟨⟨g1, g2⟩, g3⟩, g4⟩, g5⟩, g6⟩ := h5
  simp [Cond.before, Cond.holds, Cond.value, h1, h2, h3, h4, g1, g2, g3, g4, g5, g6]
def isCode : Jvm.Cond → Bool
  | .code _ _ _ _ => true
  | _ => false
theorem all_split {L : List Jvm.Cond} {P : Jvm.Cond → Bool} (h1 : L.all (fun c => isCode c || P c) = true) (h2 : ∀ c ∈ L.filter isCode, P c = true) : L.all P = true := by
  refine List.all_eq_true.mpr fun c hc => ?_
  have h := List.all_eq_true.mp h1 c hc
  rcases Bool.eq_false_or_eq_true (isCode c) with hi | hi
  · exact h2 c (List.mem_filter.mpr ⟨hc, hi⟩)
  · simpa [hi] using h
set_option maxRecDepth 65536 in
theorem w_c0 : (Jvm.Cond.code x code maxLocals ret).before args0 about1 = true := code_word (m := ⟨1, 1⟩) (meth := k1m1) (c := k1c1) (by decide +kernel) rfl rfl rfl (by decide +kernel)
set_option maxRecDepth 65536 in
theorem w_c1 : (Jvm.Cond.code ({ cls := "com/example/matres/matres/core/CredibilityFilterModel", name := "leastBytes", desc := "(II)J" } : Jvm.MethodName) prog_44_method_3_code (8 : Nat) (Option.some Jvm.ClassFile.FieldType.long)).before args0 about1 = true := code_word (m := ⟨4, 0⟩) (meth := k4m0) (c := k4c0) (by decide +kernel) rfl rfl rfl (by decide +kernel)
def codes1 : List Jvm.Cond := [Jvm.Cond.code x code maxLocals ret, Jvm.Cond.code ({ cls := "com/example/matres/matres/core/CredibilityFilterModel", name := "leastBytes", desc := "(II)J" } : Jvm.MethodName) prog_44_method_3_code (8 : Nat) (Option.some Jvm.ClassFile.FieldType.long)]
set_option maxRecDepth 65536 in
theorem codes_eq : words1.filter isCode = codes1 := rfl
theorem w_codes : ∀ c ∈ words1.filter isCode, c.before args0 about1 = true := by
  rw [codes_eq]
  intro c hc
  simp only [codes1, List.mem_cons, List.not_mem_nil, or_false] at hc
  rcases hc with rfl | rfl
  · exact w_c0
  · exact w_c1
set_option maxRecDepth 65536 in
theorem w_t1 : words1.all (fun c => isCode c || c.before args0 about1) = true := by decide +kernel
theorem w_tables : (allAtoms (Jvm.Cond.code x code maxLocals ret :: tables_1)).before args0 about1 = true := by
  rw [allAtoms_all]
  show words1.all (fun c => c.before args0 about1) = true
  refine all_split ?_ w_codes
  rw [w_t1]
set_option maxRecDepth 65536 in
theorem w_case : (Jvm.Cond.and given_1 narrow_1).before args0 about1 = true := by decide +kernel
theorem w_applies : (headSpec (Jvm.Cond.code x code maxLocals ret :: tables_1) room_1).applies x e0.platform about1 = true :=
  (Spec.applies_iff w_frames).mpr ⟨w_running, w_runnable, w_alone, w_named, w_hears, w_ripe, w_room, w_tables⟩
theorem atStart : AtStart classFile x code maxLocals ret World_1 tables_1 room_1 Calls_1 rest_1 Pre_1 launch0 p0 e0 about1 theMethod args0 below0 :=
  ⟨lists_1, trivial, launch0.admits_env _ _ _, launch0.least_env, fairChoices_fair.cas, fairChoices_fair.clock, w_frames, w_args, w_heap, w_applies, trivial, trivial, w_case⟩
end start1
theorem witness_1 : WitnessClaimed_1 := ⟨start1.p0, start1.e0, start1.about1, start1.theMethod, start1.args0, start1.below0, start1.atStart⟩
end Jvm.Pilot.@@N@@
