import JvmDerived
import JvmDerived.Pilot.@@N@@Statement
import JvmDerived.Pilot.@@N@@Code
set_option linter.unusedVariables false
set_option linter.unusedSimpArgs false
@@BLOCK:NumsL.lean.txt@@
namespace Jvm.Pilot.@@N@@
open Jvm Jvm.ClassFile Sem Op Lib Jvm.Free Jvm.Stand Jvm.LawKit Jvm.RoadKit Bundle Jvm.Pilot.@@N@@.Jvm.D
/-! the goal that a walk carries along: from this state the run comes to the method's end, and Q holds there -/
def own_G (tb : Tables) (e : Env) (below : List Frame) (s : State) (Q : Option Value → Heap → List Loc → Prop) (kc ks : Nat) (st : State) : Prop :=
  ∃ u o, Steps tb e below st u ∧ u.status = .running ∧ Ended u below o ∧ ∃ v L, o = .returned v ∧ Q v u.heap L ∧ FrameEnd s o u L kc ks
theorem own_in {tb : Tables} {e : Env} {below : List Frame} {s : State} {Q : Option Value → Heap → List Loc → Prop} {kc ks : Nat} {st : State} (h : own_G tb e below s Q kc ks st) :
    ∃ u o, Steps tb e below st u ∧ u.status = .running ∧ Ended u below o ∧ ∃ v L, o = .returned v ∧ Q v u.heap L ∧ FrameEnd s o u L kc ks := h
theorem own_st {tb : Tables} {e : Env} {below : List Frame} {s : State} {Q : Option Value → Heap → List Loc → Prop} {kc ks : Nat} {a b : State} (k : ∀ t, Steps tb e below b t → Steps tb e below a t) (h : own_G tb e below s Q kc ks b) : own_G tb e below s Q kc ks a := by
  obtain ⟨u, o, h1, h2⟩ := h; exact ⟨u, o, k u h1, h2⟩
section OwnRet
variable {p : Program} {l : Launch} {e : Env} {R : Room} {s : State} {m : MethodId} {args : Array Value} {below : List Frame} {meth : Method} {c : Code} {T : State} {locs : List Loc} {cells slots : Nat} {Q : Option Value → Heap → List Loc → Prop} {kc ks : Nat} {pc : Nat} {Ls : Array Slot} {rest : List Value}
theorem own_ret (X : Stand p l e R s m args below meth c T locs cells slots) {v : Option Value} (hv : meth.sig.returnType = none → v = none) (hlk : meth.locks = false) (hc : cells ≤ kc) (hs : slots ≤ ks) (hQ : Q v T.heap locs) {st : State}
    (step : ∀ fs, (∀ (f : JFrame) (acts : List Action), f.method = m → f.locked = none → f.entered = [] → (doReturn e (T.setTop f) acts v).1 = T.setFrames fs) → Steps p.tables e below st (T.setFrames fs)) : own_G p.tables e below s Q kc ks st := by
  obtain ⟨fs, hr, hrun, hended, hW, hsame⟩ := X.leave (v := v) hv hlk
  exact ⟨_, _, step fs hr, hrun, hended, _, _, rfl, hQ, ⟨_, rfl⟩, hW, hsame.mono hc hs⟩
theorem own_retV (X : Stand p l e R s m args below meth c T locs cells slots) (hx : p.tables.exec = Jvm.exec) (hret : meth.sig.returnType = none) (hlk : meth.locks = false) (hd : decode c.code pc = .ok (.return_, 1)) (hc : cells ≤ kc) (hs : slots ≤ ks) (hQ : Q none T.heap locs) : own_G p.tables e below s Q kc ks (T.setTop (mkF m pc Ls [])) :=
  own_ret X (v := none) (fun _ => rfl) hlk hc hs hQ fun _ hr => X.returnOut hx hret hd hr
theorem own_retI {z : Int32} (X : Stand p l e R s m args below meth c T locs cells slots) (hx : p.tables.exec = Jvm.exec) (hret : meth.sig.returnType = some .int) (hlk : meth.locks = false) (hd : decode c.code pc = .ok (.ireturn, 1)) (hc : cells ≤ kc) (hs : slots ≤ ks) (hQ : Q (some (.int z)) T.heap locs) : own_G p.tables e below s Q kc ks (T.setTop (mkF m pc Ls (.int z :: rest))) :=
  own_ret X (v := some (.int z)) (fun h => by rw [hret] at h; cases h) hlk hc hs hQ fun _ hr => retOut X hx hret rfl (Or.inl ⟨rfl, Or.inl rfl, z, rfl⟩) hd hr
theorem own_retJ {z : Int64} (X : Stand p l e R s m args below meth c T locs cells slots) (hx : p.tables.exec = Jvm.exec) (hret : meth.sig.returnType = some .long) (hlk : meth.locks = false) (hd : decode c.code pc = .ok (.lreturn, 1)) (hc : cells ≤ kc) (hs : slots ≤ ks) (hQ : Q (some (.long z)) T.heap locs) : own_G p.tables e below s Q kc ks (T.setTop (mkF m pc Ls (.long z :: rest))) :=
  own_ret X (v := some (.long z)) (fun h => by rw [hret] at h; cases h) hlk hc hs hQ fun _ hr => retOut X hx hret rfl (Or.inr (Or.inl ⟨rfl, rfl, z, rfl⟩)) hd hr
theorem own_retA {ft : FieldType} {w : Value} (ht : ft.isReference = true) (hw : w.isRef = true) (X : Stand p l e R s m args below meth c T locs cells slots) (hx : p.tables.exec = Jvm.exec) (hret : meth.sig.returnType = some ft) (hlk : meth.locks = false) (hd : decode c.code pc = .ok (.areturn, 1)) (hc : cells ≤ kc) (hs : slots ≤ ks) (hQ : Q (some w) T.heap locs) : own_G p.tables e below s Q kc ks (T.setTop (mkF m pc Ls (w :: rest))) :=
  own_ret X (v := some w) (fun h => by rw [hret] at h; cases h) hlk hc hs hQ fun _ hr => retOut X hx hret (by cases ft <;> first | (cases ht; done) | (cases w <;> first | rfl | cases hw)) (Or.inr (Or.inr (Or.inr (Or.inr ⟨rfl, ht, hw⟩)))) hd hr
theorem own_retN {t : FieldType} {z : Int32} (ht : t = .boolean ∨ t = .byte ∨ t = .char ∨ t = .short) (X : Stand p l e R s m args below meth c T locs cells slots) (hx : p.tables.exec = Jvm.exec) (hret : meth.sig.returnType = some t) (hlk : meth.locks = false) (hd : decode c.code pc = .ok (.ireturn, 1)) (hc : cells ≤ kc) (hs : slots ≤ ks) (hQ : Q (some (.int (nar t z))) T.heap locs) : own_G p.tables e below s Q kc ks (T.setTop (mkF m pc Ls (.int z :: rest))) :=
  own_ret X (v := some (.int (nar t z))) (fun h => by rw [hret] at h; cases h) hlk hc hs hQ fun _ hr => retN X hx hret ht hd hr
end OwnRet
def own_b (P : Prop) [Decidable P] : Int32 := if P then 1 else 0
theorem own_bT {P : Prop} [Decidable P] (h : P) : some (Value.int (nar .boolean (1 : Int32))) = some (Value.int (own_b P)) := by rw [own_b, if_pos h]; rfl
theorem own_bF {P : Prop} [Decidable P] (h : ¬ P) : some (Value.int (nar .boolean (0 : Int32))) = some (Value.int (own_b P)) := by rw [own_b, if_neg h]; rfl
theorem own_bEq {P P' : Prop} [Decidable P] [Decidable P'] (h : P ↔ P') : own_b P = own_b P' := by simp only [own_b, h]
/-- a body that writes nothing: what it returns, the heap as it was -/
def own_Qp (r : Option Value) (h0 : Heap) (n0 : Nat) (v : Option Value) (h : Heap) (L : List Loc) : Prop := v = r ∧ Fr n0 L ∧ h = h0
/-- the law's own end: it returns 1, nothing old is written -/
def own_Q0 (n0 : Nat) (v : Option Value) (h : Heap) (L : List Loc) : Prop := v = some (.int 1) ∧ Fr n0 L
theorem own_ord {s : State} {args : Array Value} {t : Term} {a : Addr} {C n d : String} {k : Int32} (ev : t.eval args s none [] s = some (.ref a)) (h : (Jvm.Cond.eq (Term.field t C n d) (Term.int k)).value args s none s [] = some true) : Fld s s.heap a C n d (.int k) := by
  obtain ⟨x, y, e1, e2, -, k2⟩ := cmp_v (Or.inl h)
  obtain rfl : Value.int k = y := Option.some.inj e2
  obtain ⟨z, rfl⟩ := k2
  have q : z = k := by simpa [Jvm.Cond.value, e1, e2] using h
  subst q
  exact Fld.start ((fld_at ev).symm.trans e1)
theorem own_len {s : State} {args : Array Value} {t : Term} {a : Addr} {c : Cell} {ty : FieldType} {n : Int32} (ev : t.eval args s none [] s = some (.ref a)) (A : Arr s s.heap a c ty) (h : (Jvm.Cond.eq (Term.length t) (Term.int n)).value args s none s [] = some true) : c.slots.size < 2 ^ 31 ∧ c.slots.size.toInt32 = n := by
  have q := eqv_i (Term.int_eval n) h
  have f := A.fin (Vm.Alike.refl _)
  have z : c.slots.size < 2147483648 ∧ c.slots.size.toInt32 = n := by simpa [Term.eval, ev, f] using q
  exact z
theorem own_eqr {s : State} {args : Array Value} {X F : Term} {y : Addr} (hF : F.eval args s none [] s = some (.ref y)) (h : (Jvm.Cond.eq X F).value args s none s [] = some true) : X.eval args s none [] s = some (.ref y) := by
  obtain ⟨x, y', e1, e2, k1, k2⟩ := cmp_v (Or.inl h)
  cases hF.symm.trans e2
  have hx : x.isRef = true := k2.2
  have q := gotT (eq_R e1 hF hx rfl) h
  rw [q] at e1; exact e1
theorem own_el {s : State} {args : Array Value} {t : Term} {a : Addr} {c : Cell} {ty : FieldType} {j : Int32} {v : Value} (ev : t.eval args s none [] s = some (.ref a)) (A : Arr s s.heap a c ty) (h : (Term.elem t (Term.int j)).eval args s none [] s = some v) : c.slots[j.toNatClampNeg]? = some v := (elem_in h ev (Term.int_eval j) A.1).2
theorem own_nea {Z : State} {h : Heap} {a b : Addr} {C : String} {a0 : Array Value} {k : Nat} {kc : ClassId} {ty : FieldType} {z : Int32} {vs : List Value} {d : Value} (F : Exa Z h a C) (wi : (Jvm.Cond.instantiable C k).before a0 Z = true) (V : Arv Z h b kc ty z vs d) : a ≠ b := by
  obtain ⟨c, A, -⟩ := V; exact ne_arr F wi A
def own_sum (M a b : Int64) : Int64 := if 0 < lcmpW a (M - b) then M else a + b
def own_max (x y : Int64) : Int64 := if lcmpW x y < 0 then y else x
theorem own_pl (M : Int64) (eM : M.toInt = 9223372036854775807) (a b : Int64) (ha : 0 ≤ a.toInt) (hb : 0 ≤ b.toInt) :
    (lcmpW (a + b) 0 < 0 → M = own_sum M a b) ∧ (¬ lcmpW (a + b) 0 < 0 → a + b = own_sum M a b) ∧ ¬ lcmpW (own_sum M a b) 0 < 0 ∧ ¬ lcmpW (own_sum M a b) a < 0 ∧ ¬ lcmpW (own_sum M a b) b < 0 := by
  have e0 : (0 : Int64).toInt = 0 := by decide
  have q := c_ladd a b
  have q1 := rng64 a
  have q2 := rng64 b
  have q3 := rng64 (a + b)
  have m : (M - b).toInt = 9223372036854775807 - b.toInt := by rw [Jvm.Kit.i64_sub, eM] <;> rw [eM] <;> omega
  simp only [lw_gt, lw_lt, own_sum, Int64.lt_iff_toInt_lt, m, e0]
  by_cases h : 9223372036854775807 - b.toInt < a.toInt
  · simp only [if_pos h, eM]
    refine ⟨fun _ => trivial, fun k => ?_, ?_, ?_, ?_⟩
    · exact absurd k (by omega)
    all_goals omega
  · simp only [if_neg h]
    refine ⟨fun k => ?_, fun _ => trivial, ?_, ?_, ?_⟩
    · exact absurd k (by omega)
    all_goals omega
theorem own_nn (x M : Int64) (h : M.toBitVec.toNat = 2 ^ 63 - 1) : 0 ≤ (x &&& M).toInt := by
  rw [Jvm.Kit.i64_mask x M (k := 63) (by decide) h]; omega
theorem own_mb (M : Int64) (eM : M.toInt = 9223372036854775807) (b : Int64) (hb : 0 ≤ b.toInt) : 0 ≤ (M - b).toInt := by
  have q2 := rng64 b
  have m : (M - b).toInt = 9223372036854775807 - b.toInt := by rw [Jvm.Kit.i64_sub, eM] <;> rw [eM] <;> omega
  omega
theorem own_or1 (b : Int64) (hb : 0 ≤ b.toInt) : 1 ≤ (b ||| 1).toInt := by
  have e : b.toInt = (b.toBitVec.toNat : Int) := by
    have q : b.toInt = b.toBitVec.toInt := rfl
    rw [q] at hb ⊢
    rw [BitVec.toInt_eq_toNat_cond] at hb ⊢
    split at hb
    · rename_i h; rw [if_pos h]
    · have := b.toBitVec.isLt; omega
  have l : b.toBitVec.toNat < 2 ^ 63 := by have := b.toInt_lt; omega
  have k : (b ||| 1).toBitVec.toNat = b.toBitVec.toNat ||| 1 := BitVec.toNat_or ..
  have k1 : b.toBitVec.toNat ||| 1 < 2 ^ 63 := Nat.or_lt_two_pow l (by decide)
  have k2 : 1 ≤ b.toBitVec.toNat ||| 1 := Nat.right_le_or
  show 1 ≤ (b ||| 1).toBitVec.toInt
  rw [BitVec.toInt_eq_toNat_of_lt (by omega), k]
  omega
theorem own_mb1 (M : Int64) (eM : M.toInt = 9223372036854775807) (b : Int64) (hb : 1 ≤ b.toInt) : 0 ≤ (M - b + 1).toInt := by
  have q2 := rng64 b
  have e1 : (1 : Int64).toInt = 1 := by decide
  have m : (M - b).toInt = 9223372036854775807 - b.toInt := by rw [Jvm.Kit.i64_sub, eM] <;> rw [eM] <;> omega
  have m2 : (M - b + 1).toInt = 9223372036854775807 - b.toInt + 1 := by rw [Jvm.Kit.i64_add, m, e1] <;> rw [m, e1] <;> omega
  omega
theorem own_mx (x : Int64) : 0 ≤ (own_max x 0).toInt := by
  have e0 : (0 : Int64).toInt = 0 := by decide
  simp only [own_max, lw_lt, Int64.lt_iff_toInt_lt, e0]
  split
  · rw [e0]; exact Int.le_refl _
  · omega
theorem own_pn0 : plainName "com/example/strigine/strigine/ValueSet" = true := by first | (simp [plainName, overriddenIn]; done) | decide +kernel
theorem own_d1_0 : decode prog_16_method_13_code 0 = .ok (.lload_n 0, 1) := by decide +kernel
theorem own_d1_1 : decode prog_16_method_13_code 1 = .ok (.ldc2_w 97, 3) := by decide +kernel
theorem own_d1_4 : decode prog_16_method_13_code 4 = .ok (.lload_n 2, 1) := by decide +kernel
theorem own_d1_5 : decode prog_16_method_13_code 5 = .ok (.lsub, 1) := by decide +kernel
theorem own_d1_6 : decode prog_16_method_13_code 6 = .ok (.lcmp, 1) := by decide +kernel
theorem own_d1_7 : decode prog_16_method_13_code 7 = .ok (.ifCond .le 9, 3) := by decide +kernel
theorem own_d1_10 : decode prog_16_method_13_code 10 = .ok (.ldc2_w 97, 3) := by decide +kernel
theorem own_d1_13 : decode prog_16_method_13_code 13 = .ok (.goto 6, 3) := by decide +kernel
theorem own_d1_16 : decode prog_16_method_13_code 16 = .ok (.lload_n 0, 1) := by decide +kernel
theorem own_d1_17 : decode prog_16_method_13_code 17 = .ok (.lload_n 2, 1) := by decide +kernel
theorem own_d1_18 : decode prog_16_method_13_code 18 = .ok (.ladd, 1) := by decide +kernel
theorem own_d1_19 : decode prog_16_method_13_code 19 = .ok (.lreturn, 1) := by decide +kernel
theorem own_ef1 (m : MethodId) (q1 : Int64) (q2 : Int64) : entryFrame m #[(.long q1), (.long q2)] 4 = mkF m 0 #[.val (.long q1), .second, .val (.long q2), .second] [] := by first | (simp [entryFrame, mkF, argsToLocals, Value.category]; done) | rfl
set_option maxRecDepth 65536 in
set_option maxHeartbeats 40000000 in
theorem own_rm1 (l : Launch) (Z : State) (a0 : Array Value) (hw : ∀ d ∈ tables_1, d.before a0 Z = true) (ws : List Jvm.Cond) (q1 q2 : Int64) (h0 : Heap) (n0 : Nat) (Z0 : n0 ≤ h0.size)  :
    MetFree l (⟨"com/example/strigine/strigine/ValueSet", "sum", "(JJ)J"⟩ : MethodName) (head1 (Jvm.Cond.code (⟨"com/example/strigine/strigine/ValueSet", "sum", "(JJ)J"⟩ : MethodName) prog_16_method_13_code 4 (some .long) :: ws) ({ frames := 0, cells := 0, slots := 0, locals := 0 } : Room)) (fun a U => a = #[(.long q1), (.long q2)] ∧ Z.Warmed39 U.vm ∧ U.heap = h0) (fun _ _ _ _ _ => True) (fun _ U o U' => ∃ v L, o = .returned v ∧ own_Qp (some (.long (own_sum (9223372036854775807 : Int64) q1 q2))) h0 n0 v U'.heap L ∧ FrameEnd U o U' L ({ frames := 0, cells := 0, slots := 0, locals := 0 } : Room).cells ({ frames := 0, cells := 0, slots := 0, locals := 0 } : Room).slots) := by
  refine MetFree.of_bodySF (plainFor_of_name own_pn0) hisR ?_
  intro p e s m args below meth c s₁ Bd hml0 hP hK
  obtain ⟨rfl, hZ, hh⟩ := hP
  have hx := Bd.exec
  have hby := Bd.bytes
  have hml : c.maxLocals = 4 := hml0
  have hown : s.vm.findClass "com/example/strigine/strigine/ValueSet" = some m.cls := findClass_of_methodNamed Bd.named
  have hnm := (name_of_methodNamed Bd.named Bd.method).1
  have X0 : Stand p l e ({ frames := 0, cells := 0, slots := 0, locals := 0 } : Room) s m #[(.long q1), (.long q2)] below meth c s₁ [] 0 0 := Stand.of_body Bd
  have e0 : s₁.heap = h0 := by rw [← hh, Bd.state]; rfl
  have N0 := Fr.nil n0
  refine own_in (Q := own_Qp (some (.long (own_sum (9223372036854775807 : Int64) q1 q2))) h0 n0) ?_
  rw [own_ef1]
  show own_G _ _ _ _ _ _ _ (s₁.setTop (mkF m 0 #[.val (.long q1), .second, .val (.long q2), .second] []))
  refine own_st (fun t k => XS.lloadN X0.here hx rfl (hb hby own_d1_0) rfl k) ?_
  show own_G _ _ _ _ _ _ _ (s₁.setTop (mkF m 1 #[.val (.long q1), .second, .val (.long q2), .second] [(.long q1)]))
  refine own_st (fun t k => X0.ldc2Long hx hown (mvT hZ (hw _ (List.mem_of_getElem? (i := 5) rfl))) (g := (mkF m 1 #[.val (.long q1), .second, .val (.long q2), .second] [(.long q1)])) rfl (hb hby own_d1_1) t k) ?_
  show own_G _ _ _ _ _ _ _ (s₁.setTop (mkF m 4 #[.val (.long q1), .second, .val (.long q2), .second] [(.long (9223372036854775807 : Int64)), (.long q1)]))
  refine own_st (fun t k => XS.lloadN X0.here hx rfl (hb hby own_d1_4) rfl k) ?_
  show own_G _ _ _ _ _ _ _ (s₁.setTop (mkF m 5 #[.val (.long q1), .second, .val (.long q2), .second] [(.long q2), (.long (9223372036854775807 : Int64)), (.long q1)]))
  refine own_st (fun t k => XS.lsub X0.here hx rfl (hb hby own_d1_5) rfl k) ?_
  show own_G _ _ _ _ _ _ _ (s₁.setTop (mkF m 6 #[.val (.long q1), .second, .val (.long q2), .second] [(.long ((9223372036854775807 : Int64) - q2)), (.long q1)]))
  refine own_st (fun t k => XS.lcmp X0.here hx rfl (hb hby own_d1_6) rfl k) ?_
  show own_G _ _ _ _ _ _ _ (s₁.setTop (mkF m 7 #[.val (.long q1), .second, .val (.long q2), .second] [(.int (lcmpW q1 ((9223372036854775807 : Int64) - q2)))]))
  by_cases hc : (0 : Int32) < (lcmpW q1 ((9223372036854775807 : Int64) - q2))
  · refine own_st (fun t k => XS.ifNo X0.here hx rfl (hb hby own_d1_7) rfl ((if0 _ _).trans (tlt hc).2.2.2) k) ?_
    show own_G _ _ _ _ _ _ _ (s₁.setTop (mkF m 10 #[.val (.long q1), .second, .val (.long q2), .second] []))
    refine own_st (fun t k => X0.ldc2Long hx hown (mvT hZ (hw _ (List.mem_of_getElem? (i := 5) rfl))) (g := (mkF m 10 #[.val (.long q1), .second, .val (.long q2), .second] [])) rfl (hb hby own_d1_10) t k) ?_
    show own_G _ _ _ _ _ _ _ (s₁.setTop (mkF m 13 #[.val (.long q1), .second, .val (.long q2), .second] [(.long (9223372036854775807 : Int64))]))
    refine own_st (fun t k => XS.goto X0.here hx rfl (pc0 := 13) (pc' := 19) rfl (hb hby own_d1_13) (by decide) (by decide) k) ?_
    show own_G _ _ _ _ _ _ _ (s₁.setTop (mkF m 19 #[.val (.long q1), .second, .val (.long q2), .second] [(.long (9223372036854775807 : Int64))]))
    exact own_retJ X0 hx Bd.returns (BodyLoose.notSynchronized Bd) (hb hby own_d1_19) (by decide) (by decide) ⟨congrArg (fun z => some (Value.long z)) (show _ = own_sum _ _ _ by simp only [own_sum, if_pos hc]), N0, e0⟩
  · refine own_st (fun t k => XS.ifYes X0.here hx rfl (pc0 := 7) (pc' := 16) rfl (hb hby own_d1_7) rfl ((if0 _ _).trans (flt hc).2.2.2) (by decide) (by decide) k) ?_
    show own_G _ _ _ _ _ _ _ (s₁.setTop (mkF m 16 #[.val (.long q1), .second, .val (.long q2), .second] []))
    refine own_st (fun t k => XS.lloadN X0.here hx rfl (hb hby own_d1_16) rfl k) ?_
    show own_G _ _ _ _ _ _ _ (s₁.setTop (mkF m 17 #[.val (.long q1), .second, .val (.long q2), .second] [(.long q1)]))
    refine own_st (fun t k => XS.lloadN X0.here hx rfl (hb hby own_d1_17) rfl k) ?_
    show own_G _ _ _ _ _ _ _ (s₁.setTop (mkF m 18 #[.val (.long q1), .second, .val (.long q2), .second] [(.long q2), (.long q1)]))
    refine own_st (fun t k => XS.ladd X0.here hx rfl (hb hby own_d1_18) rfl k) ?_
    show own_G _ _ _ _ _ _ _ (s₁.setTop (mkF m 19 #[.val (.long q1), .second, .val (.long q2), .second] [(.long (q1 + q2))]))
    exact own_retJ X0 hx Bd.returns (BodyLoose.notSynchronized Bd) (hb hby own_d1_19) (by decide) (by decide) ⟨congrArg (fun z => some (Value.long z)) (show _ = own_sum _ _ _ by simp only [own_sum, if_neg hc]), N0, e0⟩
theorem own_d2_0 : decode jdk_29_method_66_code 0 = .ok (.lload_n 0, 1) := by decide +kernel
theorem own_d2_1 : decode jdk_29_method_66_code 1 = .ok (.lload_n 2, 1) := by decide +kernel
theorem own_d2_2 : decode jdk_29_method_66_code 2 = .ok (.lcmp, 1) := by decide +kernel
theorem own_d2_3 : decode jdk_29_method_66_code 3 = .ok (.ifCond .lt 7, 3) := by decide +kernel
theorem own_d2_6 : decode jdk_29_method_66_code 6 = .ok (.lload_n 0, 1) := by decide +kernel
theorem own_d2_7 : decode jdk_29_method_66_code 7 = .ok (.goto 4, 3) := by decide +kernel
theorem own_d2_10 : decode jdk_29_method_66_code 10 = .ok (.lload_n 2, 1) := by decide +kernel
theorem own_d2_11 : decode jdk_29_method_66_code 11 = .ok (.lreturn, 1) := by decide +kernel
theorem own_ef2 (m : MethodId) (q1 : Int64) (q2 : Int64) : entryFrame m #[(.long q1), (.long q2)] 4 = mkF m 0 #[.val (.long q1), .second, .val (.long q2), .second] [] := by first | (simp [entryFrame, mkF, argsToLocals, Value.category]; done) | rfl
set_option maxRecDepth 65536 in
set_option maxHeartbeats 40000000 in
theorem own_rm2 (l : Launch) (Z : State) (a0 : Array Value) (hw : ∀ d ∈ tables_1, d.before a0 Z = true) (ws : List Jvm.Cond) (q1 q2 : Int64) (h0 : Heap) (n0 : Nat) (Z0 : n0 ≤ h0.size)  :
    MetFree l (⟨"java/lang/Math", "max", "(JJ)J"⟩ : MethodName) (head1 (Jvm.Cond.code (⟨"java/lang/Math", "max", "(JJ)J"⟩ : MethodName) jdk_29_method_66_code 4 (some .long) :: ws) ({ frames := 0, cells := 0, slots := 0, locals := 0 } : Room)) (fun a U => a = #[(.long q1), (.long q2)] ∧ Z.Warmed39 U.vm ∧ U.heap = h0) (fun _ _ _ _ _ => True) (fun _ U o U' => ∃ v L, o = .returned v ∧ own_Qp (some (.long (own_max q1 q2))) h0 n0 v U'.heap L ∧ FrameEnd U o U' L ({ frames := 0, cells := 0, slots := 0, locals := 0 } : Room).cells ({ frames := 0, cells := 0, slots := 0, locals := 0 } : Room).slots) := by
  refine MetFree.of_bodySF (Jvm.Free.JP.mathPlain rfl (by decide +kernel)) hisR ?_
  intro p e s m args below meth c s₁ Bd hml0 hP hK
  obtain ⟨rfl, hZ, hh⟩ := hP
  have hx := Bd.exec
  have hby := Bd.bytes
  have hml : c.maxLocals = 4 := hml0
  have hown : s.vm.findClass "java/lang/Math" = some m.cls := findClass_of_methodNamed Bd.named
  have hnm := (name_of_methodNamed Bd.named Bd.method).1
  have X0 : Stand p l e ({ frames := 0, cells := 0, slots := 0, locals := 0 } : Room) s m #[(.long q1), (.long q2)] below meth c s₁ [] 0 0 := Stand.of_body Bd
  have e0 : s₁.heap = h0 := by rw [← hh, Bd.state]; rfl
  have N0 := Fr.nil n0
  refine own_in (Q := own_Qp (some (.long (own_max q1 q2))) h0 n0) ?_
  rw [own_ef2]
  show own_G _ _ _ _ _ _ _ (s₁.setTop (mkF m 0 #[.val (.long q1), .second, .val (.long q2), .second] []))
  refine own_st (fun t k => XS.lloadN X0.here hx rfl (hb hby own_d2_0) rfl k) ?_
  show own_G _ _ _ _ _ _ _ (s₁.setTop (mkF m 1 #[.val (.long q1), .second, .val (.long q2), .second] [(.long q1)]))
  refine own_st (fun t k => XS.lloadN X0.here hx rfl (hb hby own_d2_1) rfl k) ?_
  show own_G _ _ _ _ _ _ _ (s₁.setTop (mkF m 2 #[.val (.long q1), .second, .val (.long q2), .second] [(.long q2), (.long q1)]))
  refine own_st (fun t k => XS.lcmp X0.here hx rfl (hb hby own_d2_2) rfl k) ?_
  show own_G _ _ _ _ _ _ _ (s₁.setTop (mkF m 3 #[.val (.long q1), .second, .val (.long q2), .second] [(.int (lcmpW q1 q2))]))
  by_cases hc : (lcmpW q1 q2) < (0 : Int32)
  · refine own_st (fun t k => XS.ifYes X0.here hx rfl (pc0 := 3) (pc' := 10) rfl (hb hby own_d2_3) rfl ((if0 _ _).trans (tlt hc).1) (by decide) (by decide) k) ?_
    show own_G _ _ _ _ _ _ _ (s₁.setTop (mkF m 10 #[.val (.long q1), .second, .val (.long q2), .second] []))
    refine own_st (fun t k => XS.lloadN X0.here hx rfl (hb hby own_d2_10) rfl k) ?_
    show own_G _ _ _ _ _ _ _ (s₁.setTop (mkF m 11 #[.val (.long q1), .second, .val (.long q2), .second] [(.long q2)]))
    exact own_retJ X0 hx Bd.returns (BodyLoose.notSynchronized Bd) (hb hby own_d2_11) (by decide) (by decide) ⟨congrArg (fun z => some (Value.long z)) (show _ = own_max _ _ by simp only [own_max, if_pos hc]), N0, e0⟩
  · refine own_st (fun t k => XS.ifNo X0.here hx rfl (hb hby own_d2_3) rfl ((if0 _ _).trans (flt hc).1) k) ?_
    show own_G _ _ _ _ _ _ _ (s₁.setTop (mkF m 6 #[.val (.long q1), .second, .val (.long q2), .second] []))
    refine own_st (fun t k => XS.lloadN X0.here hx rfl (hb hby own_d2_6) rfl k) ?_
    show own_G _ _ _ _ _ _ _ (s₁.setTop (mkF m 7 #[.val (.long q1), .second, .val (.long q2), .second] [(.long q1)]))
    refine own_st (fun t k => XS.goto X0.here hx rfl (pc0 := 7) (pc' := 11) rfl (hb hby own_d2_7) (by decide) (by decide) k) ?_
    show own_G _ _ _ _ _ _ _ (s₁.setTop (mkF m 11 #[.val (.long q1), .second, .val (.long q2), .second] [(.long q1)]))
    exact own_retJ X0 hx Bd.returns (BodyLoose.notSynchronized Bd) (hb hby own_d2_11) (by decide) (by decide) ⟨congrArg (fun z => some (Value.long z)) (show _ = own_max _ _ by simp only [own_max, if_neg hc]), N0, e0⟩
theorem own_pd0 : parseMethodDescriptor "(JJ)J" = some ⟨[.long, .long], some .long⟩ := by decide +kernel
theorem own_pn1 : plainName "com/example/strigine/strigine/ValueSetSumPinLaw" = true := by first | (simp [plainName, overriddenIn]; done) | decide +kernel
theorem own_ef0 (m : MethodId) (q1 : Int64) (q2 : Int64) (p3 : Int32) : entryFrame m #[(.long q1), (.long q2), (.int p3)] maxLocals = mkF m 0 #[.val (.long q1), .second, .val (.long q2), .second, .val (.int p3), .unset, .unset, .unset, .unset, .unset, .unset, .unset, .unset, .unset, .unset, .unset] [] := by first | (simp [entryFrame, mkF, argsToLocals, Value.category, maxLocals]; done) | rfl
set_option maxRecDepth 65536 in
set_option maxHeartbeats 40000000 in
theorem own_rm0 (l : Launch) (Z : State) (a0 : Array Value) (hw : ∀ d ∈ tables_1, d.before a0 Z = true) (ws : List Jvm.Cond) (q1 q2 : Int64) (p3 : Int32) (h0 : Heap) (n0 : Nat) (Z0 : n0 ≤ h0.size)  :
    MetFree l x (head1 (Jvm.Cond.code x code maxLocals ret :: ws) room_1) (fun a U => a = #[(.long q1), (.long q2), (.int p3)] ∧ Z.Warmed39 U.vm ∧ U.heap = h0) (fun _ _ _ _ _ => True) (fun _ U o U' => ∃ v L, o = .returned v ∧ own_Q0 n0 v U'.heap L ∧ FrameEnd U o U' L room_1.cells room_1.slots) := by
  refine MetFree.of_bodySF (plainFor_of_name own_pn1) hisR ?_
  intro p e s m args below meth c s₁ Bd hml0 hP hK
  obtain ⟨rfl, hZ, hh⟩ := hP
  have hx := Bd.exec
  have hby := Bd.bytes
  have hml : c.maxLocals = 16 := hml0
  have hown : s.vm.findClass "com/example/strigine/strigine/ValueSetSumPinLaw" = some m.cls := findClass_of_methodNamed Bd.named
  have hnm := (name_of_methodNamed Bd.named Bd.method).1
  have X0 : Stand p l e room_1 s m #[(.long q1), (.long q2), (.int p3)] below meth c s₁ [] 0 0 := Stand.of_body Bd
  have e0 : s₁.heap = h0 := by rw [← hh, Bd.state]; rfl
  have N0 := Fr.nil n0
  refine own_in (Q := own_Q0 n0) ?_
  rw [own_ef0]
  show own_G _ _ _ _ _ _ _ (s₁.setTop (mkF m 0 #[.val (.long q1), .second, .val (.long q2), .second, .val (.int p3), .unset, .unset, .unset, .unset, .unset, .unset, .unset, .unset, .unset, .unset, .unset] []))
  have eM : (9223372036854775807 : Int64).toInt = 9223372036854775807 := by decide
  have nM : (9223372036854775807 : Int64).toBitVec.toNat = 2 ^ 63 - 1 := by decide
  have J : ∀ (a b : Int64) (mo : Int32), 0 ≤ a.toInt → 0 ≤ b.toInt → own_G p.tables e below s (own_Q0 n0) room_1.cells room_1.slots (s₁.setTop (mkF m 82 #[.val (.long q1), .second, .val (.long q2), .second, .val (.int p3), .val (.long a), .second, .val (.long b), .second, .val (.int mo), .unset, .unset, .unset, .unset, .unset, .unset] [])) := by
    intro a b mo hna hnb
    have pl := own_pl (9223372036854775807 : Int64) eM a b hna hnb
    refine own_st (fun t k => XS.lload X0.here hx rfl (hb hby at_82) rfl k) ?_
    show own_G _ _ _ _ _ _ _ (s₁.setTop (mkF m 84 #[.val (.long q1), .second, .val (.long q2), .second, .val (.int p3), .val (.long a), .second, .val (.long b), .second, .val (.int mo), .unset, .unset, .unset, .unset, .unset, .unset] [(.long a)]))
    refine own_st (fun t k => XS.lload X0.here hx rfl (hb hby at_84) rfl k) ?_
    show own_G _ _ _ _ _ _ _ (s₁.setTop (mkF m 86 #[.val (.long q1), .second, .val (.long q2), .second, .val (.int p3), .val (.long a), .second, .val (.long b), .second, .val (.int mo), .unset, .unset, .unset, .unset, .unset, .unset] [(.long b), (.long a)]))
    refine own_st (fun t k => XS.ladd X0.here hx rfl (hb hby at_86) rfl k) ?_
    show own_G _ _ _ _ _ _ _ (s₁.setTop (mkF m 87 #[.val (.long q1), .second, .val (.long q2), .second, .val (.int p3), .val (.long a), .second, .val (.long b), .second, .val (.int mo), .unset, .unset, .unset, .unset, .unset, .unset] [(.long (a + b))]))
    refine own_st (fun t k => XS.lstore X0.here hx rfl (hb hby at_87) rfl (l' := #[.val (.long q1), .second, .val (.long q2), .second, .val (.int p3), .val (.long a), .second, .val (.long b), .second, .val (.int mo), .val (.long (a + b)), .second, .unset, .unset, .unset, .unset]) rfl k) ?_
    show own_G _ _ _ _ _ _ _ (s₁.setTop (mkF m 89 #[.val (.long q1), .second, .val (.long q2), .second, .val (.int p3), .val (.long a), .second, .val (.long b), .second, .val (.int mo), .val (.long (a + b)), .second, .unset, .unset, .unset, .unset] []))
    have K : ∀ (v : Int64), v = own_sum (9223372036854775807 : Int64) a b → own_G p.tables e below s (own_Q0 n0) room_1.cells room_1.slots (s₁.setTop (mkF m 104 #[.val (.long q1), .second, .val (.long q2), .second, .val (.int p3), .val (.long a), .second, .val (.long b), .second, .val (.int mo), .val (.long (a + b)), .second, .unset, .unset, .unset, .unset] [(.long v)])) := by
      intro v hv
      refine own_st (fun t k => XS.lstore X0.here hx rfl (hb hby at_104) rfl (l' := #[.val (.long q1), .second, .val (.long q2), .second, .val (.int p3), .val (.long a), .second, .val (.long b), .second, .val (.int mo), .val (.long (a + b)), .second, .val (.long v), .second, .unset, .unset]) rfl k) ?_
      show own_G _ _ _ _ _ _ _ (s₁.setTop (mkF m 106 #[.val (.long q1), .second, .val (.long q2), .second, .val (.int p3), .val (.long a), .second, .val (.long b), .second, .val (.int mo), .val (.long (a + b)), .second, .val (.long v), .second, .unset, .unset] []))
      refine own_st (fun t k => XS.lload X0.here hx rfl (hb hby at_106) rfl k) ?_
      show own_G _ _ _ _ _ _ _ (s₁.setTop (mkF m 108 #[.val (.long q1), .second, .val (.long q2), .second, .val (.int p3), .val (.long a), .second, .val (.long b), .second, .val (.int mo), .val (.long (a + b)), .second, .val (.long v), .second, .unset, .unset] [(.long a)]))
      refine own_st (fun t k => XS.lload X0.here hx rfl (hb hby at_108) rfl k) ?_
      show own_G _ _ _ _ _ _ _ (s₁.setTop (mkF m 110 #[.val (.long q1), .second, .val (.long q2), .second, .val (.int p3), .val (.long a), .second, .val (.long b), .second, .val (.int mo), .val (.long (a + b)), .second, .val (.long v), .second, .unset, .unset] [(.long b), (.long a)]))
      obtain ⟨_, _, ⟨T1, L1, k1, n1⟩, -, X1, ⟨Lc1, hQ1, l1, y1, z1⟩, st1⟩ := Jvm.LawKit.callS X0 hx (y := (⟨"com/example/strigine/strigine/ValueSet", "sum", "(JJ)J"⟩ : MethodName)) hown (mvT hZ (hw _ (List.mem_of_getElem? (i := 1) rfl))) (mvT hZ (hw _ (List.mem_of_getElem? (i := 2) rfl))) (mvT hZ (hw _ (List.mem_of_getElem? (i := 3) rfl))) (mvT hZ (hw _ (List.mem_of_getElem? (i := 4) rfl))) (by decide) (backOf (W := 0) (own_rm1 l Z a0 hw [] a b h0 n0 Z0) hZ (hw _ (List.mem_of_getElem? (i := 4) rfl)) (hw _ (List.mem_of_getElem? (i := 3) rfl)) (by decide) (by decide)) (g := (mkF m 110 #[.val (.long q1), .second, .val (.long q2), .second, .val (.int p3), .val (.long a), .second, .val (.long b), .second, .val (.int mo), .val (.long (a + b)), .second, .val (.long v), .second, .unset, .unset] [(.long b), (.long a)])) rfl (by rw [hml]; rfl) (argsL := [(.long a), (.long b)]) (rest := []) (lenOf own_pd0 rfl) rfl (by show 2 * 0 + _ ≤ _; exact Nat.le_of_eq rfl) (hb hby at_110) (fun _ _ => ⟨rfl, e0, (by decide : 0 + 0 ≤ _), (by decide : 0 + 0 ≤ _)⟩)
      dsimp only [Pt.U, Pt.locs, Pt.cells, Pt.slots] at X1 l1 y1 z1 st1 hQ1
      subst l1 y1 z1
      obtain ⟨rfl, N1q, e1⟩ := hQ1
      have N1 := Fr.app N0 N1q
      refine own_st (fun t k => st1 t k) ?_
      show own_G _ _ _ _ _ _ _ (T1.setTop (mkF m 113 #[.val (.long q1), .second, .val (.long q2), .second, .val (.int p3), .val (.long a), .second, .val (.long b), .second, .val (.int mo), .val (.long (a + b)), .second, .val (.long v), .second, .unset, .unset] [(.long (own_sum (9223372036854775807 : Int64) a b))]))
      refine own_st (fun t k => XS.lstore X1.here hx rfl (hb hby at_113) rfl (l' := #[.val (.long q1), .second, .val (.long q2), .second, .val (.int p3), .val (.long a), .second, .val (.long b), .second, .val (.int mo), .val (.long (a + b)), .second, .val (.long v), .second, .val (.long (own_sum (9223372036854775807 : Int64) a b)), .second]) rfl k) ?_
      show own_G _ _ _ _ _ _ _ (T1.setTop (mkF m 115 #[.val (.long q1), .second, .val (.long q2), .second, .val (.int p3), .val (.long a), .second, .val (.long b), .second, .val (.int mo), .val (.long (a + b)), .second, .val (.long v), .second, .val (.long (own_sum (9223372036854775807 : Int64) a b)), .second] []))
      refine own_st (fun t k => XS.lload X1.here hx rfl (hb hby at_115) rfl k) ?_
      show own_G _ _ _ _ _ _ _ (T1.setTop (mkF m 117 #[.val (.long q1), .second, .val (.long q2), .second, .val (.int p3), .val (.long a), .second, .val (.long b), .second, .val (.int mo), .val (.long (a + b)), .second, .val (.long v), .second, .val (.long (own_sum (9223372036854775807 : Int64) a b)), .second] [(.long (own_sum (9223372036854775807 : Int64) a b))]))
      refine own_st (fun t k => XS.lload X1.here hx rfl (hb hby at_117) rfl k) ?_
      show own_G _ _ _ _ _ _ _ (T1.setTop (mkF m 119 #[.val (.long q1), .second, .val (.long q2), .second, .val (.int p3), .val (.long a), .second, .val (.long b), .second, .val (.int mo), .val (.long (a + b)), .second, .val (.long v), .second, .val (.long (own_sum (9223372036854775807 : Int64) a b)), .second] [(.long v), (.long (own_sum (9223372036854775807 : Int64) a b))]))
      refine own_st (fun t k => XS.lcmp X1.here hx rfl (hb hby at_119) rfl k) ?_
      show own_G _ _ _ _ _ _ _ (T1.setTop (mkF m 120 #[.val (.long q1), .second, .val (.long q2), .second, .val (.int p3), .val (.long a), .second, .val (.long b), .second, .val (.int mo), .val (.long (a + b)), .second, .val (.long v), .second, .val (.long (own_sum (9223372036854775807 : Int64) a b)), .second] [(.int (lcmpW (own_sum (9223372036854775807 : Int64) a b) v))]))
      refine own_st (fun t k => XS.ifNo X1.here hx rfl (hb hby at_120) rfl ((if0 _ _).trans (teq ((lw_eq _ _).mpr hv.symm)).2) k) ?_
      show own_G _ _ _ _ _ _ _ (T1.setTop (mkF m 123 #[.val (.long q1), .second, .val (.long q2), .second, .val (.int p3), .val (.long a), .second, .val (.long b), .second, .val (.int mo), .val (.long (a + b)), .second, .val (.long v), .second, .val (.long (own_sum (9223372036854775807 : Int64) a b)), .second] []))
      refine own_st (fun t k => XS.lload X1.here hx rfl (hb hby at_123) rfl k) ?_
      show own_G _ _ _ _ _ _ _ (T1.setTop (mkF m 125 #[.val (.long q1), .second, .val (.long q2), .second, .val (.int p3), .val (.long a), .second, .val (.long b), .second, .val (.int mo), .val (.long (a + b)), .second, .val (.long v), .second, .val (.long (own_sum (9223372036854775807 : Int64) a b)), .second] [(.long (own_sum (9223372036854775807 : Int64) a b))]))
      refine own_st (fun t k => XS.lconst X1.here hx rfl (hb hby at_125) k) ?_
      show own_G _ _ _ _ _ _ _ (T1.setTop (mkF m 126 #[.val (.long q1), .second, .val (.long q2), .second, .val (.int p3), .val (.long a), .second, .val (.long b), .second, .val (.int mo), .val (.long (a + b)), .second, .val (.long v), .second, .val (.long (own_sum (9223372036854775807 : Int64) a b)), .second] [(.long (0 : Int64)), (.long (own_sum (9223372036854775807 : Int64) a b))]))
      refine own_st (fun t k => XS.lcmp X1.here hx rfl (hb hby at_126) rfl k) ?_
      show own_G _ _ _ _ _ _ _ (T1.setTop (mkF m 127 #[.val (.long q1), .second, .val (.long q2), .second, .val (.int p3), .val (.long a), .second, .val (.long b), .second, .val (.int mo), .val (.long (a + b)), .second, .val (.long v), .second, .val (.long (own_sum (9223372036854775807 : Int64) a b)), .second] [(.int (lcmpW (own_sum (9223372036854775807 : Int64) a b) (0 : Int64)))]))
      refine own_st (fun t k => XS.ifNo X1.here hx rfl (hb hby at_127) rfl ((if0 _ _).trans (flt pl.2.2.1).1) k) ?_
      show own_G _ _ _ _ _ _ _ (T1.setTop (mkF m 130 #[.val (.long q1), .second, .val (.long q2), .second, .val (.int p3), .val (.long a), .second, .val (.long b), .second, .val (.int mo), .val (.long (a + b)), .second, .val (.long v), .second, .val (.long (own_sum (9223372036854775807 : Int64) a b)), .second] []))
      refine own_st (fun t k => XS.lload X1.here hx rfl (hb hby at_130) rfl k) ?_
      show own_G _ _ _ _ _ _ _ (T1.setTop (mkF m 132 #[.val (.long q1), .second, .val (.long q2), .second, .val (.int p3), .val (.long a), .second, .val (.long b), .second, .val (.int mo), .val (.long (a + b)), .second, .val (.long v), .second, .val (.long (own_sum (9223372036854775807 : Int64) a b)), .second] [(.long (own_sum (9223372036854775807 : Int64) a b))]))
      refine own_st (fun t k => XS.lload X1.here hx rfl (hb hby at_132) rfl k) ?_
      show own_G _ _ _ _ _ _ _ (T1.setTop (mkF m 134 #[.val (.long q1), .second, .val (.long q2), .second, .val (.int p3), .val (.long a), .second, .val (.long b), .second, .val (.int mo), .val (.long (a + b)), .second, .val (.long v), .second, .val (.long (own_sum (9223372036854775807 : Int64) a b)), .second] [(.long a), (.long (own_sum (9223372036854775807 : Int64) a b))]))
      refine own_st (fun t k => XS.lcmp X1.here hx rfl (hb hby at_134) rfl k) ?_
      show own_G _ _ _ _ _ _ _ (T1.setTop (mkF m 135 #[.val (.long q1), .second, .val (.long q2), .second, .val (.int p3), .val (.long a), .second, .val (.long b), .second, .val (.int mo), .val (.long (a + b)), .second, .val (.long v), .second, .val (.long (own_sum (9223372036854775807 : Int64) a b)), .second] [(.int (lcmpW (own_sum (9223372036854775807 : Int64) a b) a))]))
      refine own_st (fun t k => XS.ifNo X1.here hx rfl (hb hby at_135) rfl ((if0 _ _).trans (flt pl.2.2.2.1).1) k) ?_
      show own_G _ _ _ _ _ _ _ (T1.setTop (mkF m 138 #[.val (.long q1), .second, .val (.long q2), .second, .val (.int p3), .val (.long a), .second, .val (.long b), .second, .val (.int mo), .val (.long (a + b)), .second, .val (.long v), .second, .val (.long (own_sum (9223372036854775807 : Int64) a b)), .second] []))
      refine own_st (fun t k => XS.lload X1.here hx rfl (hb hby at_138) rfl k) ?_
      show own_G _ _ _ _ _ _ _ (T1.setTop (mkF m 140 #[.val (.long q1), .second, .val (.long q2), .second, .val (.int p3), .val (.long a), .second, .val (.long b), .second, .val (.int mo), .val (.long (a + b)), .second, .val (.long v), .second, .val (.long (own_sum (9223372036854775807 : Int64) a b)), .second] [(.long (own_sum (9223372036854775807 : Int64) a b))]))
      refine own_st (fun t k => XS.lload X1.here hx rfl (hb hby at_140) rfl k) ?_
      show own_G _ _ _ _ _ _ _ (T1.setTop (mkF m 142 #[.val (.long q1), .second, .val (.long q2), .second, .val (.int p3), .val (.long a), .second, .val (.long b), .second, .val (.int mo), .val (.long (a + b)), .second, .val (.long v), .second, .val (.long (own_sum (9223372036854775807 : Int64) a b)), .second] [(.long b), (.long (own_sum (9223372036854775807 : Int64) a b))]))
      refine own_st (fun t k => XS.lcmp X1.here hx rfl (hb hby at_142) rfl k) ?_
      show own_G _ _ _ _ _ _ _ (T1.setTop (mkF m 143 #[.val (.long q1), .second, .val (.long q2), .second, .val (.int p3), .val (.long a), .second, .val (.long b), .second, .val (.int mo), .val (.long (a + b)), .second, .val (.long v), .second, .val (.long (own_sum (9223372036854775807 : Int64) a b)), .second] [(.int (lcmpW (own_sum (9223372036854775807 : Int64) a b) b))]))
      refine own_st (fun t k => XS.ifNo X1.here hx rfl (hb hby at_143) rfl ((if0 _ _).trans (flt pl.2.2.2.2).1) k) ?_
      show own_G _ _ _ _ _ _ _ (T1.setTop (mkF m 146 #[.val (.long q1), .second, .val (.long q2), .second, .val (.int p3), .val (.long a), .second, .val (.long b), .second, .val (.int mo), .val (.long (a + b)), .second, .val (.long v), .second, .val (.long (own_sum (9223372036854775807 : Int64) a b)), .second] []))
      refine own_st (fun t k => XS.iconst X1.here hx rfl (hb hby at_146) k) ?_
      show own_G _ _ _ _ _ _ _ (T1.setTop (mkF m 147 #[.val (.long q1), .second, .val (.long q2), .second, .val (.int p3), .val (.long a), .second, .val (.long b), .second, .val (.int mo), .val (.long (a + b)), .second, .val (.long v), .second, .val (.long (own_sum (9223372036854775807 : Int64) a b)), .second] [(.int (1 : Int32))]))
      refine own_st (fun t k => XS.goto X1.here hx rfl (pc0 := 147) (pc' := 151) rfl (hb hby at_147) (by decide) (by decide) k) ?_
      show own_G _ _ _ _ _ _ _ (T1.setTop (mkF m 151 #[.val (.long q1), .second, .val (.long q2), .second, .val (.int p3), .val (.long a), .second, .val (.long b), .second, .val (.int mo), .val (.long (a + b)), .second, .val (.long v), .second, .val (.long (own_sum (9223372036854775807 : Int64) a b)), .second] [(.int (1 : Int32))]))
      exact own_retN (t := .boolean) (by simp) X1 hx Bd.returns (BodyLoose.notSynchronized Bd) (hb hby at_151) (by decide) (by decide) ⟨rfl, N1⟩
    refine own_st (fun t k => XS.lload X0.here hx rfl (hb hby at_89) rfl k) ?_
    show own_G _ _ _ _ _ _ _ (s₁.setTop (mkF m 91 #[.val (.long q1), .second, .val (.long q2), .second, .val (.int p3), .val (.long a), .second, .val (.long b), .second, .val (.int mo), .val (.long (a + b)), .second, .unset, .unset, .unset, .unset] [(.long (a + b))]))
    refine own_st (fun t k => XS.lconst X0.here hx rfl (hb hby at_91) k) ?_
    show own_G _ _ _ _ _ _ _ (s₁.setTop (mkF m 92 #[.val (.long q1), .second, .val (.long q2), .second, .val (.int p3), .val (.long a), .second, .val (.long b), .second, .val (.int mo), .val (.long (a + b)), .second, .unset, .unset, .unset, .unset] [(.long (0 : Int64)), (.long (a + b))]))
    refine own_st (fun t k => XS.lcmp X0.here hx rfl (hb hby at_92) rfl k) ?_
    show own_G _ _ _ _ _ _ _ (s₁.setTop (mkF m 93 #[.val (.long q1), .second, .val (.long q2), .second, .val (.int p3), .val (.long a), .second, .val (.long b), .second, .val (.int mo), .val (.long (a + b)), .second, .unset, .unset, .unset, .unset] [(.int (lcmpW (a + b) (0 : Int64)))]))
    by_cases hc : (lcmpW (a + b) (0 : Int64)) < (0 : Int32)
    · refine own_st (fun t k => XS.ifNo X0.here hx rfl (hb hby at_93) rfl ((if0 _ _).trans (tlt hc).2.1) k) ?_
      show own_G _ _ _ _ _ _ _ (s₁.setTop (mkF m 96 #[.val (.long q1), .second, .val (.long q2), .second, .val (.int p3), .val (.long a), .second, .val (.long b), .second, .val (.int mo), .val (.long (a + b)), .second, .unset, .unset, .unset, .unset] []))
      refine own_st (fun t k => X0.ldc2Long hx hown (mvT hZ (hw _ (List.mem_of_getElem? (i := 0) rfl))) (g := (mkF m 96 #[.val (.long q1), .second, .val (.long q2), .second, .val (.int p3), .val (.long a), .second, .val (.long b), .second, .val (.int mo), .val (.long (a + b)), .second, .unset, .unset, .unset, .unset] [])) rfl (hb hby at_96) t k) ?_
      show own_G _ _ _ _ _ _ _ (s₁.setTop (mkF m 99 #[.val (.long q1), .second, .val (.long q2), .second, .val (.int p3), .val (.long a), .second, .val (.long b), .second, .val (.int mo), .val (.long (a + b)), .second, .unset, .unset, .unset, .unset] [(.long (9223372036854775807 : Int64))]))
      refine own_st (fun t k => XS.goto X0.here hx rfl (pc0 := 99) (pc' := 104) rfl (hb hby at_99) (by decide) (by decide) k) ?_
      show own_G _ _ _ _ _ _ _ (s₁.setTop (mkF m 104 #[.val (.long q1), .second, .val (.long q2), .second, .val (.int p3), .val (.long a), .second, .val (.long b), .second, .val (.int mo), .val (.long (a + b)), .second, .unset, .unset, .unset, .unset] [(.long (9223372036854775807 : Int64))]))
      exact K _ (pl.1 hc)
    · refine own_st (fun t k => XS.ifYes X0.here hx rfl (pc0 := 93) (pc' := 102) rfl (hb hby at_93) rfl ((if0 _ _).trans (flt hc).2.1) (by decide) (by decide) k) ?_
      show own_G _ _ _ _ _ _ _ (s₁.setTop (mkF m 102 #[.val (.long q1), .second, .val (.long q2), .second, .val (.int p3), .val (.long a), .second, .val (.long b), .second, .val (.int mo), .val (.long (a + b)), .second, .unset, .unset, .unset, .unset] []))
      refine own_st (fun t k => XS.lload X0.here hx rfl (hb hby at_102) rfl k) ?_
      show own_G _ _ _ _ _ _ _ (s₁.setTop (mkF m 104 #[.val (.long q1), .second, .val (.long q2), .second, .val (.int p3), .val (.long a), .second, .val (.long b), .second, .val (.int mo), .val (.long (a + b)), .second, .unset, .unset, .unset, .unset] [(.long (a + b))]))
      exact K _ (pl.2.1 hc)
  refine own_st (fun t k => XS.lloadN X0.here hx rfl (hb hby at_0) rfl k) ?_
  show own_G _ _ _ _ _ _ _ (s₁.setTop (mkF m 1 #[.val (.long q1), .second, .val (.long q2), .second, .val (.int p3), .unset, .unset, .unset, .unset, .unset, .unset, .unset, .unset, .unset, .unset, .unset] [(.long q1)]))
  refine own_st (fun t k => X0.ldc2Long hx hown (mvT hZ (hw _ (List.mem_of_getElem? (i := 0) rfl))) (g := (mkF m 1 #[.val (.long q1), .second, .val (.long q2), .second, .val (.int p3), .unset, .unset, .unset, .unset, .unset, .unset, .unset, .unset, .unset, .unset, .unset] [(.long q1)])) rfl (hb hby at_1) t k) ?_
  show own_G _ _ _ _ _ _ _ (s₁.setTop (mkF m 4 #[.val (.long q1), .second, .val (.long q2), .second, .val (.int p3), .unset, .unset, .unset, .unset, .unset, .unset, .unset, .unset, .unset, .unset, .unset] [(.long (9223372036854775807 : Int64)), (.long q1)]))
  refine own_st (fun t k => XS.land X0.here hx rfl (hb hby at_4) rfl k) ?_
  show own_G _ _ _ _ _ _ _ (s₁.setTop (mkF m 5 #[.val (.long q1), .second, .val (.long q2), .second, .val (.int p3), .unset, .unset, .unset, .unset, .unset, .unset, .unset, .unset, .unset, .unset, .unset] [(.long (q1 &&& (9223372036854775807 : Int64)))]))
  refine own_st (fun t k => XS.lstore X0.here hx rfl (hb hby at_5) rfl (l' := #[.val (.long q1), .second, .val (.long q2), .second, .val (.int p3), .val (.long (q1 &&& (9223372036854775807 : Int64))), .second, .unset, .unset, .unset, .unset, .unset, .unset, .unset, .unset, .unset]) rfl k) ?_
  show own_G _ _ _ _ _ _ _ (s₁.setTop (mkF m 7 #[.val (.long q1), .second, .val (.long q2), .second, .val (.int p3), .val (.long (q1 &&& (9223372036854775807 : Int64))), .second, .unset, .unset, .unset, .unset, .unset, .unset, .unset, .unset, .unset] []))
  refine own_st (fun t k => XS.lloadN X0.here hx rfl (hb hby at_7) rfl k) ?_
  show own_G _ _ _ _ _ _ _ (s₁.setTop (mkF m 8 #[.val (.long q1), .second, .val (.long q2), .second, .val (.int p3), .val (.long (q1 &&& (9223372036854775807 : Int64))), .second, .unset, .unset, .unset, .unset, .unset, .unset, .unset, .unset, .unset] [(.long q2)]))
  refine own_st (fun t k => X0.ldc2Long hx hown (mvT hZ (hw _ (List.mem_of_getElem? (i := 0) rfl))) (g := (mkF m 8 #[.val (.long q1), .second, .val (.long q2), .second, .val (.int p3), .val (.long (q1 &&& (9223372036854775807 : Int64))), .second, .unset, .unset, .unset, .unset, .unset, .unset, .unset, .unset, .unset] [(.long q2)])) rfl (hb hby at_8) t k) ?_
  show own_G _ _ _ _ _ _ _ (s₁.setTop (mkF m 11 #[.val (.long q1), .second, .val (.long q2), .second, .val (.int p3), .val (.long (q1 &&& (9223372036854775807 : Int64))), .second, .unset, .unset, .unset, .unset, .unset, .unset, .unset, .unset, .unset] [(.long (9223372036854775807 : Int64)), (.long q2)]))
  refine own_st (fun t k => XS.land X0.here hx rfl (hb hby at_11) rfl k) ?_
  show own_G _ _ _ _ _ _ _ (s₁.setTop (mkF m 12 #[.val (.long q1), .second, .val (.long q2), .second, .val (.int p3), .val (.long (q1 &&& (9223372036854775807 : Int64))), .second, .unset, .unset, .unset, .unset, .unset, .unset, .unset, .unset, .unset] [(.long (q2 &&& (9223372036854775807 : Int64)))]))
  refine own_st (fun t k => XS.lstore X0.here hx rfl (hb hby at_12) rfl (l' := #[.val (.long q1), .second, .val (.long q2), .second, .val (.int p3), .val (.long (q1 &&& (9223372036854775807 : Int64))), .second, .val (.long (q2 &&& (9223372036854775807 : Int64))), .second, .unset, .unset, .unset, .unset, .unset, .unset, .unset]) rfl k) ?_
  show own_G _ _ _ _ _ _ _ (s₁.setTop (mkF m 14 #[.val (.long q1), .second, .val (.long q2), .second, .val (.int p3), .val (.long (q1 &&& (9223372036854775807 : Int64))), .second, .val (.long (q2 &&& (9223372036854775807 : Int64))), .second, .unset, .unset, .unset, .unset, .unset, .unset, .unset] []))
  refine own_st (fun t k => XS.iload X0.here hx rfl (hb hby at_14) rfl k) ?_
  show own_G _ _ _ _ _ _ _ (s₁.setTop (mkF m 16 #[.val (.long q1), .second, .val (.long q2), .second, .val (.int p3), .val (.long (q1 &&& (9223372036854775807 : Int64))), .second, .val (.long (q2 &&& (9223372036854775807 : Int64))), .second, .unset, .unset, .unset, .unset, .unset, .unset, .unset] [(.int p3)]))
  refine own_st (fun t k => XS.iconst X0.here hx rfl (hb hby at_16) k) ?_
  show own_G _ _ _ _ _ _ _ (s₁.setTop (mkF m 17 #[.val (.long q1), .second, .val (.long q2), .second, .val (.int p3), .val (.long (q1 &&& (9223372036854775807 : Int64))), .second, .val (.long (q2 &&& (9223372036854775807 : Int64))), .second, .unset, .unset, .unset, .unset, .unset, .unset, .unset] [(.int (3 : Int32)), (.int p3)]))
  refine own_st (fun t k => XS.iand X0.here hx rfl (hb hby at_17) rfl k) ?_
  show own_G _ _ _ _ _ _ _ (s₁.setTop (mkF m 18 #[.val (.long q1), .second, .val (.long q2), .second, .val (.int p3), .val (.long (q1 &&& (9223372036854775807 : Int64))), .second, .val (.long (q2 &&& (9223372036854775807 : Int64))), .second, .unset, .unset, .unset, .unset, .unset, .unset, .unset] [(.int (p3 &&& (3 : Int32)))]))
  refine own_st (fun t k => XS.istore X0.here hx rfl (hb hby at_18) rfl (l' := #[.val (.long q1), .second, .val (.long q2), .second, .val (.int p3), .val (.long (q1 &&& (9223372036854775807 : Int64))), .second, .val (.long (q2 &&& (9223372036854775807 : Int64))), .second, .val (.int (p3 &&& (3 : Int32))), .unset, .unset, .unset, .unset, .unset, .unset]) rfl k) ?_
  show own_G _ _ _ _ _ _ _ (s₁.setTop (mkF m 20 #[.val (.long q1), .second, .val (.long q2), .second, .val (.int p3), .val (.long (q1 &&& (9223372036854775807 : Int64))), .second, .val (.long (q2 &&& (9223372036854775807 : Int64))), .second, .val (.int (p3 &&& (3 : Int32))), .unset, .unset, .unset, .unset, .unset, .unset] []))
  have na := own_nn q1 (9223372036854775807 : Int64) nM
  have nb := own_nn q2 (9223372036854775807 : Int64) nM
  generalize (q1 &&& (9223372036854775807 : Int64)) = a at na ⊢
  generalize (q2 &&& (9223372036854775807 : Int64)) = b at nb ⊢
  generalize (p3 &&& (3 : Int32)) = mo
  show own_G _ _ _ _ _ _ _ (s₁.setTop (mkF m 20 #[.val (.long q1), .second, .val (.long q2), .second, .val (.int p3), .val (.long a), .second, .val (.long b), .second, .val (.int mo), .unset, .unset, .unset, .unset, .unset, .unset] []))
  refine own_st (fun t k => XS.iload X0.here hx rfl (hb hby at_20) rfl k) ?_
  show own_G _ _ _ _ _ _ _ (s₁.setTop (mkF m 22 #[.val (.long q1), .second, .val (.long q2), .second, .val (.int p3), .val (.long a), .second, .val (.long b), .second, .val (.int mo), .unset, .unset, .unset, .unset, .unset, .unset] [(.int mo)]))
  refine own_st (fun t k => XS.iconst X0.here hx rfl (hb hby at_22) k) ?_
  show own_G _ _ _ _ _ _ _ (s₁.setTop (mkF m 23 #[.val (.long q1), .second, .val (.long q2), .second, .val (.int p3), .val (.long a), .second, .val (.long b), .second, .val (.int mo), .unset, .unset, .unset, .unset, .unset, .unset] [(.int (1 : Int32)), (.int mo)]))
  by_cases h1 : mo = (1 : Int32)
  · refine own_st (fun t k => XS.icmpNo X0.here hx rfl (hb hby at_23) rfl (teq h1).2 k) ?_
    show own_G _ _ _ _ _ _ _ (s₁.setTop (mkF m 26 #[.val (.long q1), .second, .val (.long q2), .second, .val (.int p3), .val (.long a), .second, .val (.long b), .second, .val (.int mo), .unset, .unset, .unset, .unset, .unset, .unset] []))
    refine own_st (fun t k => X0.ldc2Long hx hown (mvT hZ (hw _ (List.mem_of_getElem? (i := 0) rfl))) (g := (mkF m 26 #[.val (.long q1), .second, .val (.long q2), .second, .val (.int p3), .val (.long a), .second, .val (.long b), .second, .val (.int mo), .unset, .unset, .unset, .unset, .unset, .unset] [])) rfl (hb hby at_26) t k) ?_
    show own_G _ _ _ _ _ _ _ (s₁.setTop (mkF m 29 #[.val (.long q1), .second, .val (.long q2), .second, .val (.int p3), .val (.long a), .second, .val (.long b), .second, .val (.int mo), .unset, .unset, .unset, .unset, .unset, .unset] [(.long (9223372036854775807 : Int64))]))
    refine own_st (fun t k => XS.lload X0.here hx rfl (hb hby at_29) rfl k) ?_
    show own_G _ _ _ _ _ _ _ (s₁.setTop (mkF m 31 #[.val (.long q1), .second, .val (.long q2), .second, .val (.int p3), .val (.long a), .second, .val (.long b), .second, .val (.int mo), .unset, .unset, .unset, .unset, .unset, .unset] [(.long b), (.long (9223372036854775807 : Int64))]))
    refine own_st (fun t k => XS.lsub X0.here hx rfl (hb hby at_31) rfl k) ?_
    show own_G _ _ _ _ _ _ _ (s₁.setTop (mkF m 32 #[.val (.long q1), .second, .val (.long q2), .second, .val (.int p3), .val (.long a), .second, .val (.long b), .second, .val (.int mo), .unset, .unset, .unset, .unset, .unset, .unset] [(.long ((9223372036854775807 : Int64) - b))]))
    refine own_st (fun t k => XS.lstore X0.here hx rfl (hb hby at_32) rfl (l' := #[.val (.long q1), .second, .val (.long q2), .second, .val (.int p3), .val (.long ((9223372036854775807 : Int64) - b)), .second, .val (.long b), .second, .val (.int mo), .unset, .unset, .unset, .unset, .unset, .unset]) rfl k) ?_
    show own_G _ _ _ _ _ _ _ (s₁.setTop (mkF m 34 #[.val (.long q1), .second, .val (.long q2), .second, .val (.int p3), .val (.long ((9223372036854775807 : Int64) - b)), .second, .val (.long b), .second, .val (.int mo), .unset, .unset, .unset, .unset, .unset, .unset] []))
    refine own_st (fun t k => XS.goto X0.here hx rfl (pc0 := 34) (pc' := 82) rfl (hb hby at_34) (by decide) (by decide) k) ?_
    show own_G _ _ _ _ _ _ _ (s₁.setTop (mkF m 82 #[.val (.long q1), .second, .val (.long q2), .second, .val (.int p3), .val (.long ((9223372036854775807 : Int64) - b)), .second, .val (.long b), .second, .val (.int mo), .unset, .unset, .unset, .unset, .unset, .unset] []))
    exact J _ _ _ (own_mb _ eM _ nb) nb
  · refine own_st (fun t k => XS.icmpYes X0.here hx rfl (pc0 := 23) (pc' := 37) rfl (hb hby at_23) rfl (feq h1).2 (by decide) (by decide) k) ?_
    show own_G _ _ _ _ _ _ _ (s₁.setTop (mkF m 37 #[.val (.long q1), .second, .val (.long q2), .second, .val (.int p3), .val (.long a), .second, .val (.long b), .second, .val (.int mo), .unset, .unset, .unset, .unset, .unset, .unset] []))
    refine own_st (fun t k => XS.iload X0.here hx rfl (hb hby at_37) rfl k) ?_
    show own_G _ _ _ _ _ _ _ (s₁.setTop (mkF m 39 #[.val (.long q1), .second, .val (.long q2), .second, .val (.int p3), .val (.long a), .second, .val (.long b), .second, .val (.int mo), .unset, .unset, .unset, .unset, .unset, .unset] [(.int mo)]))
    refine own_st (fun t k => XS.iconst X0.here hx rfl (hb hby at_39) k) ?_
    show own_G _ _ _ _ _ _ _ (s₁.setTop (mkF m 40 #[.val (.long q1), .second, .val (.long q2), .second, .val (.int p3), .val (.long a), .second, .val (.long b), .second, .val (.int mo), .unset, .unset, .unset, .unset, .unset, .unset] [(.int (2 : Int32)), (.int mo)]))
    by_cases h2 : mo = (2 : Int32)
    · refine own_st (fun t k => XS.icmpNo X0.here hx rfl (hb hby at_40) rfl (teq h2).2 k) ?_
      show own_G _ _ _ _ _ _ _ (s₁.setTop (mkF m 43 #[.val (.long q1), .second, .val (.long q2), .second, .val (.int p3), .val (.long a), .second, .val (.long b), .second, .val (.int mo), .unset, .unset, .unset, .unset, .unset, .unset] []))
      refine own_st (fun t k => XS.lload X0.here hx rfl (hb hby at_43) rfl k) ?_
      show own_G _ _ _ _ _ _ _ (s₁.setTop (mkF m 45 #[.val (.long q1), .second, .val (.long q2), .second, .val (.int p3), .val (.long a), .second, .val (.long b), .second, .val (.int mo), .unset, .unset, .unset, .unset, .unset, .unset] [(.long b)]))
      refine own_st (fun t k => XS.lconst X0.here hx rfl (hb hby at_45) k) ?_
      show own_G _ _ _ _ _ _ _ (s₁.setTop (mkF m 46 #[.val (.long q1), .second, .val (.long q2), .second, .val (.int p3), .val (.long a), .second, .val (.long b), .second, .val (.int mo), .unset, .unset, .unset, .unset, .unset, .unset] [(.long (1 : Int64)), (.long b)]))
      refine own_st (fun t k => XS.lor X0.here hx rfl (hb hby at_46) rfl k) ?_
      show own_G _ _ _ _ _ _ _ (s₁.setTop (mkF m 47 #[.val (.long q1), .second, .val (.long q2), .second, .val (.int p3), .val (.long a), .second, .val (.long b), .second, .val (.int mo), .unset, .unset, .unset, .unset, .unset, .unset] [(.long (b ||| (1 : Int64)))]))
      refine own_st (fun t k => XS.lstore X0.here hx rfl (hb hby at_47) rfl (l' := #[.val (.long q1), .second, .val (.long q2), .second, .val (.int p3), .val (.long a), .second, .val (.long (b ||| (1 : Int64))), .second, .val (.int mo), .unset, .unset, .unset, .unset, .unset, .unset]) rfl k) ?_
      show own_G _ _ _ _ _ _ _ (s₁.setTop (mkF m 49 #[.val (.long q1), .second, .val (.long q2), .second, .val (.int p3), .val (.long a), .second, .val (.long (b ||| (1 : Int64))), .second, .val (.int mo), .unset, .unset, .unset, .unset, .unset, .unset] []))
      refine own_st (fun t k => X0.ldc2Long hx hown (mvT hZ (hw _ (List.mem_of_getElem? (i := 0) rfl))) (g := (mkF m 49 #[.val (.long q1), .second, .val (.long q2), .second, .val (.int p3), .val (.long a), .second, .val (.long (b ||| (1 : Int64))), .second, .val (.int mo), .unset, .unset, .unset, .unset, .unset, .unset] [])) rfl (hb hby at_49) t k) ?_
      show own_G _ _ _ _ _ _ _ (s₁.setTop (mkF m 52 #[.val (.long q1), .second, .val (.long q2), .second, .val (.int p3), .val (.long a), .second, .val (.long (b ||| (1 : Int64))), .second, .val (.int mo), .unset, .unset, .unset, .unset, .unset, .unset] [(.long (9223372036854775807 : Int64))]))
      refine own_st (fun t k => XS.lload X0.here hx rfl (hb hby at_52) rfl k) ?_
      show own_G _ _ _ _ _ _ _ (s₁.setTop (mkF m 54 #[.val (.long q1), .second, .val (.long q2), .second, .val (.int p3), .val (.long a), .second, .val (.long (b ||| (1 : Int64))), .second, .val (.int mo), .unset, .unset, .unset, .unset, .unset, .unset] [(.long (b ||| (1 : Int64))), (.long (9223372036854775807 : Int64))]))
      refine own_st (fun t k => XS.lsub X0.here hx rfl (hb hby at_54) rfl k) ?_
      show own_G _ _ _ _ _ _ _ (s₁.setTop (mkF m 55 #[.val (.long q1), .second, .val (.long q2), .second, .val (.int p3), .val (.long a), .second, .val (.long (b ||| (1 : Int64))), .second, .val (.int mo), .unset, .unset, .unset, .unset, .unset, .unset] [(.long ((9223372036854775807 : Int64) - (b ||| (1 : Int64))))]))
      refine own_st (fun t k => XS.lconst X0.here hx rfl (hb hby at_55) k) ?_
      show own_G _ _ _ _ _ _ _ (s₁.setTop (mkF m 56 #[.val (.long q1), .second, .val (.long q2), .second, .val (.int p3), .val (.long a), .second, .val (.long (b ||| (1 : Int64))), .second, .val (.int mo), .unset, .unset, .unset, .unset, .unset, .unset] [(.long (1 : Int64)), (.long ((9223372036854775807 : Int64) - (b ||| (1 : Int64))))]))
      refine own_st (fun t k => XS.ladd X0.here hx rfl (hb hby at_56) rfl k) ?_
      show own_G _ _ _ _ _ _ _ (s₁.setTop (mkF m 57 #[.val (.long q1), .second, .val (.long q2), .second, .val (.int p3), .val (.long a), .second, .val (.long (b ||| (1 : Int64))), .second, .val (.int mo), .unset, .unset, .unset, .unset, .unset, .unset] [(.long (((9223372036854775807 : Int64) - (b ||| (1 : Int64))) + (1 : Int64)))]))
      refine own_st (fun t k => XS.lstore X0.here hx rfl (hb hby at_57) rfl (l' := #[.val (.long q1), .second, .val (.long q2), .second, .val (.int p3), .val (.long (((9223372036854775807 : Int64) - (b ||| (1 : Int64))) + (1 : Int64))), .second, .val (.long (b ||| (1 : Int64))), .second, .val (.int mo), .unset, .unset, .unset, .unset, .unset, .unset]) rfl k) ?_
      show own_G _ _ _ _ _ _ _ (s₁.setTop (mkF m 59 #[.val (.long q1), .second, .val (.long q2), .second, .val (.int p3), .val (.long (((9223372036854775807 : Int64) - (b ||| (1 : Int64))) + (1 : Int64))), .second, .val (.long (b ||| (1 : Int64))), .second, .val (.int mo), .unset, .unset, .unset, .unset, .unset, .unset] []))
      refine own_st (fun t k => XS.goto X0.here hx rfl (pc0 := 59) (pc' := 82) rfl (hb hby at_59) (by decide) (by decide) k) ?_
      show own_G _ _ _ _ _ _ _ (s₁.setTop (mkF m 82 #[.val (.long q1), .second, .val (.long q2), .second, .val (.int p3), .val (.long (((9223372036854775807 : Int64) - (b ||| (1 : Int64))) + (1 : Int64))), .second, .val (.long (b ||| (1 : Int64))), .second, .val (.int mo), .unset, .unset, .unset, .unset, .unset, .unset] []))
      have n1 := own_or1 b nb
      exact J _ _ _ (own_mb1 _ eM _ n1) (Int.le_trans (by decide) n1)
    · refine own_st (fun t k => XS.icmpYes X0.here hx rfl (pc0 := 40) (pc' := 62) rfl (hb hby at_40) rfl (feq h2).2 (by decide) (by decide) k) ?_
      show own_G _ _ _ _ _ _ _ (s₁.setTop (mkF m 62 #[.val (.long q1), .second, .val (.long q2), .second, .val (.int p3), .val (.long a), .second, .val (.long b), .second, .val (.int mo), .unset, .unset, .unset, .unset, .unset, .unset] []))
      refine own_st (fun t k => XS.iload X0.here hx rfl (hb hby at_62) rfl k) ?_
      show own_G _ _ _ _ _ _ _ (s₁.setTop (mkF m 64 #[.val (.long q1), .second, .val (.long q2), .second, .val (.int p3), .val (.long a), .second, .val (.long b), .second, .val (.int mo), .unset, .unset, .unset, .unset, .unset, .unset] [(.int mo)]))
      refine own_st (fun t k => XS.iconst X0.here hx rfl (hb hby at_64) k) ?_
      show own_G _ _ _ _ _ _ _ (s₁.setTop (mkF m 65 #[.val (.long q1), .second, .val (.long q2), .second, .val (.int p3), .val (.long a), .second, .val (.long b), .second, .val (.int mo), .unset, .unset, .unset, .unset, .unset, .unset] [(.int (3 : Int32)), (.int mo)]))
      by_cases h3 : mo = (3 : Int32)
      · refine own_st (fun t k => XS.icmpNo X0.here hx rfl (hb hby at_65) rfl (teq h3).2 k) ?_
        show own_G _ _ _ _ _ _ _ (s₁.setTop (mkF m 68 #[.val (.long q1), .second, .val (.long q2), .second, .val (.int p3), .val (.long a), .second, .val (.long b), .second, .val (.int mo), .unset, .unset, .unset, .unset, .unset, .unset] []))
        refine own_st (fun t k => X0.ldc2Long hx hown (mvT hZ (hw _ (List.mem_of_getElem? (i := 0) rfl))) (g := (mkF m 68 #[.val (.long q1), .second, .val (.long q2), .second, .val (.int p3), .val (.long a), .second, .val (.long b), .second, .val (.int mo), .unset, .unset, .unset, .unset, .unset, .unset] [])) rfl (hb hby at_68) t k) ?_
        show own_G _ _ _ _ _ _ _ (s₁.setTop (mkF m 71 #[.val (.long q1), .second, .val (.long q2), .second, .val (.int p3), .val (.long a), .second, .val (.long b), .second, .val (.int mo), .unset, .unset, .unset, .unset, .unset, .unset] [(.long (9223372036854775807 : Int64))]))
        refine own_st (fun t k => XS.lload X0.here hx rfl (hb hby at_71) rfl k) ?_
        show own_G _ _ _ _ _ _ _ (s₁.setTop (mkF m 73 #[.val (.long q1), .second, .val (.long q2), .second, .val (.int p3), .val (.long a), .second, .val (.long b), .second, .val (.int mo), .unset, .unset, .unset, .unset, .unset, .unset] [(.long b), (.long (9223372036854775807 : Int64))]))
        refine own_st (fun t k => XS.lsub X0.here hx rfl (hb hby at_73) rfl k) ?_
        show own_G _ _ _ _ _ _ _ (s₁.setTop (mkF m 74 #[.val (.long q1), .second, .val (.long q2), .second, .val (.int p3), .val (.long a), .second, .val (.long b), .second, .val (.int mo), .unset, .unset, .unset, .unset, .unset, .unset] [(.long ((9223372036854775807 : Int64) - b))]))
        refine own_st (fun t k => XS.lconst X0.here hx rfl (hb hby at_74) k) ?_
        show own_G _ _ _ _ _ _ _ (s₁.setTop (mkF m 75 #[.val (.long q1), .second, .val (.long q2), .second, .val (.int p3), .val (.long a), .second, .val (.long b), .second, .val (.int mo), .unset, .unset, .unset, .unset, .unset, .unset] [(.long (1 : Int64)), (.long ((9223372036854775807 : Int64) - b))]))
        refine own_st (fun t k => XS.lsub X0.here hx rfl (hb hby at_75) rfl k) ?_
        show own_G _ _ _ _ _ _ _ (s₁.setTop (mkF m 76 #[.val (.long q1), .second, .val (.long q2), .second, .val (.int p3), .val (.long a), .second, .val (.long b), .second, .val (.int mo), .unset, .unset, .unset, .unset, .unset, .unset] [(.long (((9223372036854775807 : Int64) - b) - (1 : Int64)))]))
        refine own_st (fun t k => XS.lconst X0.here hx rfl (hb hby at_76) k) ?_
        show own_G _ _ _ _ _ _ _ (s₁.setTop (mkF m 77 #[.val (.long q1), .second, .val (.long q2), .second, .val (.int p3), .val (.long a), .second, .val (.long b), .second, .val (.int mo), .unset, .unset, .unset, .unset, .unset, .unset] [(.long (0 : Int64)), (.long (((9223372036854775807 : Int64) - b) - (1 : Int64)))]))
        obtain ⟨_, _, ⟨T2, L2, k2, n2⟩, -, X2, ⟨Lc2, hQ2, l2, y2, z2⟩, st2⟩ := Jvm.LawKit.callS X0 hx (y := (⟨"java/lang/Math", "max", "(JJ)J"⟩ : MethodName)) hown (mvT hZ (hw _ (List.mem_of_getElem? (i := 6) rfl))) (mvT hZ (hw _ (List.mem_of_getElem? (i := 7) rfl))) (mvT hZ (hw _ (List.mem_of_getElem? (i := 8) rfl))) (mvT hZ (hw _ (List.mem_of_getElem? (i := 9) rfl))) (by decide) (backOf (W := 0) (own_rm2 l Z a0 hw [] (((9223372036854775807 : Int64) - b) - (1 : Int64)) (0 : Int64) h0 n0 Z0) hZ (hw _ (List.mem_of_getElem? (i := 9) rfl)) (hw _ (List.mem_of_getElem? (i := 8) rfl)) (by decide) (by decide)) (g := (mkF m 77 #[.val (.long q1), .second, .val (.long q2), .second, .val (.int p3), .val (.long a), .second, .val (.long b), .second, .val (.int mo), .unset, .unset, .unset, .unset, .unset, .unset] [(.long (0 : Int64)), (.long (((9223372036854775807 : Int64) - b) - (1 : Int64)))])) rfl (by rw [hml]; rfl) (argsL := [(.long (((9223372036854775807 : Int64) - b) - (1 : Int64))), (.long (0 : Int64))]) (rest := []) (lenOf own_pd0 rfl) rfl (by show 2 * 0 + _ ≤ _; exact Nat.le_of_eq rfl) (hb hby at_77) (fun _ _ => ⟨rfl, e0, (by decide : 0 + 0 ≤ _), (by decide : 0 + 0 ≤ _)⟩)
        dsimp only [Pt.U, Pt.locs, Pt.cells, Pt.slots] at X2 l2 y2 z2 st2 hQ2
        subst l2 y2 z2
        obtain ⟨rfl, N2q, e2⟩ := hQ2
        have N2 := Fr.app N0 N2q
        refine own_st (fun t k => st2 t k) ?_
        show own_G _ _ _ _ _ _ _ (T2.setTop (mkF m 80 #[.val (.long q1), .second, .val (.long q2), .second, .val (.int p3), .val (.long a), .second, .val (.long b), .second, .val (.int mo), .unset, .unset, .unset, .unset, .unset, .unset] [(.long (own_max (((9223372036854775807 : Int64) - b) - (1 : Int64)) (0 : Int64)))]))
        have J2 : ∀ (a b : Int64) (mo : Int32), 0 ≤ a.toInt → 0 ≤ b.toInt → own_G p.tables e below s (own_Q0 n0) room_1.cells room_1.slots (T2.setTop (mkF m 82 #[.val (.long q1), .second, .val (.long q2), .second, .val (.int p3), .val (.long a), .second, .val (.long b), .second, .val (.int mo), .unset, .unset, .unset, .unset, .unset, .unset] [])) := by
          intro a b mo hna hnb
          have pl := own_pl (9223372036854775807 : Int64) eM a b hna hnb
          refine own_st (fun t k => XS.lload X2.here hx rfl (hb hby at_82) rfl k) ?_
          show own_G _ _ _ _ _ _ _ (T2.setTop (mkF m 84 #[.val (.long q1), .second, .val (.long q2), .second, .val (.int p3), .val (.long a), .second, .val (.long b), .second, .val (.int mo), .unset, .unset, .unset, .unset, .unset, .unset] [(.long a)]))
          refine own_st (fun t k => XS.lload X2.here hx rfl (hb hby at_84) rfl k) ?_
          show own_G _ _ _ _ _ _ _ (T2.setTop (mkF m 86 #[.val (.long q1), .second, .val (.long q2), .second, .val (.int p3), .val (.long a), .second, .val (.long b), .second, .val (.int mo), .unset, .unset, .unset, .unset, .unset, .unset] [(.long b), (.long a)]))
          refine own_st (fun t k => XS.ladd X2.here hx rfl (hb hby at_86) rfl k) ?_
          show own_G _ _ _ _ _ _ _ (T2.setTop (mkF m 87 #[.val (.long q1), .second, .val (.long q2), .second, .val (.int p3), .val (.long a), .second, .val (.long b), .second, .val (.int mo), .unset, .unset, .unset, .unset, .unset, .unset] [(.long (a + b))]))
          refine own_st (fun t k => XS.lstore X2.here hx rfl (hb hby at_87) rfl (l' := #[.val (.long q1), .second, .val (.long q2), .second, .val (.int p3), .val (.long a), .second, .val (.long b), .second, .val (.int mo), .val (.long (a + b)), .second, .unset, .unset, .unset, .unset]) rfl k) ?_
          show own_G _ _ _ _ _ _ _ (T2.setTop (mkF m 89 #[.val (.long q1), .second, .val (.long q2), .second, .val (.int p3), .val (.long a), .second, .val (.long b), .second, .val (.int mo), .val (.long (a + b)), .second, .unset, .unset, .unset, .unset] []))
          have K : ∀ (v : Int64), v = own_sum (9223372036854775807 : Int64) a b → own_G p.tables e below s (own_Q0 n0) room_1.cells room_1.slots (T2.setTop (mkF m 104 #[.val (.long q1), .second, .val (.long q2), .second, .val (.int p3), .val (.long a), .second, .val (.long b), .second, .val (.int mo), .val (.long (a + b)), .second, .unset, .unset, .unset, .unset] [(.long v)])) := by
            intro v hv
            refine own_st (fun t k => XS.lstore X2.here hx rfl (hb hby at_104) rfl (l' := #[.val (.long q1), .second, .val (.long q2), .second, .val (.int p3), .val (.long a), .second, .val (.long b), .second, .val (.int mo), .val (.long (a + b)), .second, .val (.long v), .second, .unset, .unset]) rfl k) ?_
            show own_G _ _ _ _ _ _ _ (T2.setTop (mkF m 106 #[.val (.long q1), .second, .val (.long q2), .second, .val (.int p3), .val (.long a), .second, .val (.long b), .second, .val (.int mo), .val (.long (a + b)), .second, .val (.long v), .second, .unset, .unset] []))
            refine own_st (fun t k => XS.lload X2.here hx rfl (hb hby at_106) rfl k) ?_
            show own_G _ _ _ _ _ _ _ (T2.setTop (mkF m 108 #[.val (.long q1), .second, .val (.long q2), .second, .val (.int p3), .val (.long a), .second, .val (.long b), .second, .val (.int mo), .val (.long (a + b)), .second, .val (.long v), .second, .unset, .unset] [(.long a)]))
            refine own_st (fun t k => XS.lload X2.here hx rfl (hb hby at_108) rfl k) ?_
            show own_G _ _ _ _ _ _ _ (T2.setTop (mkF m 110 #[.val (.long q1), .second, .val (.long q2), .second, .val (.int p3), .val (.long a), .second, .val (.long b), .second, .val (.int mo), .val (.long (a + b)), .second, .val (.long v), .second, .unset, .unset] [(.long b), (.long a)]))
            obtain ⟨_, _, ⟨T3, L3, k3, n3⟩, -, X3, ⟨Lc3, hQ3, l3, y3, z3⟩, st3⟩ := Jvm.LawKit.callS X2 hx (y := (⟨"com/example/strigine/strigine/ValueSet", "sum", "(JJ)J"⟩ : MethodName)) hown (mvT hZ (hw _ (List.mem_of_getElem? (i := 1) rfl))) (mvT hZ (hw _ (List.mem_of_getElem? (i := 2) rfl))) (mvT hZ (hw _ (List.mem_of_getElem? (i := 3) rfl))) (mvT hZ (hw _ (List.mem_of_getElem? (i := 4) rfl))) (by decide) (backOf (W := 0) (own_rm1 l Z a0 hw [] a b h0 n0 Z0) hZ (hw _ (List.mem_of_getElem? (i := 4) rfl)) (hw _ (List.mem_of_getElem? (i := 3) rfl)) (by decide) (by decide)) (g := (mkF m 110 #[.val (.long q1), .second, .val (.long q2), .second, .val (.int p3), .val (.long a), .second, .val (.long b), .second, .val (.int mo), .val (.long (a + b)), .second, .val (.long v), .second, .unset, .unset] [(.long b), (.long a)])) rfl (by rw [hml]; rfl) (argsL := [(.long a), (.long b)]) (rest := []) (lenOf own_pd0 rfl) rfl (by show 2 * 0 + _ ≤ _; exact Nat.le_of_eq rfl) (hb hby at_110) (fun _ _ => ⟨rfl, e2, (by decide : 0 + 0 ≤ _), (by decide : 0 + 0 ≤ _)⟩)
            dsimp only [Pt.U, Pt.locs, Pt.cells, Pt.slots] at X3 l3 y3 z3 st3 hQ3
            subst l3 y3 z3
            obtain ⟨rfl, N3q, e3⟩ := hQ3
            have N3 := Fr.app N2 N3q
            refine own_st (fun t k => st3 t k) ?_
            show own_G _ _ _ _ _ _ _ (T3.setTop (mkF m 113 #[.val (.long q1), .second, .val (.long q2), .second, .val (.int p3), .val (.long a), .second, .val (.long b), .second, .val (.int mo), .val (.long (a + b)), .second, .val (.long v), .second, .unset, .unset] [(.long (own_sum (9223372036854775807 : Int64) a b))]))
            refine own_st (fun t k => XS.lstore X3.here hx rfl (hb hby at_113) rfl (l' := #[.val (.long q1), .second, .val (.long q2), .second, .val (.int p3), .val (.long a), .second, .val (.long b), .second, .val (.int mo), .val (.long (a + b)), .second, .val (.long v), .second, .val (.long (own_sum (9223372036854775807 : Int64) a b)), .second]) rfl k) ?_
            show own_G _ _ _ _ _ _ _ (T3.setTop (mkF m 115 #[.val (.long q1), .second, .val (.long q2), .second, .val (.int p3), .val (.long a), .second, .val (.long b), .second, .val (.int mo), .val (.long (a + b)), .second, .val (.long v), .second, .val (.long (own_sum (9223372036854775807 : Int64) a b)), .second] []))
            refine own_st (fun t k => XS.lload X3.here hx rfl (hb hby at_115) rfl k) ?_
            show own_G _ _ _ _ _ _ _ (T3.setTop (mkF m 117 #[.val (.long q1), .second, .val (.long q2), .second, .val (.int p3), .val (.long a), .second, .val (.long b), .second, .val (.int mo), .val (.long (a + b)), .second, .val (.long v), .second, .val (.long (own_sum (9223372036854775807 : Int64) a b)), .second] [(.long (own_sum (9223372036854775807 : Int64) a b))]))
            refine own_st (fun t k => XS.lload X3.here hx rfl (hb hby at_117) rfl k) ?_
            show own_G _ _ _ _ _ _ _ (T3.setTop (mkF m 119 #[.val (.long q1), .second, .val (.long q2), .second, .val (.int p3), .val (.long a), .second, .val (.long b), .second, .val (.int mo), .val (.long (a + b)), .second, .val (.long v), .second, .val (.long (own_sum (9223372036854775807 : Int64) a b)), .second] [(.long v), (.long (own_sum (9223372036854775807 : Int64) a b))]))
            refine own_st (fun t k => XS.lcmp X3.here hx rfl (hb hby at_119) rfl k) ?_
            show own_G _ _ _ _ _ _ _ (T3.setTop (mkF m 120 #[.val (.long q1), .second, .val (.long q2), .second, .val (.int p3), .val (.long a), .second, .val (.long b), .second, .val (.int mo), .val (.long (a + b)), .second, .val (.long v), .second, .val (.long (own_sum (9223372036854775807 : Int64) a b)), .second] [(.int (lcmpW (own_sum (9223372036854775807 : Int64) a b) v))]))
            refine own_st (fun t k => XS.ifNo X3.here hx rfl (hb hby at_120) rfl ((if0 _ _).trans (teq ((lw_eq _ _).mpr hv.symm)).2) k) ?_
            show own_G _ _ _ _ _ _ _ (T3.setTop (mkF m 123 #[.val (.long q1), .second, .val (.long q2), .second, .val (.int p3), .val (.long a), .second, .val (.long b), .second, .val (.int mo), .val (.long (a + b)), .second, .val (.long v), .second, .val (.long (own_sum (9223372036854775807 : Int64) a b)), .second] []))
            refine own_st (fun t k => XS.lload X3.here hx rfl (hb hby at_123) rfl k) ?_
            show own_G _ _ _ _ _ _ _ (T3.setTop (mkF m 125 #[.val (.long q1), .second, .val (.long q2), .second, .val (.int p3), .val (.long a), .second, .val (.long b), .second, .val (.int mo), .val (.long (a + b)), .second, .val (.long v), .second, .val (.long (own_sum (9223372036854775807 : Int64) a b)), .second] [(.long (own_sum (9223372036854775807 : Int64) a b))]))
            refine own_st (fun t k => XS.lconst X3.here hx rfl (hb hby at_125) k) ?_
            show own_G _ _ _ _ _ _ _ (T3.setTop (mkF m 126 #[.val (.long q1), .second, .val (.long q2), .second, .val (.int p3), .val (.long a), .second, .val (.long b), .second, .val (.int mo), .val (.long (a + b)), .second, .val (.long v), .second, .val (.long (own_sum (9223372036854775807 : Int64) a b)), .second] [(.long (0 : Int64)), (.long (own_sum (9223372036854775807 : Int64) a b))]))
            refine own_st (fun t k => XS.lcmp X3.here hx rfl (hb hby at_126) rfl k) ?_
            show own_G _ _ _ _ _ _ _ (T3.setTop (mkF m 127 #[.val (.long q1), .second, .val (.long q2), .second, .val (.int p3), .val (.long a), .second, .val (.long b), .second, .val (.int mo), .val (.long (a + b)), .second, .val (.long v), .second, .val (.long (own_sum (9223372036854775807 : Int64) a b)), .second] [(.int (lcmpW (own_sum (9223372036854775807 : Int64) a b) (0 : Int64)))]))
            refine own_st (fun t k => XS.ifNo X3.here hx rfl (hb hby at_127) rfl ((if0 _ _).trans (flt pl.2.2.1).1) k) ?_
            show own_G _ _ _ _ _ _ _ (T3.setTop (mkF m 130 #[.val (.long q1), .second, .val (.long q2), .second, .val (.int p3), .val (.long a), .second, .val (.long b), .second, .val (.int mo), .val (.long (a + b)), .second, .val (.long v), .second, .val (.long (own_sum (9223372036854775807 : Int64) a b)), .second] []))
            refine own_st (fun t k => XS.lload X3.here hx rfl (hb hby at_130) rfl k) ?_
            show own_G _ _ _ _ _ _ _ (T3.setTop (mkF m 132 #[.val (.long q1), .second, .val (.long q2), .second, .val (.int p3), .val (.long a), .second, .val (.long b), .second, .val (.int mo), .val (.long (a + b)), .second, .val (.long v), .second, .val (.long (own_sum (9223372036854775807 : Int64) a b)), .second] [(.long (own_sum (9223372036854775807 : Int64) a b))]))
            refine own_st (fun t k => XS.lload X3.here hx rfl (hb hby at_132) rfl k) ?_
            show own_G _ _ _ _ _ _ _ (T3.setTop (mkF m 134 #[.val (.long q1), .second, .val (.long q2), .second, .val (.int p3), .val (.long a), .second, .val (.long b), .second, .val (.int mo), .val (.long (a + b)), .second, .val (.long v), .second, .val (.long (own_sum (9223372036854775807 : Int64) a b)), .second] [(.long a), (.long (own_sum (9223372036854775807 : Int64) a b))]))
            refine own_st (fun t k => XS.lcmp X3.here hx rfl (hb hby at_134) rfl k) ?_
            show own_G _ _ _ _ _ _ _ (T3.setTop (mkF m 135 #[.val (.long q1), .second, .val (.long q2), .second, .val (.int p3), .val (.long a), .second, .val (.long b), .second, .val (.int mo), .val (.long (a + b)), .second, .val (.long v), .second, .val (.long (own_sum (9223372036854775807 : Int64) a b)), .second] [(.int (lcmpW (own_sum (9223372036854775807 : Int64) a b) a))]))
            refine own_st (fun t k => XS.ifNo X3.here hx rfl (hb hby at_135) rfl ((if0 _ _).trans (flt pl.2.2.2.1).1) k) ?_
            show own_G _ _ _ _ _ _ _ (T3.setTop (mkF m 138 #[.val (.long q1), .second, .val (.long q2), .second, .val (.int p3), .val (.long a), .second, .val (.long b), .second, .val (.int mo), .val (.long (a + b)), .second, .val (.long v), .second, .val (.long (own_sum (9223372036854775807 : Int64) a b)), .second] []))
            refine own_st (fun t k => XS.lload X3.here hx rfl (hb hby at_138) rfl k) ?_
            show own_G _ _ _ _ _ _ _ (T3.setTop (mkF m 140 #[.val (.long q1), .second, .val (.long q2), .second, .val (.int p3), .val (.long a), .second, .val (.long b), .second, .val (.int mo), .val (.long (a + b)), .second, .val (.long v), .second, .val (.long (own_sum (9223372036854775807 : Int64) a b)), .second] [(.long (own_sum (9223372036854775807 : Int64) a b))]))
            refine own_st (fun t k => XS.lload X3.here hx rfl (hb hby at_140) rfl k) ?_
            show own_G _ _ _ _ _ _ _ (T3.setTop (mkF m 142 #[.val (.long q1), .second, .val (.long q2), .second, .val (.int p3), .val (.long a), .second, .val (.long b), .second, .val (.int mo), .val (.long (a + b)), .second, .val (.long v), .second, .val (.long (own_sum (9223372036854775807 : Int64) a b)), .second] [(.long b), (.long (own_sum (9223372036854775807 : Int64) a b))]))
            refine own_st (fun t k => XS.lcmp X3.here hx rfl (hb hby at_142) rfl k) ?_
            show own_G _ _ _ _ _ _ _ (T3.setTop (mkF m 143 #[.val (.long q1), .second, .val (.long q2), .second, .val (.int p3), .val (.long a), .second, .val (.long b), .second, .val (.int mo), .val (.long (a + b)), .second, .val (.long v), .second, .val (.long (own_sum (9223372036854775807 : Int64) a b)), .second] [(.int (lcmpW (own_sum (9223372036854775807 : Int64) a b) b))]))
            refine own_st (fun t k => XS.ifNo X3.here hx rfl (hb hby at_143) rfl ((if0 _ _).trans (flt pl.2.2.2.2).1) k) ?_
            show own_G _ _ _ _ _ _ _ (T3.setTop (mkF m 146 #[.val (.long q1), .second, .val (.long q2), .second, .val (.int p3), .val (.long a), .second, .val (.long b), .second, .val (.int mo), .val (.long (a + b)), .second, .val (.long v), .second, .val (.long (own_sum (9223372036854775807 : Int64) a b)), .second] []))
            refine own_st (fun t k => XS.iconst X3.here hx rfl (hb hby at_146) k) ?_
            show own_G _ _ _ _ _ _ _ (T3.setTop (mkF m 147 #[.val (.long q1), .second, .val (.long q2), .second, .val (.int p3), .val (.long a), .second, .val (.long b), .second, .val (.int mo), .val (.long (a + b)), .second, .val (.long v), .second, .val (.long (own_sum (9223372036854775807 : Int64) a b)), .second] [(.int (1 : Int32))]))
            refine own_st (fun t k => XS.goto X3.here hx rfl (pc0 := 147) (pc' := 151) rfl (hb hby at_147) (by decide) (by decide) k) ?_
            show own_G _ _ _ _ _ _ _ (T3.setTop (mkF m 151 #[.val (.long q1), .second, .val (.long q2), .second, .val (.int p3), .val (.long a), .second, .val (.long b), .second, .val (.int mo), .val (.long (a + b)), .second, .val (.long v), .second, .val (.long (own_sum (9223372036854775807 : Int64) a b)), .second] [(.int (1 : Int32))]))
            exact own_retN (t := .boolean) (by simp) X3 hx Bd.returns (BodyLoose.notSynchronized Bd) (hb hby at_151) (by decide) (by decide) ⟨rfl, N3⟩
          refine own_st (fun t k => XS.lload X2.here hx rfl (hb hby at_89) rfl k) ?_
          show own_G _ _ _ _ _ _ _ (T2.setTop (mkF m 91 #[.val (.long q1), .second, .val (.long q2), .second, .val (.int p3), .val (.long a), .second, .val (.long b), .second, .val (.int mo), .val (.long (a + b)), .second, .unset, .unset, .unset, .unset] [(.long (a + b))]))
          refine own_st (fun t k => XS.lconst X2.here hx rfl (hb hby at_91) k) ?_
          show own_G _ _ _ _ _ _ _ (T2.setTop (mkF m 92 #[.val (.long q1), .second, .val (.long q2), .second, .val (.int p3), .val (.long a), .second, .val (.long b), .second, .val (.int mo), .val (.long (a + b)), .second, .unset, .unset, .unset, .unset] [(.long (0 : Int64)), (.long (a + b))]))
          refine own_st (fun t k => XS.lcmp X2.here hx rfl (hb hby at_92) rfl k) ?_
          show own_G _ _ _ _ _ _ _ (T2.setTop (mkF m 93 #[.val (.long q1), .second, .val (.long q2), .second, .val (.int p3), .val (.long a), .second, .val (.long b), .second, .val (.int mo), .val (.long (a + b)), .second, .unset, .unset, .unset, .unset] [(.int (lcmpW (a + b) (0 : Int64)))]))
          by_cases hc : (lcmpW (a + b) (0 : Int64)) < (0 : Int32)
          · refine own_st (fun t k => XS.ifNo X2.here hx rfl (hb hby at_93) rfl ((if0 _ _).trans (tlt hc).2.1) k) ?_
            show own_G _ _ _ _ _ _ _ (T2.setTop (mkF m 96 #[.val (.long q1), .second, .val (.long q2), .second, .val (.int p3), .val (.long a), .second, .val (.long b), .second, .val (.int mo), .val (.long (a + b)), .second, .unset, .unset, .unset, .unset] []))
            refine own_st (fun t k => X2.ldc2Long hx hown (mvT hZ (hw _ (List.mem_of_getElem? (i := 0) rfl))) (g := (mkF m 96 #[.val (.long q1), .second, .val (.long q2), .second, .val (.int p3), .val (.long a), .second, .val (.long b), .second, .val (.int mo), .val (.long (a + b)), .second, .unset, .unset, .unset, .unset] [])) rfl (hb hby at_96) t k) ?_
            show own_G _ _ _ _ _ _ _ (T2.setTop (mkF m 99 #[.val (.long q1), .second, .val (.long q2), .second, .val (.int p3), .val (.long a), .second, .val (.long b), .second, .val (.int mo), .val (.long (a + b)), .second, .unset, .unset, .unset, .unset] [(.long (9223372036854775807 : Int64))]))
            refine own_st (fun t k => XS.goto X2.here hx rfl (pc0 := 99) (pc' := 104) rfl (hb hby at_99) (by decide) (by decide) k) ?_
            show own_G _ _ _ _ _ _ _ (T2.setTop (mkF m 104 #[.val (.long q1), .second, .val (.long q2), .second, .val (.int p3), .val (.long a), .second, .val (.long b), .second, .val (.int mo), .val (.long (a + b)), .second, .unset, .unset, .unset, .unset] [(.long (9223372036854775807 : Int64))]))
            exact K _ (pl.1 hc)
          · refine own_st (fun t k => XS.ifYes X2.here hx rfl (pc0 := 93) (pc' := 102) rfl (hb hby at_93) rfl ((if0 _ _).trans (flt hc).2.1) (by decide) (by decide) k) ?_
            show own_G _ _ _ _ _ _ _ (T2.setTop (mkF m 102 #[.val (.long q1), .second, .val (.long q2), .second, .val (.int p3), .val (.long a), .second, .val (.long b), .second, .val (.int mo), .val (.long (a + b)), .second, .unset, .unset, .unset, .unset] []))
            refine own_st (fun t k => XS.lload X2.here hx rfl (hb hby at_102) rfl k) ?_
            show own_G _ _ _ _ _ _ _ (T2.setTop (mkF m 104 #[.val (.long q1), .second, .val (.long q2), .second, .val (.int p3), .val (.long a), .second, .val (.long b), .second, .val (.int mo), .val (.long (a + b)), .second, .unset, .unset, .unset, .unset] [(.long (a + b))]))
            exact K _ (pl.2.1 hc)
        refine own_st (fun t k => XS.lstore X2.here hx rfl (hb hby at_80) rfl (l' := #[.val (.long q1), .second, .val (.long q2), .second, .val (.int p3), .val (.long (own_max (((9223372036854775807 : Int64) - b) - (1 : Int64)) (0 : Int64))), .second, .val (.long b), .second, .val (.int mo), .unset, .unset, .unset, .unset, .unset, .unset]) rfl k) ?_
        show own_G _ _ _ _ _ _ _ (T2.setTop (mkF m 82 #[.val (.long q1), .second, .val (.long q2), .second, .val (.int p3), .val (.long (own_max (((9223372036854775807 : Int64) - b) - (1 : Int64)) (0 : Int64))), .second, .val (.long b), .second, .val (.int mo), .unset, .unset, .unset, .unset, .unset, .unset] []))
        exact J2 _ _ _ (own_mx _) nb
      · refine own_st (fun t k => XS.icmpYes X0.here hx rfl (pc0 := 65) (pc' := 82) rfl (hb hby at_65) rfl (feq h3).2 (by decide) (by decide) k) ?_
        show own_G _ _ _ _ _ _ _ (s₁.setTop (mkF m 82 #[.val (.long q1), .second, .val (.long q2), .second, .val (.int p3), .val (.long a), .second, .val (.long b), .second, .val (.int mo), .unset, .unset, .unset, .unset, .unset, .unset] []))
        exact J _ _ _ na nb
set_option maxRecDepth 65536 in
set_option maxHeartbeats 40000000 in
theorem own_comes {Post : Tables → Env → Array Value → State → Outcome → State → Prop} (hpost : ∀ tb e args s v u, (limb_1_1.after args s (.returned v) u = true ∧ limb_1_2.after args s (.returned v) u = true ∧ True) → FrameEnd s (.returned v) u (Jvm.fieldLocs frame_1_writes args s ++ Jvm.arrayLocs frame_1_arrays args s ++ Jvm.staticLocs frame_1_statics s) 0 0 → Post tb e args s (.returned v) u) :
    ArmFor flags0 classFile x code maxLocals ret World_1 tables_1 room_1 Calls_1 rest_1 Pre_1 Post := by
  intro l hfl _ _ p e ha hc hk s m args below hf hA hF happ hP
  obtain ⟨hcalls, hrest, hpre⟩ := hP
  obtain ⟨-, -, -, hnamed, -, -, -, hat⟩ := (Spec.applies_iff hf).mp happ
  obtain ⟨hg, hn⟩ := and_e (Cond.before_iff.mp (show (Jvm.Cond.and given_1 narrow_1).before args s = true from hpre))
  obtain ⟨gc, ga0⟩ := and_e hg
  obtain ⟨gi0, ga1⟩ := and_e ga0
  obtain ⟨gi1, ga2⟩ := and_e ga1
  obtain ⟨w0, w1, w2, rfl⟩ : ∃ w0 w1 w2 : Value, args = #[w0, w1, w2] := by
    have hs : args.size = 3 := by simpa [Cond.value, given_1] using gc
    obtain ⟨L⟩ := args
    match L, hs with
    | [w0, w1, w2], _ => exact ⟨w0, w1, w2, rfl⟩
  have hw := fun d (hd : d ∈ tables_1) => atoms_spec (ws := Jvm.Cond.code x code maxLocals ret :: tables_1) hat d (List.mem_cons_of_mem _ hd)
  have hfit : Fit s := fun {y c} hc i hi => by
    obtain ⟨ha, rfl⟩ := Array.getElem?_eq_some_iff.mp hc
    have q := List.all_eq_true.mp ((Array.all_eq_true_iff_forall_mem.mp hF) _ (Array.getElem_mem ha)) i (List.mem_range.mpr hi)
    simpa [Array.getElem?_eq_getElem hi] using q
  obtain ⟨i0, ei0⟩ := isL_v gi0
  obtain rfl : w0 = (.long i0) := Option.some.inj ei0
  obtain ⟨i1, ei1⟩ := isL_v gi1
  obtain rfl : w1 = (.long i1) := Option.some.inj ei1
  obtain ⟨i2, ei2⟩ := is_v ga2
  obtain rfl : w2 = (.int i2) := Option.some.inj ei2
  obtain ⟨n, o, h1, h2, h3, _, L, rfl, ⟨rfl, N⟩, hq⟩ := own_rm0 l s _ hw tables_1 i0 i1 i2 s.heap s.heap.size (Nat.le_refl _)  p e ha hc hk s m _ below hf ((Spec.applies_iff_loose hf).mp happ).1 ⟨rfl, State.Warmed39.refl s, rfl⟩ trivial
  refine ⟨n, _, h1, h2, h3, hpost _ _ _ _ _ _ ⟨Cond.after_iff.mpr rfl, Cond.after_iff.mpr (eq_i res_at (Term.int_eval (1)) rfl), trivial⟩ ⟨hq.1, hq.2.1, (hq.2.2.sift fun y hy => Or.inr (N y hy)).mono (by decide) (by decide)⟩⟩
theorem main_1_1 : Claimed_1_1 := own_comes fun _ _ _ _ _ _ h hF => ⟨h.1, hF⟩
theorem main_1_2 : Claimed_1_2 := own_comes fun _ _ _ _ _ _ h hF => ⟨h.2.1, hF⟩
end Jvm.Pilot.@@N@@
namespace Jvm.Pilot.@@N@@
open Jvm Jvm.ClassFile Sem Op Lib Jvm.Free Jvm.Stand Jvm.Pilot.@@N@@.Jvm.D
/-! MADE BY PROGRAM (witnessworld.py) out of the Statement's table words and the real class files: 10 classes; the members and pool entries that the words name. The judged class is class 1, her method 1. -/
namespace start1
open Jvm.ClassFile
def u (s : String) : CpInfo := .utf8 (stringToUtf16 s)
/-- a pool by its gaps: so many unusable entries, then the entry; so many at the end -/
def gap : Nat → List CpInfo → List CpInfo
  | 0, r => r
  | n + 1, r => .unusable :: gap n r
def poolList (es : List (Nat × CpInfo)) (last : Nat) : List CpInfo := es.foldr (fun e r => gap e.1 (e.2 :: r)) (gap last [])
def pool (es : List (Nat × CpInfo)) (last : Nat) : Array CpInfo := ⟨poolList es last⟩
def fileOf (pool : Array CpInfo) (this : Nat) (attrs : Array Attribute := #[]) (ms : Array MethodInfo := #[]) (fl : Nat := 33) (sup : Nat := 0) (ifs : Array Nat := #[]) (fds : Array FieldInfo := #[]) : ClassFile where
  minorVersion := 0
  majorVersion := 65
  constantPool := pool
  accessFlags := fl
  thisClass := this
  superClass := sup
  interfaces := ifs
  fields := fds
  methods := ms
  attributes := attrs
def plain (name : String) (sup : Option ClassId) : Class where
  name := name
  kind := .ordinary
  loader := none
  accessFlags := 33
  super := sup
  interfaces := #[]
  cf := none
  fields := #[]
  methods := #[]
  instanceTypes := #[]
  staticTypes := #[]
  resolved := #[]
  callSites := []
  init := .initialized
  statics := none
  mirror := none

def pool0 : Array CpInfo := pool [(5, u "<init>"), (0, u "()V"), (1, .class_ 10), (1, u "java/lang/Object")] 113

def k0m0 : Method := { name := "<init>", desc := "()V", sig := { parameters := [], returnType := none }, accessFlags := 1, code := none }
/-- java/lang/Object -/
def k0 : Class := { plain "java/lang/Object" none with
  accessFlags := 33
  interfaces := #[]
  cf := some (fileOf pool0 8 #[] #[{ accessFlags := 1, nameIndex := 5, descriptorIndex := 6, attributes := #[] }] 33 0 #[] #[])
  fields := #[]
  methods := #[k0m0]
  instanceTypes := #[]
  staticTypes := #[]
  resolved := Array.replicate 124 none
  statics := none }

def pool1 : Array CpInfo := pool [(2, .class_ 4), (1, u "java/lang/Object"), (0, u "<init>"), (0, u "()V"), (0, .long 9223372036854775807), (1, .methodref 10 11), (0, .class_ 12), (0, .nameAndType 13 14), (0, u "java/lang/Math"), (0, u "max"), (0, u "(JJ)J"), (0, .methodref 16 17), (0, .class_ 18), (0, .nameAndType 19 14), (0, u "com/example/strigine/strigine/ValueSet"), (0, u "sum"), (0, .class_ 21), (0, u "com/example/strigine/strigine/ValueSetSumPinLaw"), (2, u "law"), (0, u "(JJI)Z")] 3

def k1m0 : Method := { name := "<init>", desc := "()V", sig := { parameters := [], returnType := none }, accessFlags := 2, code := none }
def k1c1 : Code := { maxStack := 4, maxLocals := 16, code := code, exceptionTable := #[], attributes := #[] }
def k1m1 : Method := { name := "law", desc := "(JJI)Z", sig := { parameters := [.long, .long, .int], returnType := some .boolean }, accessFlags := 9, code := some k1c1 }
/-- com/example/strigine/strigine/ValueSetSumPinLaw -/
def k1 : Class := { plain "com/example/strigine/strigine/ValueSetSumPinLaw" (some 0) with
  accessFlags := 49
  interfaces := #[]
  cf := some (fileOf pool1 20 #[] #[{ accessFlags := 2, nameIndex := 5, descriptorIndex := 6, attributes := #[] }, { accessFlags := 9, nameIndex := 24, descriptorIndex := 25, attributes := #[] }] 49 2 #[] #[])
  fields := #[]
  methods := #[k1m0, k1m1]
  instanceTypes := #[]
  staticTypes := #[]
  resolved := Array.replicate 29 none
  statics := none }

def pool2 : Array CpInfo := pool [(4, .class_ 6), (1, u "java/lang/Object"), (3, .class_ 12), (1, u "com/example/strigine/strigine/ValueSet"), (0, u "decimals"), (0, u "Lcom/example/strigine/strigine/DecimalSet;"), (2, u "strings"), (0, u "Lcom/example/strigine/strigine/StringSet;"), (2, u "booleans"), (0, u "I"), (2, u "others"), (0, u "Z"), (4, u "EMPTY"), (0, .class_ 33), (0, u "com/example/strigine/strigine/ValueSet$Booleans"), (40, u "Lcom/example/strigine/strigine/ValueSet;"), (6, u "ALL"), (7, u "sum"), (0, u "(JJ)J"), (6, .long 9223372036854775807), (35, u "MANY"), (0, u "J")] 34

def k2c0 : Code := { maxStack := 6, maxLocals := 4, code := prog_16_method_13_code, exceptionTable := #[], attributes := #[] }
def k2m0 : Method := { name := "sum", desc := "(JJ)J", sig := { parameters := [.long, .long], returnType := some .long }, accessFlags := 8, code := some k2c0 }
/-- com/example/strigine/strigine/ValueSet -/
def k2 : Class := { plain "com/example/strigine/strigine/ValueSet" (some 0) with
  accessFlags := 48
  interfaces := #[]
  cf := some (fileOf pool2 10 #[.nestMembers #[32]] #[{ accessFlags := 8, nameIndex := 89, descriptorIndex := 90, attributes := #[] }] 48 4 #[] #[{ accessFlags := 24, nameIndex := 133, descriptorIndex := 134, attributes := #[] }, { accessFlags := 24, nameIndex := 81, descriptorIndex := 74, attributes := #[] }, { accessFlags := 24, nameIndex := 31, descriptorIndex := 74, attributes := #[] }, { accessFlags := 18, nameIndex := 13, descriptorIndex := 14, attributes := #[] }, { accessFlags := 18, nameIndex := 17, descriptorIndex := 18, attributes := #[] }, { accessFlags := 18, nameIndex := 21, descriptorIndex := 22, attributes := #[] }, { accessFlags := 18, nameIndex := 25, descriptorIndex := 26, attributes := #[] }])
  fields := #[{ name := "MANY", type := .long, accessFlags := 24, slot := 0, constantValue := 0 }, { name := "ALL", type := (.object "com/example/strigine/strigine/ValueSet"), accessFlags := 24, slot := 1, constantValue := 0 }, { name := "EMPTY", type := (.object "com/example/strigine/strigine/ValueSet"), accessFlags := 24, slot := 2, constantValue := 0 }, { name := "decimals", type := (.object "com/example/strigine/strigine/DecimalSet"), accessFlags := 18, slot := 0, constantValue := 0 }, { name := "strings", type := (.object "com/example/strigine/strigine/StringSet"), accessFlags := 18, slot := 1, constantValue := 0 }, { name := "booleans", type := .int, accessFlags := 18, slot := 2, constantValue := 0 }, { name := "others", type := .boolean, accessFlags := 18, slot := 3, constantValue := 0 }]
  methods := #[k2m0]
  instanceTypes := #[(.object "com/example/strigine/strigine/DecimalSet"), (.object "com/example/strigine/strigine/StringSet"), .int, .boolean]
  staticTypes := #[.long, (.object "com/example/strigine/strigine/ValueSet"), (.object "com/example/strigine/strigine/ValueSet")]
  resolved := Array.replicate 169 none
  statics := none }

def pool3 : Array CpInfo := pool [(1, .class_ 2), (0, u "java/lang/Math"), (1, .class_ 6), (1, u "java/lang/Object"), (0, u "<init>"), (0, u "()V"), (89, .class_ 100), (1, u "java/lang/Math$RandomNumberGeneratorHolder"), (20, u "(JJ)J"), (50, u "negativeZeroFloatBits"), (0, u "J"), (2, u "negativeZeroDoubleBits"), (21, u "max"), (46, u "$assertionsDisabled"), (0, u "Z"), (91, u "twoToTheDoubleScaleDown"), (0, u "D"), (4, u "twoToTheDoubleScaleUp"), (9, u "E"), (3, u "PI"), (2, u "TAU"), (2, u "DEGREES_TO_RADIANS"), (0, u "RADIANS_TO_DEGREES")] 94

def k3m0 : Method := { name := "<init>", desc := "()V", sig := { parameters := [], returnType := none }, accessFlags := 2, code := none }
def k3c1 : Code := { maxStack := 4, maxLocals := 4, code := jdk_29_method_66_code, exceptionTable := #[], attributes := #[] }
def k3m1 : Method := { name := "max", desc := "(JJ)J", sig := { parameters := [.long, .long], returnType := some .long }, accessFlags := 9, code := some k3c1 }
/-- java/lang/Math -/
def k3 : Class := { plain "java/lang/Math" (some 0) with
  accessFlags := 49
  interfaces := #[]
  cf := some (fileOf pool3 1 #[.nestMembers #[98]] #[{ accessFlags := 2, nameIndex := 7, descriptorIndex := 8, attributes := #[] }, { accessFlags := 9, nameIndex := 198, descriptorIndex := 121, attributes := #[] }] 49 4 #[] #[{ accessFlags := 25, nameIndex := 354, descriptorIndex := 339, attributes := #[] }, { accessFlags := 25, nameIndex := 358, descriptorIndex := 339, attributes := #[] }, { accessFlags := 25, nameIndex := 361, descriptorIndex := 339, attributes := #[] }, { accessFlags := 26, nameIndex := 364, descriptorIndex := 339, attributes := #[] }, { accessFlags := 26, nameIndex := 365, descriptorIndex := 339, attributes := #[] }, { accessFlags := 26, nameIndex := 172, descriptorIndex := 173, attributes := #[] }, { accessFlags := 26, nameIndex := 176, descriptorIndex := 173, attributes := #[] }, { accessFlags := 8, nameIndex := 344, descriptorIndex := 339, attributes := #[] }, { accessFlags := 8, nameIndex := 338, descriptorIndex := 339, attributes := #[] }, { accessFlags := 4120, nameIndex := 245, descriptorIndex := 246, attributes := #[] }])
  fields := #[{ name := "E", type := .double, accessFlags := 25, slot := 0, constantValue := 0 }, { name := "PI", type := .double, accessFlags := 25, slot := 1, constantValue := 0 }, { name := "TAU", type := .double, accessFlags := 25, slot := 2, constantValue := 0 }, { name := "DEGREES_TO_RADIANS", type := .double, accessFlags := 26, slot := 3, constantValue := 0 }, { name := "RADIANS_TO_DEGREES", type := .double, accessFlags := 26, slot := 4, constantValue := 0 }, { name := "negativeZeroFloatBits", type := .long, accessFlags := 26, slot := 5, constantValue := 0 }, { name := "negativeZeroDoubleBits", type := .long, accessFlags := 26, slot := 6, constantValue := 0 }, { name := "twoToTheDoubleScaleUp", type := .double, accessFlags := 8, slot := 7, constantValue := 0 }, { name := "twoToTheDoubleScaleDown", type := .double, accessFlags := 8, slot := 8, constantValue := 0 }, { name := "$assertionsDisabled", type := .boolean, accessFlags := 4120, slot := 9, constantValue := 0 }]
  methods := #[k3m0, k3m1]
  instanceTypes := #[]
  staticTypes := #[.double, .double, .double, .double, .double, .long, .long, .double, .double, .boolean]
  resolved := Array.replicate 460 none
  statics := none }

def pool4 : Array CpInfo := pool [(1, u "java/lang/Cloneable"), (0, .class_ 1), (0, u "java/lang/Object"), (0, .class_ 3)] 3

/-- java/lang/Cloneable -/
def k4 : Class := { plain "java/lang/Cloneable" (some 0) with
  accessFlags := 1537
  interfaces := #[]
  cf := some (fileOf pool4 2 #[] #[] 1537 4 #[] #[])
  fields := #[]
  methods := #[]
  instanceTypes := #[]
  staticTypes := #[]
  resolved := Array.replicate 8 none
  statics := none }

def pool5 : Array CpInfo := pool [(1, u "java/io/Serializable"), (0, .class_ 1), (0, u "java/lang/Object"), (0, .class_ 3)] 3

/-- java/io/Serializable -/
def k5 : Class := { plain "java/io/Serializable" (some 0) with
  accessFlags := 1537
  interfaces := #[]
  cf := some (fileOf pool5 2 #[] #[] 1537 4 #[] #[])
  fields := #[]
  methods := #[]
  instanceTypes := #[]
  staticTypes := #[]
  resolved := Array.replicate 8 none
  statics := none }

/-- the primitive byte -/
def k6 : Class := { plain "byte" none with kind := .primitive 'B', accessFlags := 0x411 }
/-- [B -/
def k7 : Class := { plain "[B" (some 0) with kind := .array 6 .byte, interfaces := #[4, 5], accessFlags := 1041 }

/-- the primitive int -/
def k8 : Class := { plain "int" none with kind := .primitive 'I', accessFlags := 0x411 }
/-- [I -/
def k9 : Class := { plain "[I" (some 0) with kind := .array 8 .int, interfaces := #[4, 5], accessFlags := 1041 }

def heap : Heap := #[]
def classes : Array Class := #[k0, k1, k2, k3, k4, k5, k6, k7, k8, k9]
def interned : List (Array UInt16 × Addr) := []
def slotsUsed : Nat := 0
def theMethod : MethodId := ⟨1, 1⟩
def args0 : Array Value := #[.long 5, .long 7, .int 3]
def aboutOver (below : List Frame) : State where
  vm := { classes := classes, interned := interned.toArray }
  heap := heap
  slotsUsed := slotsUsed
  threads := #[{ frames := .invoking theMethod args0 :: below }]
def below0 : List Frame := [.native { method := ⟨0, 0⟩, args := #[] }]
def about1 : State := aboutOver below0
def p0 : Program := .bare "" "" ""
def e0 : Env := launch0.env 0 0 0
theorem w_frames : about1.frames = Frame.invoking theMethod args0 :: below0 := rfl
set_option maxRecDepth 65536 in
theorem w_args : argsFit about1.vm theMethod args0 = true := by decide +kernel
set_option maxRecDepth 65536 in
theorem w_heap : heapFits about1 = true := by decide +kernel
set_option maxRecDepth 65536 in
theorem w_runnable : about1.curStatus? = some .runnable := by decide +kernel
set_option maxRecDepth 65536 in
theorem w_alone : about1.alone = true := by decide +kernel
set_option maxRecDepth 65536 in
theorem w_named : about1.methodNamed? x = some theMethod := by decide +kernel
set_option maxRecDepth 65536 in
theorem w_hears : about1.hears theMethod below0 = true := by decide +kernel
set_option maxRecDepth 65536 in
theorem w_ripe : about1.ripe theMethod args0 below0 = true := by decide +kernel
theorem w_running : about1.status = .running := rfl
set_option maxRecDepth 65536 in
theorem w_room : about1.hasRoom e0.platform room_1 = true :=
  launch0.hasRoom_least _ room_1 (by decide +kernel) (by decide +kernel) (by decide +kernel) (by decide +kernel) (by decide +kernel) (by decide +kernel)
theorem allAtoms_all (ts : List Jvm.Cond) (a : Array Jvm.Value) (st : Jvm.State) : (allAtoms ts).before a st = ts.all (fun c => c.before a st) := by
  induction ts with
  | nil => rfl
  | cons c t ih =>
    show (Jvm.Cond.and c (allAtoms t)).before a st = _
    rw [Jvm.Cond.before_and, ih, List.all_cons]
def words1 : List Jvm.Cond := Jvm.Cond.code x code maxLocals ret :: tables_1
/-- a 'code' word, met by the world's own term for the bytes: nothing is compared byte by byte -/
theorem code_word {y : MethodName} {bytes : ByteArray} {mx : Nat} {rt : Option FieldType} {a : Array Value} {s : State} {m : MethodId} {meth : Method} {c : Code} (h1 : s.methodNamed? y = some m) (h2 : s.vm.method? m = some meth) (h3 : meth.code = some c) (h4 : c.code = bytes)
    (h5 : (c.maxLocals == mx && c.exceptionTable.isEmpty && decide (c.maxStack ≤ mostOperands) && decide (meth.sig.returnType = rt) && !meth.locks && decide (parseMethodDescriptor y.desc = some meth.sig)) = true) : (Jvm.Cond.code y bytes mx rt).before a s = true := by
  simp only [Bool.and_eq_true, beq_iff_eq, Bool.not_eq_true', decide_eq_true_eq] at h5
  obtain ⟨⟨⟨⟨⟨g1, g2⟩, g3⟩, g4⟩, g5⟩, g6⟩ := h5
  simp [Cond.before, Cond.holds, Cond.value, h1, h2, h3, h4, g1, g2, g3, g4, g5, g6]
def isCode : Jvm.Cond → Bool
  | .code _ _ _ _ => true
  | _ => false
theorem all_split {L : List Jvm.Cond} {P : Jvm.Cond → Bool} (h1 : L.all (fun c => isCode c || P c) = true) (h2 : ∀ c ∈ L.filter isCode, P c = true) : L.all P = true := by
  refine List.all_eq_true.mpr fun c hc => ?_
  have h := List.all_eq_true.mp h1 c hc
  rcases Bool.eq_false_or_eq_true (isCode c) with hi | hi
  · exact h2 c (List.mem_filter.mpr ⟨hc, hi⟩)
  · simpa [hi] using h
set_option maxRecDepth 65536 in
theorem w_c0 : (Jvm.Cond.code x code maxLocals ret).before args0 about1 = true := code_word (m := ⟨1, 1⟩) (meth := k1m1) (c := k1c1) (by decide +kernel) rfl rfl rfl (by decide +kernel)
set_option maxRecDepth 65536 in
theorem w_c1 : (Jvm.Cond.code ({ cls := "com/example/strigine/strigine/ValueSet", name := "sum", desc := "(JJ)J" } : Jvm.MethodName) prog_16_method_13_code (4 : Nat) (Option.some Jvm.ClassFile.FieldType.long)).before args0 about1 = true := code_word (m := ⟨2, 0⟩) (meth := k2m0) (c := k2c0) (by decide +kernel) rfl rfl rfl (by decide +kernel)
set_option maxRecDepth 65536 in
theorem w_c2 : (Jvm.Cond.code ({ cls := "java/lang/Math", name := "max", desc := "(JJ)J" } : Jvm.MethodName) jdk_29_method_66_code (4 : Nat) (Option.some Jvm.ClassFile.FieldType.long)).before args0 about1 = true := code_word (m := ⟨3, 1⟩) (meth := k3m1) (c := k3c1) (by decide +kernel) rfl rfl rfl (by decide +kernel)
def codes1 : List Jvm.Cond := [Jvm.Cond.code x code maxLocals ret, Jvm.Cond.code ({ cls := "com/example/strigine/strigine/ValueSet", name := "sum", desc := "(JJ)J" } : Jvm.MethodName) prog_16_method_13_code (4 : Nat) (Option.some Jvm.ClassFile.FieldType.long), Jvm.Cond.code ({ cls := "java/lang/Math", name := "max", desc := "(JJ)J" } : Jvm.MethodName) jdk_29_method_66_code (4 : Nat) (Option.some Jvm.ClassFile.FieldType.long)]
set_option maxRecDepth 65536 in
theorem codes_eq : words1.filter isCode = codes1 := rfl
theorem w_codes : ∀ c ∈ words1.filter isCode, c.before args0 about1 = true := by
  rw [codes_eq]
  intro c hc
  simp only [codes1, List.mem_cons, List.not_mem_nil, or_false] at hc
  rcases hc with rfl | rfl | rfl
  · exact w_c0
  · exact w_c1
  · exact w_c2
set_option maxRecDepth 65536 in
theorem w_t1 : words1.all (fun c => isCode c || c.before args0 about1) = true := by decide +kernel
theorem w_tables : (allAtoms (Jvm.Cond.code x code maxLocals ret :: tables_1)).before args0 about1 = true := by
  rw [allAtoms_all]
  show words1.all (fun c => c.before args0 about1) = true
  refine all_split ?_ w_codes
  rw [w_t1]
set_option maxRecDepth 65536 in
theorem w_case : (Jvm.Cond.and given_1 narrow_1).before args0 about1 = true := by decide +kernel
theorem w_applies : (headSpec (Jvm.Cond.code x code maxLocals ret :: tables_1) room_1).applies x e0.platform about1 = true :=
  (Spec.applies_iff w_frames).mpr ⟨w_running, w_runnable, w_alone, w_named, w_hears, w_ripe, w_room, w_tables⟩
theorem atStart : AtStart classFile x code maxLocals ret World_1 tables_1 room_1 Calls_1 rest_1 Pre_1 launch0 p0 e0 about1 theMethod args0 below0 :=
  ⟨lists_1, trivial, launch0.admits_env _ _ _, launch0.least_env, fairChoices_fair.cas, fairChoices_fair.clock, w_frames, w_args, w_heap, w_applies, trivial, trivial, w_case⟩
end start1
theorem witness_1 : WitnessClaimed_1 := ⟨start1.p0, start1.e0, start1.about1, start1.theMethod, start1.args0, start1.below0, start1.atStart⟩
end Jvm.Pilot.@@N@@
