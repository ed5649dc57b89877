import JvmDerived
import JvmDerived.Pilot.@@N@@Statement
import JvmDerived.Pilot.@@N@@Code
set_option linter.unusedVariables false
set_option linter.unusedSimpArgs false
@@BLOCK:NumsL.lean.txt@@
namespace Jvm.Pilot.@@N@@
open Jvm Jvm.ClassFile Sem Op Lib Jvm.Free Jvm.Stand Jvm.LawKit Jvm.RoadKit Bundle Jvm.Pilot.@@N@@.Jvm.D
/-! the goal that a walk carries along: from this state the run comes to the method's end, and Q holds there -/
def own_G (tb : Tables) (e : Env) (below : List Frame) (s : State) (Q : Option Value → Heap → List Loc → Prop) (kc ks : Nat) (st : State) : Prop :=
  ∃ u o, Steps tb e below st u ∧ u.status = .running ∧ Ended u below o ∧ ∃ v L, o = .returned v ∧ Q v u.heap L ∧ FrameEnd s o u L kc ks
theorem own_in {tb : Tables} {e : Env} {below : List Frame} {s : State} {Q : Option Value → Heap → List Loc → Prop} {kc ks : Nat} {st : State} (h : own_G tb e below s Q kc ks st) :
    ∃ u o, Steps tb e below st u ∧ u.status = .running ∧ Ended u below o ∧ ∃ v L, o = .returned v ∧ Q v u.heap L ∧ FrameEnd s o u L kc ks := h
theorem own_st {tb : Tables} {e : Env} {below : List Frame} {s : State} {Q : Option Value → Heap → List Loc → Prop} {kc ks : Nat} {a b : State} (k : ∀ t, Steps tb e below b t → Steps tb e below a t) (h : own_G tb e below s Q kc ks b) : own_G tb e below s Q kc ks a := by
  obtain ⟨u, o, h1, h2⟩ := h; exact ⟨u, o, k u h1, h2⟩
section OwnRet
variable {p : Program} {l : Launch} {e : Env} {R : Room} {s : State} {m : MethodId} {args : Array Value} {below : List Frame} {meth : Method} {c : Code} {T : State} {locs : List Loc} {cells slots : Nat} {Q : Option Value → Heap → List Loc → Prop} {kc ks : Nat} {pc : Nat} {Ls : Array Slot} {rest : List Value}
theorem own_ret (X : Stand p l e R s m args below meth c T locs cells slots) {v : Option Value} (hv : meth.sig.returnType = none → v = none) (hlk : meth.locks = false) (hc : cells ≤ kc) (hs : slots ≤ ks) (hQ : Q v T.heap locs) {st : State}
    (step : ∀ fs, (∀ (f : JFrame) (acts : List Action), f.method = m → f.locked = none → f.entered = [] → (doReturn e (T.setTop f) acts v).1 = T.setFrames fs) → Steps p.tables e below st (T.setFrames fs)) : own_G p.tables e below s Q kc ks st := by
  obtain ⟨fs, hr, hrun, hended, hW, hsame⟩ := X.leave (v := v) hv hlk
  exact ⟨_, _, step fs hr, hrun, hended, _, _, rfl, hQ, ⟨_, rfl⟩, hW, hsame.mono hc hs⟩
theorem own_retV (X : Stand p l e R s m args below meth c T locs cells slots) (hx : p.tables.exec = Jvm.exec) (hret : meth.sig.returnType = none) (hlk : meth.locks = false) (hd : decode c.code pc = .ok (.return_, 1)) (hc : cells ≤ kc) (hs : slots ≤ ks) (hQ : Q none T.heap locs) : own_G p.tables e below s Q kc ks (T.setTop (mkF m pc Ls [])) :=
  own_ret X (v := none) (fun _ => rfl) hlk hc hs hQ fun _ hr => X.returnOut hx hret hd hr
theorem own_retI {z : Int32} (X : Stand p l e R s m args below meth c T locs cells slots) (hx : p.tables.exec = Jvm.exec) (hret : meth.sig.returnType = some .int) (hlk : meth.locks = false) (hd : decode c.code pc = .ok (.ireturn, 1)) (hc : cells ≤ kc) (hs : slots ≤ ks) (hQ : Q (some (.int z)) T.heap locs) : own_G p.tables e below s Q kc ks (T.setTop (mkF m pc Ls (.int z :: rest))) :=
  own_ret X (v := some (.int z)) (fun h => by rw [hret] at h; cases h) hlk hc hs hQ fun _ hr => retOut X hx hret rfl (Or.inl ⟨rfl, Or.inl rfl, z, rfl⟩) hd hr
theorem own_retJ {z : Int64} (X : Stand p l e R s m args below meth c T locs cells slots) (hx : p.tables.exec = Jvm.exec) (hret : meth.sig.returnType = some .long) (hlk : meth.locks = false) (hd : decode c.code pc = .ok (.lreturn, 1)) (hc : cells ≤ kc) (hs : slots ≤ ks) (hQ : Q (some (.long z)) T.heap locs) : own_G p.tables e below s Q kc ks (T.setTop (mkF m pc Ls (.long z :: rest))) :=
  own_ret X (v := some (.long z)) (fun h => by rw [hret] at h; cases h) hlk hc hs hQ fun _ hr => retOut X hx hret rfl (Or.inr (Or.inl ⟨rfl, rfl, z, rfl⟩)) hd hr
theorem own_retA {ft : FieldType} {w : Value} (ht : ft.isReference = true) (hw : w.isRef = true) (X : Stand p l e R s m args below meth c T locs cells slots) (hx : p.tables.exec = Jvm.exec) (hret : meth.sig.returnType = some ft) (hlk : meth.locks = false) (hd : decode c.code pc = .ok (.areturn, 1)) (hc : cells ≤ kc) (hs : slots ≤ ks) (hQ : Q (some w) T.heap locs) : own_G p.tables e below s Q kc ks (T.setTop (mkF m pc Ls (w :: rest))) :=
  own_ret X (v := some w) (fun h => by rw [hret] at h; cases h) hlk hc hs hQ fun _ hr => retOut X hx hret (by cases ft <;> first | (cases ht; done) | (cases w <;> first | rfl | cases hw)) (Or.inr (Or.inr (Or.inr (Or.inr ⟨rfl, ht, hw⟩)))) hd hr
theorem own_retN {t : FieldType} {z : Int32} (ht : t = .boolean ∨ t = .byte ∨ t = .char ∨ t = .short) (X : Stand p l e R s m args below meth c T locs cells slots) (hx : p.tables.exec = Jvm.exec) (hret : meth.sig.returnType = some t) (hlk : meth.locks = false) (hd : decode c.code pc = .ok (.ireturn, 1)) (hc : cells ≤ kc) (hs : slots ≤ ks) (hQ : Q (some (.int (nar t z))) T.heap locs) : own_G p.tables e below s Q kc ks (T.setTop (mkF m pc Ls (.int z :: rest))) :=
  own_ret X (v := some (.int (nar t z))) (fun h => by rw [hret] at h; cases h) hlk hc hs hQ fun _ hr => retN X hx hret ht hd hr
end OwnRet
def own_b (P : Prop) [Decidable P] : Int32 := if P then 1 else 0
theorem own_bT {P : Prop} [Decidable P] (h : P) : some (Value.int (nar .boolean (1 : Int32))) = some (Value.int (own_b P)) := by rw [own_b, if_pos h]; rfl
theorem own_bF {P : Prop} [Decidable P] (h : ¬ P) : some (Value.int (nar .boolean (0 : Int32))) = some (Value.int (own_b P)) := by rw [own_b, if_neg h]; rfl
theorem own_bEq {P P' : Prop} [Decidable P] [Decidable P'] (h : P ↔ P') : own_b P = own_b P' := by simp only [own_b, h]
/-- a body that writes nothing: what it returns, the heap as it was -/
def own_Qp (r : Option Value) (h0 : Heap) (n0 : Nat) (v : Option Value) (h : Heap) (L : List Loc) : Prop := v = r ∧ Fr n0 L ∧ h = h0
/-- the law's own end: it returns 1, nothing old is written -/
def own_Q0 (n0 : Nat) (v : Option Value) (h : Heap) (L : List Loc) : Prop := v = some (.int 1) ∧ Fr n0 L
theorem own_ord {s : State} {args : Array Value} {t : Term} {a : Addr} {C n d : String} {k : Int32} (ev : t.eval args s none [] s = some (.ref a)) (h : (Jvm.Cond.eq (Term.field t C n d) (Term.int k)).value args s none s [] = some true) : Fld s s.heap a C n d (.int k) := by
  obtain ⟨x, y, e1, e2, -, k2⟩ := cmp_v (Or.inl h)
  obtain rfl : Value.int k = y := Option.some.inj e2
  obtain ⟨z, rfl⟩ := k2
  have q : z = k := by simpa [Jvm.Cond.value, e1, e2] using h
  subst q
  exact Fld.start ((fld_at ev).symm.trans e1)
theorem own_len {s : State} {args : Array Value} {t : Term} {a : Addr} {c : Cell} {ty : FieldType} {n : Int32} (ev : t.eval args s none [] s = some (.ref a)) (A : Arr s s.heap a c ty) (h : (Jvm.Cond.eq (Term.length t) (Term.int n)).value args s none s [] = some true) : c.slots.size < 2 ^ 31 ∧ c.slots.size.toInt32 = n := by
  have q := eqv_i (Term.int_eval n) h
  have f := A.fin (Vm.Alike.refl _)
  have z : c.slots.size < 2147483648 ∧ c.slots.size.toInt32 = n := by simpa [Term.eval, ev, f] using q
  exact z
theorem own_eqr {s : State} {args : Array Value} {X F : Term} {y : Addr} (hF : F.eval args s none [] s = some (.ref y)) (h : (Jvm.Cond.eq X F).value args s none s [] = some true) : X.eval args s none [] s = some (.ref y) := by
  obtain ⟨x, y', e1, e2, k1, k2⟩ := cmp_v (Or.inl h)
  cases hF.symm.trans e2
  have hx : x.isRef = true := k2.2
  have q := gotT (eq_R e1 hF hx rfl) h
  rw [q] at e1; exact e1
theorem own_el {s : State} {args : Array Value} {t : Term} {a : Addr} {c : Cell} {ty : FieldType} {j : Int32} {v : Value} (ev : t.eval args s none [] s = some (.ref a)) (A : Arr s s.heap a c ty) (h : (Term.elem t (Term.int j)).eval args s none [] s = some v) : c.slots[j.toNatClampNeg]? = some v := (elem_in h ev (Term.int_eval j) A.1).2
theorem own_nea {Z : State} {h : Heap} {a b : Addr} {C : String} {a0 : Array Value} {k : Nat} {kc : ClassId} {ty : FieldType} {z : Int32} {vs : List Value} {d : Value} (F : Exa Z h a C) (wi : (Jvm.Cond.instantiable C k).before a0 Z = true) (V : Arv Z h b kc ty z vs d) : a ≠ b := by
  obtain ⟨c, A, -⟩ := V; exact ne_arr F wi A
theorem own_msk (a : Int32) : 0 ≤ (a &&& 2147483647).toInt := by
  rw [Jvm.Kit.i32_mask a 2147483647 (k := 31) (by decide) (by decide)]; omega
theorem own_f (a : Int32) : 0 ≤ ((a &&& 2147483647) % 1114112).toInt ∧ ((a &&& 2147483647) % 1114112).toInt < 1114112 := by
  have e : (1114112 : Int32).toInt = 1114112 := by decide
  rw [Jvm.Kit.i32_rem_nonneg (own_msk a), e]; omega
theorem own_l (f b : Int32) (h : 0 ≤ f.toInt ∧ f.toInt < 1114112) : 1114112 - f ≠ 0 ∧ f.toInt ≤ (f + (b &&& 2147483647) % (1114112 - f)).toInt ∧ (f + (b &&& 2147483647) % (1114112 - f)).toInt < 1114112 := by
  have e : (1114112 : Int32).toInt = 1114112 := by decide
  have e1 : (1114112 - f).toInt = 1114112 - f.toInt := by rw [Jvm.Kit.i32_sub, e] <;> rw [e] <;> omega
  have e2 : ((b &&& 2147483647) % (1114112 - f)).toInt = (b &&& 2147483647).toInt % (1114112 - f.toInt) := by rw [Jvm.Kit.i32_rem_nonneg (own_msk b), e1]
  have q1 := Int.emod_nonneg (b &&& 2147483647).toInt (b := 1114112 - f.toInt) (by omega)
  have q2 := Int.emod_lt_of_pos (b &&& 2147483647).toInt (b := 1114112 - f.toInt) (by omega)
  have e3 : (f + (b &&& 2147483647) % (1114112 - f)).toInt = f.toInt + (b &&& 2147483647).toInt % (1114112 - f.toInt) := by rw [Jvm.Kit.i32_add, e2] <;> rw [e2] <;> omega
  refine ⟨fun z => ?_, by omega, by omega⟩
  rw [z] at e1
  have e4 : (0 : Int32).toInt = 0 := by decide
  omega
theorem own_bound {u v B : Int} (h1 : -B ≤ u) (h2 : u ≤ B) (h3 : -B ≤ v) (h4 : v ≤ B) : -(B * B) ≤ u * v ∧ u * v ≤ B * B := by
  have a1 := Int.mul_nonneg (a := B - u) (b := B - v) (by omega) (by omega)
  have a2 := Int.mul_nonneg (a := B + u) (b := B + v) (by omega) (by omega)
  have a3 := Int.mul_nonneg (a := B - u) (b := B + v) (by omega) (by omega)
  have a4 := Int.mul_nonneg (a := B + u) (b := B - v) (by omega) (by omega)
  simp only [Int.sub_mul, Int.mul_sub, Int.add_mul, Int.mul_add] at a1 a2 a3 a4
  have k1 := Int.mul_comm u B
  have k2 := Int.mul_comm v B
  generalize u * v = w at *
  generalize B * B = bb at *
  generalize B * u = bu at *
  generalize B * v = bv at *
  generalize u * B = ub at *
  constructor <;> omega
theorem own_hold (c f l : Int32) (hf : 0 ≤ f.toInt) (hfl : f.toInt ≤ l.toInt) (hl : l.toInt < 1114112) : (0 < lcmpW ((c.toInt64 - f.toInt64) * (c.toInt64 - l.toInt64)) 0) ↔ ¬ (¬ c < f ∧ ¬ l < c) := by
  have rc := rng32 c
  have e0 : (0 : Int64).toInt = 0 := by decide
  have u : (c.toInt64 - f.toInt64).toInt = c.toInt - f.toInt := by rw [Jvm.Kit.i64_sub, Jvm.Kit.i64_of_i32, Jvm.Kit.i64_of_i32] <;> rw [Jvm.Kit.i64_of_i32, Jvm.Kit.i64_of_i32] <;> omega
  have v : (c.toInt64 - l.toInt64).toInt = c.toInt - l.toInt := by rw [Jvm.Kit.i64_sub, Jvm.Kit.i64_of_i32, Jvm.Kit.i64_of_i32] <;> rw [Jvm.Kit.i64_of_i32, Jvm.Kit.i64_of_i32] <;> omega
  have b := own_bound (u := c.toInt - f.toInt) (v := c.toInt - l.toInt) (B := 2148597760) (by omega) (by omega) (by omega) (by omega)
  have p : ((c.toInt64 - f.toInt64) * (c.toInt64 - l.toInt64)).toInt = (c.toInt - f.toInt) * (c.toInt - l.toInt) := by rw [Jvm.Kit.i64_mul, u, v] <;> rw [u, v] <;> omega
  rw [lw_gt, Int64.lt_iff_toInt_lt, p, e0, Int32.lt_iff_toInt_lt, Int32.lt_iff_toInt_lt]
  by_cases h1 : c.toInt < f.toInt
  · have := Int.mul_pos_of_neg_of_neg (a := c.toInt - f.toInt) (b := c.toInt - l.toInt) (by omega) (by omega)
    simp [h1, this]
  · by_cases h2 : l.toInt < c.toInt
    · have := Int.mul_pos (a := c.toInt - f.toInt) (b := c.toInt - l.toInt) (by omega) (by omega)
      simp [h2, this]
    · have := Int.mul_nonneg (a := c.toInt - f.toInt) (b := l.toInt - c.toInt) (by omega) (by omega)
      have k : (c.toInt - f.toInt) * (l.toInt - c.toInt) = -((c.toInt - f.toInt) * (c.toInt - l.toInt)) := by rw [← Int.mul_neg]; congr 1; omega
      have k2 : ¬ 0 < (c.toInt - f.toInt) * (c.toInt - l.toInt) := by omega
      simp [h1, h2, k2]
theorem own_pn0 : plainName "java/lang/Record" = true := by first | (simp [plainName, overriddenIn]; done) | decide +kernel
theorem own_d2_0 : decode jdk_30_method_1_code 0 = .ok (.aload_n 0, 1) := by decide +kernel
theorem own_d2_1 : decode jdk_30_method_1_code 1 = .ok (.invokespecial 1, 3) := by decide +kernel
theorem own_d2_4 : decode jdk_30_method_1_code 4 = .ok (.return_, 1) := by decide +kernel
theorem own_ef2 (m : MethodId) (a1 : Addr) : entryFrame m #[(.ref a1)] 1 = mkF m 0 #[.val (.ref a1)] [] := by first | (simp [entryFrame, mkF, argsToLocals, Value.category]; done) | rfl
set_option maxRecDepth 65536 in
set_option maxHeartbeats 40000000 in
theorem own_rm2 (l : Launch) (Z : State) (a0 : Array Value) (hw : ∀ d ∈ tables_1, d.before a0 Z = true) (ws : List Jvm.Cond) (a1 : Addr) (h0 : Heap) (n0 : Nat) (Z0 : n0 ≤ h0.size)  :
    MetFree l (⟨"java/lang/Record", "<init>", "()V"⟩ : MethodName) (head1 (Jvm.Cond.code (⟨"java/lang/Record", "<init>", "()V"⟩ : MethodName) jdk_30_method_1_code 1 none :: ws) ({ frames := 1, cells := 0, slots := 0, locals := 12 } : Room)) (fun a U => a = #[(.ref a1)] ∧ Z.Warmed39 U.vm ∧ U.heap = h0) (fun _ _ _ _ _ => True) (fun _ U o U' => ∃ v L, o = .returned v ∧ own_Qp none h0 n0 v U'.heap L ∧ FrameEnd U o U' L ({ frames := 1, cells := 0, slots := 0, locals := 12 } : Room).cells ({ frames := 1, cells := 0, slots := 0, locals := 12 } : Room).slots) := by
  refine MetFree.of_bodySF (plainFor_of_name own_pn0) hisR ?_
  intro p e s m args below meth c s₁ Bd hml0 hP hK
  obtain ⟨rfl, hZ, hh⟩ := hP
  have hx := Bd.exec
  have hby := Bd.bytes
  have hml : c.maxLocals = 1 := hml0
  have hown : s.vm.findClass "java/lang/Record" = some m.cls := findClass_of_methodNamed Bd.named
  have hnm := (name_of_methodNamed Bd.named Bd.method).1
  have X0 : Stand p l e ({ frames := 1, cells := 0, slots := 0, locals := 12 } : Room) s m #[(.ref a1)] below meth c s₁ [] 0 0 := Stand.of_body Bd
  have e0 : s₁.heap = h0 := by rw [← hh, Bd.state]; rfl
  have N0 := Fr.nil n0
  refine own_in (Q := own_Qp none h0 n0) ?_
  rw [own_ef2]
  show own_G _ _ _ _ _ _ _ (s₁.setTop (mkF m 0 #[.val (.ref a1)] []))
  refine own_st (fun t k => XS.aloadN X0.here hx rfl (hb hby own_d2_0) rfl rfl k) ?_
  show own_G _ _ _ _ _ _ _ (s₁.setTop (mkF m 1 #[.val (.ref a1)] [(.ref a1)]))
  obtain ⟨T1, X1, e1, st1⟩ := initO X0 hx hZ hown (hw _ (List.mem_of_getElem? (i := 13) rfl)) (hw _ (List.mem_of_getElem? (i := 14) rfl)) (hw _ (List.mem_of_getElem? (i := 15) rfl)) e0 (g := (mkF m 1 #[.val (.ref a1)] [(.ref a1)])) rfl (by rw [hml]; rfl) rfl (hb hby own_d2_1) (by decide) (W := 0) (by show 2 * 0 + _ ≤ _; exact Nat.le_of_eq rfl) (by decide)
  refine own_st (fun t k => st1 t k) ?_
  show own_G _ _ _ _ _ _ _ (T1.setTop (mkF m 4 #[.val (.ref a1)] []))
  exact own_retV X1 hx Bd.returns (BodyLoose.notSynchronized Bd) (hb hby own_d2_4) (by decide) (by decide) ⟨rfl, N0, e1⟩
theorem own_pd0 : parseMethodDescriptor "()V" = some ⟨[], none⟩ := by decide +kernel
def own_Q1 (Z : State) (a1 : Addr) (p1 p2 : Int32) (h0 : Heap) (n0 : Nat) (v : Option Value) (h : Heap) (L : List Loc) : Prop := v = none ∧ Fr n0 L ∧ Keep h0 h [a1] ∧ Exa Z h a1 "stowage/engine/CodePointRange" ∧ Fld Z h a1 "stowage/engine/CodePointRange" "first" "I" (.int p1) ∧ Fld Z h a1 "stowage/engine/CodePointRange" "last" "I" (.int p2)
theorem own_pn1 : plainName "stowage/engine/CodePointRange" = true := by first | (simp [plainName, overriddenIn]; done) | decide +kernel
theorem own_d1_0 : decode prog_18_method_1_code 0 = .ok (.aload_n 0, 1) := by decide +kernel
theorem own_d1_1 : decode prog_18_method_1_code 1 = .ok (.invokespecial 1, 3) := by decide +kernel
theorem own_d1_4 : decode prog_18_method_1_code 4 = .ok (.iload_n 1, 1) := by decide +kernel
theorem own_d1_5 : decode prog_18_method_1_code 5 = .ok (.ifCond .lt 14, 3) := by decide +kernel
theorem own_d1_8 : decode prog_18_method_1_code 8 = .ok (.iload_n 2, 1) := by decide +kernel
theorem own_d1_9 : decode prog_18_method_1_code 9 = .ok (.iload_n 1, 1) := by decide +kernel
theorem own_d1_10 : decode prog_18_method_1_code 10 = .ok (.if_icmp .lt 9, 3) := by decide +kernel
theorem own_d1_13 : decode prog_18_method_1_code 13 = .ok (.iload_n 2, 1) := by decide +kernel
theorem own_d1_14 : decode prog_18_method_1_code 14 = .ok (.ldc 9, 2) := by decide +kernel
theorem own_d1_16 : decode prog_18_method_1_code 16 = .ok (.if_icmp .le 18, 3) := by decide +kernel
theorem own_d1_19 : decode prog_18_method_1_code 19 = .ok (.new 10, 3) := by decide +kernel
theorem own_d1_22 : decode prog_18_method_1_code 22 = .ok (.dup, 1) := by decide +kernel
theorem own_d1_23 : decode prog_18_method_1_code 23 = .ok (.iload_n 1, 1) := by decide +kernel
theorem own_d1_24 : decode prog_18_method_1_code 24 = .ok (.iload_n 2, 1) := by decide +kernel
theorem own_d1_30 : decode prog_18_method_1_code 30 = .ok (.invokespecial 16, 3) := by decide +kernel
theorem own_d1_33 : decode prog_18_method_1_code 33 = .ok (.athrow, 1) := by decide +kernel
theorem own_d1_34 : decode prog_18_method_1_code 34 = .ok (.aload_n 0, 1) := by decide +kernel
theorem own_d1_35 : decode prog_18_method_1_code 35 = .ok (.iload_n 1, 1) := by decide +kernel
theorem own_d1_36 : decode prog_18_method_1_code 36 = .ok (.putfield 19, 3) := by decide +kernel
theorem own_d1_39 : decode prog_18_method_1_code 39 = .ok (.aload_n 0, 1) := by decide +kernel
theorem own_d1_40 : decode prog_18_method_1_code 40 = .ok (.iload_n 2, 1) := by decide +kernel
theorem own_d1_41 : decode prog_18_method_1_code 41 = .ok (.putfield 25, 3) := by decide +kernel
theorem own_d1_44 : decode prog_18_method_1_code 44 = .ok (.return_, 1) := by decide +kernel
theorem own_ef1 (m : MethodId) (a1 : Addr) (p1 : Int32) (p2 : Int32) : entryFrame m #[(.ref a1), (.int p1), (.int p2)] 3 = mkF m 0 #[.val (.ref a1), .val (.int p1), .val (.int p2)] [] := by first | (simp [entryFrame, mkF, argsToLocals, Value.category]; done) | rfl
set_option maxRecDepth 65536 in
set_option maxHeartbeats 40000000 in
theorem own_rm1 (l : Launch) (Z : State) (a0 : Array Value) (hw : ∀ d ∈ tables_1, d.before a0 Z = true) (ws : List Jvm.Cond) (a1 : Addr) (p1 p2 : Int32) (h0 : Heap) (n0 : Nat) (Z0 : n0 ≤ h0.size) (hf : ¬ p1 < 0) (hl : ¬ p2 < p1) (hm : ¬ 1114111 < p2) (E1 : Exa Z h0 a1 "stowage/engine/CodePointRange") (F1 : Fld Z h0 a1 "stowage/engine/CodePointRange" "first" "I" (.int 0)) (F2 : Fld Z h0 a1 "stowage/engine/CodePointRange" "last" "I" (.int 0)) (g1 : n0 ≤ a1) :
    MetFree l (⟨"stowage/engine/CodePointRange", "<init>", "(II)V"⟩ : MethodName) (head1 (Jvm.Cond.code (⟨"stowage/engine/CodePointRange", "<init>", "(II)V"⟩ : MethodName) prog_18_method_1_code 3 none :: ws) ({ frames := 2, cells := 0, slots := 0, locals := 24 } : Room)) (fun a U => a = #[(.ref a1), (.int p1), (.int p2)] ∧ Z.Warmed39 U.vm ∧ U.heap = h0) (fun _ _ _ _ _ => True) (fun _ U o U' => ∃ v L, o = .returned v ∧ own_Q1 Z a1 p1 p2 h0 n0 v U'.heap L ∧ FrameEnd U o U' L ({ frames := 2, cells := 0, slots := 0, locals := 24 } : Room).cells ({ frames := 2, cells := 0, slots := 0, locals := 24 } : Room).slots) := by
  refine MetFree.of_bodySF (plainFor_of_name own_pn1) hisR ?_
  intro p e s m args below meth c s₁ Bd hml0 hP hK
  obtain ⟨rfl, hZ, hh⟩ := hP
  have hx := Bd.exec
  have hby := Bd.bytes
  have hml : c.maxLocals = 3 := hml0
  have hown : s.vm.findClass "stowage/engine/CodePointRange" = some m.cls := findClass_of_methodNamed Bd.named
  have hnm := (name_of_methodNamed Bd.named Bd.method).1
  have X0 : Stand p l e ({ frames := 2, cells := 0, slots := 0, locals := 24 } : Room) s m #[(.ref a1), (.int p1), (.int p2)] below meth c s₁ [] 0 0 := Stand.of_body Bd
  have e0 : s₁.heap = h0 := by rw [← hh, Bd.state]; rfl
  have N0 := Fr.nil n0
  refine own_in (Q := own_Q1 Z a1 p1 p2 h0 n0) ?_
  rw [own_ef1]
  show own_G _ _ _ _ _ _ _ (s₁.setTop (mkF m 0 #[.val (.ref a1), .val (.int p1), .val (.int p2)] []))
  refine own_st (fun t k => XS.aloadN X0.here hx rfl (hb hby own_d1_0) rfl rfl k) ?_
  show own_G _ _ _ _ _ _ _ (s₁.setTop (mkF m 1 #[.val (.ref a1), .val (.int p1), .val (.int p2)] [(.ref a1)]))
  obtain ⟨_, _, ⟨T2, L2, k2, n2⟩, -, X2, ⟨Lc2, hQ2, l2, y2, z2⟩, st2⟩ := X0.specialBack hx (y := (⟨"java/lang/Record", "<init>", "()V"⟩ : MethodName)) rfl hown (mvT hZ (hw _ (List.mem_of_getElem? (i := 8) rfl))) (mvT hZ (hw _ (List.mem_of_getElem? (i := 9) rfl))) (mvT hZ (hw _ (List.mem_of_getElem? (i := 12) rfl))) (by decide) (backOf (W := 0) (own_rm2 l Z a0 hw [] a1 h0 n0 Z0) hZ (hw _ (List.mem_of_getElem? (i := 12) rfl)) (hw _ (List.mem_of_getElem? (i := 11) rfl)) (by decide) (by decide)) (g := (mkF m 1 #[.val (.ref a1), .val (.int p1), .val (.int p2)] [(.ref a1)])) rfl (by rw [hml]; rfl) (Steps.refl _) (a := a1) (argsL := []) (rest := []) (lenOf own_pd0 rfl) rfl (by show 2 * 0 + _ ≤ _; exact Nat.le_of_eq rfl) (hb hby own_d1_1) (fun _ _ => ⟨rfl, e0, (by decide : 0 + 0 ≤ _), (by decide : 0 + 0 ≤ _)⟩)
  dsimp only [Pt.U, Pt.locs, Pt.cells, Pt.slots] at X2 l2 y2 z2 st2 hQ2
  subst l2 y2 z2
  obtain ⟨rfl, N2q, e2⟩ := hQ2
  have N2 := Fr.app N0 N2q
  refine own_st (fun t k => st2.trans k) ?_
  show own_G _ _ _ _ _ _ _ (T2.setTop (mkF m 4 #[.val (.ref a1), .val (.int p1), .val (.int p2)] []))
  refine own_st (fun t k => XS.iloadN X2.here hx rfl (hb hby own_d1_4) rfl k) ?_
  show own_G _ _ _ _ _ _ _ (T2.setTop (mkF m 5 #[.val (.ref a1), .val (.int p1), .val (.int p2)] [(.int p1)]))
  refine own_st (fun t k => XS.ifNo X2.here hx rfl (hb hby own_d1_5) rfl ((if0 _ _).trans (flt hf).1) k) ?_
  show own_G _ _ _ _ _ _ _ (T2.setTop (mkF m 8 #[.val (.ref a1), .val (.int p1), .val (.int p2)] []))
  refine own_st (fun t k => XS.iloadN X2.here hx rfl (hb hby own_d1_8) rfl k) ?_
  show own_G _ _ _ _ _ _ _ (T2.setTop (mkF m 9 #[.val (.ref a1), .val (.int p1), .val (.int p2)] [(.int p2)]))
  refine own_st (fun t k => XS.iloadN X2.here hx rfl (hb hby own_d1_9) rfl k) ?_
  show own_G _ _ _ _ _ _ _ (T2.setTop (mkF m 10 #[.val (.ref a1), .val (.int p1), .val (.int p2)] [(.int p1), (.int p2)]))
  refine own_st (fun t k => XS.icmpNo X2.here hx rfl (hb hby own_d1_10) rfl (flt hl).1 k) ?_
  show own_G _ _ _ _ _ _ _ (T2.setTop (mkF m 13 #[.val (.ref a1), .val (.int p1), .val (.int p2)] []))
  refine own_st (fun t k => XS.iloadN X2.here hx rfl (hb hby own_d1_13) rfl k) ?_
  show own_G _ _ _ _ _ _ _ (T2.setTop (mkF m 14 #[.val (.ref a1), .val (.int p1), .val (.int p2)] [(.int p2)]))
  refine own_st (fun t k => X2.ldcInt hx hown (mvT hZ (hw _ (List.mem_of_getElem? (i := 16) rfl))) (g := (mkF m 14 #[.val (.ref a1), .val (.int p1), .val (.int p2)] [(.int p2)])) rfl (hb hby own_d1_14) t k) ?_
  show own_G _ _ _ _ _ _ _ (T2.setTop (mkF m 16 #[.val (.ref a1), .val (.int p1), .val (.int p2)] [(.int (1114111 : Int32)), (.int p2)]))
  refine own_st (fun t k => XS.icmpYes X2.here hx rfl (pc0 := 16) (pc' := 34) rfl (hb hby own_d1_16) rfl (flt hm).2.2.2 (by decide) (by decide) k) ?_
  show own_G _ _ _ _ _ _ _ (T2.setTop (mkF m 34 #[.val (.ref a1), .val (.int p1), .val (.int p2)] []))
  refine own_st (fun t k => XS.aloadN X2.here hx rfl (hb hby own_d1_34) rfl rfl k) ?_
  show own_G _ _ _ _ _ _ _ (T2.setTop (mkF m 35 #[.val (.ref a1), .val (.int p1), .val (.int p2)] [(.ref a1)]))
  refine own_st (fun t k => XS.iloadN X2.here hx rfl (hb hby own_d1_35) rfl k) ?_
  show own_G _ _ _ _ _ _ _ (T2.setTop (mkF m 36 #[.val (.ref a1), .val (.int p1), .val (.int p2)] [(.int p1), (.ref a1)]))
  obtain ⟨T3, h3, X3, e3, W3, st3⟩ := putF X2 hx hZ hown (host := "") (Or.inl (hw _ (List.mem_of_getElem? (i := 17) rfl))) Via.refl e2 F1 E1 (Or.inr ⟨(hw _ (List.mem_of_getElem? (i := 18) rfl)), rfl, hnm⟩) (hw _ (List.mem_of_getElem? (i := 3) rfl)) (ty := .int) (by decide) rfl rfl (g := (mkF m 36 #[.val (.ref a1), .val (.int p1), .val (.int p2)] [(.int p1), (.ref a1)])) rfl rfl (hb hby own_d1_36)
  have N3 := Fr.snoc X3 N2 g1
  refine own_st (fun t k => st3 t k) ?_
  show own_G _ _ _ _ _ _ _ (T3.setTop (mkF m 39 #[.val (.ref a1), .val (.int p1), .val (.int p2)] []))
  have F1a := F1.same W3
  have F2a := F2.other W3 (Or.inr (slot_ne (Or.inr (hw _ (List.mem_of_getElem? (i := 20) rfl))) (Or.inr (hw _ (List.mem_of_getElem? (i := 18) rfl))) (by decide) (t := .int) (t' := .int) (by decide) (by decide)))
  have E1a := E1.wr W3
  have Ka : Keep h0 h3 [a1] := (Keep.refl _ _).wr W3 (Or.inl (List.mem_of_getElem? (i := 0) rfl))
  refine own_st (fun t k => XS.aloadN X3.here hx rfl (hb hby own_d1_39) rfl rfl k) ?_
  show own_G _ _ _ _ _ _ _ (T3.setTop (mkF m 40 #[.val (.ref a1), .val (.int p1), .val (.int p2)] [(.ref a1)]))
  refine own_st (fun t k => XS.iloadN X3.here hx rfl (hb hby own_d1_40) rfl k) ?_
  show own_G _ _ _ _ _ _ _ (T3.setTop (mkF m 41 #[.val (.ref a1), .val (.int p1), .val (.int p2)] [(.int p2), (.ref a1)]))
  obtain ⟨T4, h4, X4, e4, W4, st4⟩ := putF X3 hx hZ hown (host := "") (Or.inl (hw _ (List.mem_of_getElem? (i := 19) rfl))) Via.refl e3 F2a E1a (Or.inr ⟨(hw _ (List.mem_of_getElem? (i := 20) rfl)), rfl, hnm⟩) (hw _ (List.mem_of_getElem? (i := 3) rfl)) (ty := .int) (by decide) rfl rfl (g := (mkF m 41 #[.val (.ref a1), .val (.int p1), .val (.int p2)] [(.int p2), (.ref a1)])) rfl rfl (hb hby own_d1_41)
  have N4 := Fr.snoc X4 N3 g1
  refine own_st (fun t k => st4 t k) ?_
  show own_G _ _ _ _ _ _ _ (T4.setTop (mkF m 44 #[.val (.ref a1), .val (.int p1), .val (.int p2)] []))
  have F2b := F2a.same W4
  have F1b := F1a.other W4 (Or.inr (slot_ne (Or.inr (hw _ (List.mem_of_getElem? (i := 18) rfl))) (Or.inr (hw _ (List.mem_of_getElem? (i := 20) rfl))) (by decide) (t := .int) (t' := .int) (by decide) (by decide)))
  have E1b := E1a.wr W4
  have Kb : Keep h0 h4 [a1] := Ka.wr W4 (Or.inl (List.mem_of_getElem? (i := 0) rfl))
  subst e4
  exact own_retV X4 hx Bd.returns (BodyLoose.notSynchronized Bd) (hb hby own_d1_44) (by decide) (by decide) ⟨rfl, N4, Kb, E1b, F1b, F2b⟩
theorem own_d4_0 : decode prog_18_method_2_code 0 = .ok (.aload_n 0, 1) := by decide +kernel
theorem own_d4_1 : decode prog_18_method_2_code 1 = .ok (.getfield 19, 3) := by decide +kernel
theorem own_d4_4 : decode prog_18_method_2_code 4 = .ok (.iload_n 1, 1) := by decide +kernel
theorem own_d4_5 : decode prog_18_method_2_code 5 = .ok (.if_icmp .gt 15, 3) := by decide +kernel
theorem own_d4_8 : decode prog_18_method_2_code 8 = .ok (.iload_n 1, 1) := by decide +kernel
theorem own_d4_9 : decode prog_18_method_2_code 9 = .ok (.aload_n 0, 1) := by decide +kernel
theorem own_d4_10 : decode prog_18_method_2_code 10 = .ok (.getfield 25, 3) := by decide +kernel
theorem own_d4_13 : decode prog_18_method_2_code 13 = .ok (.if_icmp .gt 7, 3) := by decide +kernel
theorem own_d4_16 : decode prog_18_method_2_code 16 = .ok (.iconst 1, 1) := by decide +kernel
theorem own_d4_17 : decode prog_18_method_2_code 17 = .ok (.goto 4, 3) := by decide +kernel
theorem own_d4_20 : decode prog_18_method_2_code 20 = .ok (.iconst 0, 1) := by decide +kernel
theorem own_d4_21 : decode prog_18_method_2_code 21 = .ok (.ireturn, 1) := by decide +kernel
theorem own_ef4 (m : MethodId) (a1 : Addr) (p3 : Int32) : entryFrame m #[(.ref a1), (.int p3)] 2 = mkF m 0 #[.val (.ref a1), .val (.int p3)] [] := by first | (simp [entryFrame, mkF, argsToLocals, Value.category]; done) | rfl
set_option maxRecDepth 65536 in
set_option maxHeartbeats 40000000 in
theorem own_rm4 (l : Launch) (Z : State) (a0 : Array Value) (hw : ∀ d ∈ tables_1, d.before a0 Z = true) (ws : List Jvm.Cond) (a1 : Addr) (p1 p2 p3 : Int32) (h0 : Heap) (n0 : Nat) (Z0 : n0 ≤ h0.size) (F1 : Fld Z h0 a1 "stowage/engine/CodePointRange" "first" "I" (.int p1)) (F2 : Fld Z h0 a1 "stowage/engine/CodePointRange" "last" "I" (.int p2)) :
    MetFree l (⟨"stowage/engine/CodePointRange", "holds", "(I)Z"⟩ : MethodName) (head1 (Jvm.Cond.code (⟨"stowage/engine/CodePointRange", "holds", "(I)Z"⟩ : MethodName) prog_18_method_2_code 2 (some .boolean) :: ws) ({ frames := 0, cells := 0, slots := 0, locals := 0 } : Room)) (fun a U => a = #[(.ref a1), (.int p3)] ∧ Z.Warmed39 U.vm ∧ U.heap = h0) (fun _ _ _ _ _ => True) (fun _ U o U' => ∃ v L, o = .returned v ∧ own_Qp (some (.int (own_b (¬ p3 < p1 ∧ ¬ p2 < p3)))) h0 n0 v U'.heap L ∧ FrameEnd U o U' L ({ frames := 0, cells := 0, slots := 0, locals := 0 } : Room).cells ({ frames := 0, cells := 0, slots := 0, locals := 0 } : Room).slots) := by
  refine MetFree.of_bodySF (plainFor_of_name own_pn1) hisR ?_
  intro p e s m args below meth c s₁ Bd hml0 hP hK
  obtain ⟨rfl, hZ, hh⟩ := hP
  have hx := Bd.exec
  have hby := Bd.bytes
  have hml : c.maxLocals = 2 := hml0
  have hown : s.vm.findClass "stowage/engine/CodePointRange" = some m.cls := findClass_of_methodNamed Bd.named
  have hnm := (name_of_methodNamed Bd.named Bd.method).1
  have X0 : Stand p l e ({ frames := 0, cells := 0, slots := 0, locals := 0 } : Room) s m #[(.ref a1), (.int p3)] below meth c s₁ [] 0 0 := Stand.of_body Bd
  have e0 : s₁.heap = h0 := by rw [← hh, Bd.state]; rfl
  have N0 := Fr.nil n0
  refine own_in (Q := own_Qp (some (.int (own_b (¬ p3 < p1 ∧ ¬ p2 < p3)))) h0 n0) ?_
  rw [own_ef4]
  show own_G _ _ _ _ _ _ _ (s₁.setTop (mkF m 0 #[.val (.ref a1), .val (.int p3)] []))
  refine own_st (fun t k => XS.aloadN X0.here hx rfl (hb hby own_d4_0) rfl rfl k) ?_
  show own_G _ _ _ _ _ _ _ (s₁.setTop (mkF m 1 #[.val (.ref a1), .val (.int p3)] [(.ref a1)]))
  obtain ⟨T5, X5, e5, st5⟩ := getF X0 hx hZ hown (host := "") (Or.inl (hw _ (List.mem_of_getElem? (i := 17) rfl))) Via.refl e0 F1 (g := (mkF m 1 #[.val (.ref a1), .val (.int p3)] [(.ref a1)])) rfl rfl (hb hby own_d4_1)
  refine own_st (fun t k => st5 t k) ?_
  show own_G _ _ _ _ _ _ _ (T5.setTop (mkF m 4 #[.val (.ref a1), .val (.int p3)] [(.int p1)]))
  refine own_st (fun t k => XS.iloadN X5.here hx rfl (hb hby own_d4_4) rfl k) ?_
  show own_G _ _ _ _ _ _ _ (T5.setTop (mkF m 5 #[.val (.ref a1), .val (.int p3)] [(.int p3), (.int p1)]))
  by_cases hc : p3 < p1
  · refine own_st (fun t k => XS.icmpYes X5.here hx rfl (pc0 := 5) (pc' := 20) rfl (hb hby own_d4_5) rfl (tlt hc).2.2.1 (by decide) (by decide) k) ?_
    show own_G _ _ _ _ _ _ _ (T5.setTop (mkF m 20 #[.val (.ref a1), .val (.int p3)] []))
    refine own_st (fun t k => XS.iconst X5.here hx rfl (hb hby own_d4_20) k) ?_
    show own_G _ _ _ _ _ _ _ (T5.setTop (mkF m 21 #[.val (.ref a1), .val (.int p3)] [(.int (0 : Int32))]))
    exact own_retN (t := .boolean) (by simp) X5 hx Bd.returns (BodyLoose.notSynchronized Bd) (hb hby own_d4_21) (by decide) (by decide) ⟨own_bF (fun q => q.1 hc), N0, e5⟩
  · refine own_st (fun t k => XS.icmpNo X5.here hx rfl (hb hby own_d4_5) rfl (flt hc).2.2.1 k) ?_
    show own_G _ _ _ _ _ _ _ (T5.setTop (mkF m 8 #[.val (.ref a1), .val (.int p3)] []))
    refine own_st (fun t k => XS.iloadN X5.here hx rfl (hb hby own_d4_8) rfl k) ?_
    show own_G _ _ _ _ _ _ _ (T5.setTop (mkF m 9 #[.val (.ref a1), .val (.int p3)] [(.int p3)]))
    refine own_st (fun t k => XS.aloadN X5.here hx rfl (hb hby own_d4_9) rfl rfl k) ?_
    show own_G _ _ _ _ _ _ _ (T5.setTop (mkF m 10 #[.val (.ref a1), .val (.int p3)] [(.ref a1), (.int p3)]))
    obtain ⟨T6, X6, e6, st6⟩ := getF X5 hx hZ hown (host := "") (Or.inl (hw _ (List.mem_of_getElem? (i := 19) rfl))) Via.refl e5 F2 (g := (mkF m 10 #[.val (.ref a1), .val (.int p3)] [(.ref a1), (.int p3)])) rfl rfl (hb hby own_d4_10)
    refine own_st (fun t k => st6 t k) ?_
    show own_G _ _ _ _ _ _ _ (T6.setTop (mkF m 13 #[.val (.ref a1), .val (.int p3)] [(.int p2), (.int p3)]))
    by_cases hd : p2 < p3
    · refine own_st (fun t k => XS.icmpYes X6.here hx rfl (pc0 := 13) (pc' := 20) rfl (hb hby own_d4_13) rfl (tlt hd).2.2.1 (by decide) (by decide) k) ?_
      show own_G _ _ _ _ _ _ _ (T6.setTop (mkF m 20 #[.val (.ref a1), .val (.int p3)] []))
      refine own_st (fun t k => XS.iconst X6.here hx rfl (hb hby own_d4_20) k) ?_
      show own_G _ _ _ _ _ _ _ (T6.setTop (mkF m 21 #[.val (.ref a1), .val (.int p3)] [(.int (0 : Int32))]))
      exact own_retN (t := .boolean) (by simp) X6 hx Bd.returns (BodyLoose.notSynchronized Bd) (hb hby own_d4_21) (by decide) (by decide) ⟨own_bF (fun q => q.2 hd), N0, e6⟩
    · refine own_st (fun t k => XS.icmpNo X6.here hx rfl (hb hby own_d4_13) rfl (flt hd).2.2.1 k) ?_
      show own_G _ _ _ _ _ _ _ (T6.setTop (mkF m 16 #[.val (.ref a1), .val (.int p3)] []))
      refine own_st (fun t k => XS.iconst X6.here hx rfl (hb hby own_d4_16) k) ?_
      show own_G _ _ _ _ _ _ _ (T6.setTop (mkF m 17 #[.val (.ref a1), .val (.int p3)] [(.int (1 : Int32))]))
      refine own_st (fun t k => XS.goto X6.here hx rfl (pc0 := 17) (pc' := 21) rfl (hb hby own_d4_17) (by decide) (by decide) k) ?_
      show own_G _ _ _ _ _ _ _ (T6.setTop (mkF m 21 #[.val (.ref a1), .val (.int p3)] [(.int (1 : Int32))]))
      exact own_retN (t := .boolean) (by simp) X6 hx Bd.returns (BodyLoose.notSynchronized Bd) (hb hby own_d4_21) (by decide) (by decide) ⟨own_bT ⟨hc, hd⟩, N0, e6⟩
theorem own_pd1 : parseMethodDescriptor "(II)V" = some ⟨[.int, .int], none⟩ := by decide +kernel
theorem own_pd2 : parseMethodDescriptor "(I)Z" = some ⟨[.int], some .boolean⟩ := by decide +kernel
theorem own_pn2 : plainName "stowage/engine/CodePointRangeHoldsPinLaw" = true := by first | (simp [plainName, overriddenIn]; done) | decide +kernel
theorem own_ef0 (m : MethodId) (p1 : Int32) (p2 : Int32) (p3 : Int32) (p4 : Int32) : entryFrame m #[(.int p1), (.int p2), (.int p3), (.int p4)] maxLocals = mkF m 0 #[.val (.int p1), .val (.int p2), .val (.int p3), .val (.int p4), .unset, .unset, .unset, .unset, .unset, .unset] [] := by first | (simp [entryFrame, mkF, argsToLocals, Value.category, maxLocals]; done) | rfl
set_option maxRecDepth 65536 in
set_option maxHeartbeats 40000000 in
theorem own_rm0 (l : Launch) (Z : State) (a0 : Array Value) (hw : ∀ d ∈ tables_1, d.before a0 Z = true) (ws : List Jvm.Cond) (p1 p2 p3 p4 : Int32) (h0 : Heap) (n0 : Nat) (Z0 : n0 ≤ h0.size)  :
    MetFree l x (head1 (Jvm.Cond.code x code maxLocals ret :: ws) room_1) (fun a U => a = #[(.int p1), (.int p2), (.int p3), (.int p4)] ∧ Z.Warmed39 U.vm ∧ U.heap = h0) (fun _ _ _ _ _ => True) (fun _ U o U' => ∃ v L, o = .returned v ∧ own_Q0 n0 v U'.heap L ∧ FrameEnd U o U' L room_1.cells room_1.slots) := by
  refine MetFree.of_bodySF (plainFor_of_name own_pn2) hisR ?_
  intro p e s m args below meth c s₁ Bd hml0 hP hK
  obtain ⟨rfl, hZ, hh⟩ := hP
  have hx := Bd.exec
  have hby := Bd.bytes
  have hml : c.maxLocals = 10 := hml0
  have hown : s.vm.findClass "stowage/engine/CodePointRangeHoldsPinLaw" = some m.cls := findClass_of_methodNamed Bd.named
  have hnm := (name_of_methodNamed Bd.named Bd.method).1
  have X0 : Stand p l e room_1 s m #[(.int p1), (.int p2), (.int p3), (.int p4)] below meth c s₁ [] 0 0 := Stand.of_body Bd
  have e0 : s₁.heap = h0 := by rw [← hh, Bd.state]; rfl
  have N0 := Fr.nil n0
  refine own_in (Q := own_Q0 n0) ?_
  rw [own_ef0]
  show own_G _ _ _ _ _ _ _ (s₁.setTop (mkF m 0 #[.val (.int p1), .val (.int p2), .val (.int p3), .val (.int p4), .unset, .unset, .unset, .unset, .unset, .unset] []))
  refine own_st (fun t k => XS.iloadN X0.here hx rfl (hb hby at_0) rfl k) ?_
  show own_G _ _ _ _ _ _ _ (s₁.setTop (mkF m 1 #[.val (.int p1), .val (.int p2), .val (.int p3), .val (.int p4), .unset, .unset, .unset, .unset, .unset, .unset] [(.int p1)]))
  refine own_st (fun t k => X0.ldcInt hx hown (mvT hZ (hw _ (List.mem_of_getElem? (i := 0) rfl))) (g := (mkF m 1 #[.val (.int p1), .val (.int p2), .val (.int p3), .val (.int p4), .unset, .unset, .unset, .unset, .unset, .unset] [(.int p1)])) rfl (hb hby at_1) t k) ?_
  show own_G _ _ _ _ _ _ _ (s₁.setTop (mkF m 3 #[.val (.int p1), .val (.int p2), .val (.int p3), .val (.int p4), .unset, .unset, .unset, .unset, .unset, .unset] [(.int (2147483647 : Int32)), (.int p1)]))
  refine own_st (fun t k => XS.iand X0.here hx rfl (hb hby at_3) rfl k) ?_
  show own_G _ _ _ _ _ _ _ (s₁.setTop (mkF m 4 #[.val (.int p1), .val (.int p2), .val (.int p3), .val (.int p4), .unset, .unset, .unset, .unset, .unset, .unset] [(.int (p1 &&& (2147483647 : Int32)))]))
  refine own_st (fun t k => X0.ldcInt hx hown (mvT hZ (hw _ (List.mem_of_getElem? (i := 1) rfl))) (g := (mkF m 4 #[.val (.int p1), .val (.int p2), .val (.int p3), .val (.int p4), .unset, .unset, .unset, .unset, .unset, .unset] [(.int (p1 &&& (2147483647 : Int32)))])) rfl (hb hby at_4) t k) ?_
  show own_G _ _ _ _ _ _ _ (s₁.setTop (mkF m 6 #[.val (.int p1), .val (.int p2), .val (.int p3), .val (.int p4), .unset, .unset, .unset, .unset, .unset, .unset] [(.int (1114112 : Int32)), (.int (p1 &&& (2147483647 : Int32)))]))
  refine own_st (fun t k => iremM X0 hx rfl (hb hby at_6) rfl (by decide) k) ?_
  show own_G _ _ _ _ _ _ _ (s₁.setTop (mkF m 7 #[.val (.int p1), .val (.int p2), .val (.int p3), .val (.int p4), .unset, .unset, .unset, .unset, .unset, .unset] [(.int ((p1 &&& (2147483647 : Int32)) % (1114112 : Int32)))]))
  have hf := own_f p1
  generalize ((p1 &&& (2147483647 : Int32)) % (1114112 : Int32)) = f at hf ⊢
  show own_G _ _ _ _ _ _ _ (s₁.setTop (mkF m 7 #[.val (.int p1), .val (.int p2), .val (.int p3), .val (.int p4), .unset, .unset, .unset, .unset, .unset, .unset] [(.int f)]))
  obtain ⟨hnz, hl1, hl2⟩ := own_l f p2 hf
  refine own_st (fun t k => XS.istore X0.here hx rfl (hb hby at_7) rfl (l' := #[.val (.int p1), .val (.int p2), .val (.int p3), .val (.int p4), .val (.int f), .unset, .unset, .unset, .unset, .unset]) rfl k) ?_
  show own_G _ _ _ _ _ _ _ (s₁.setTop (mkF m 9 #[.val (.int p1), .val (.int p2), .val (.int p3), .val (.int p4), .val (.int f), .unset, .unset, .unset, .unset, .unset] []))
  refine own_st (fun t k => XS.iload X0.here hx rfl (hb hby at_9) rfl k) ?_
  show own_G _ _ _ _ _ _ _ (s₁.setTop (mkF m 11 #[.val (.int p1), .val (.int p2), .val (.int p3), .val (.int p4), .val (.int f), .unset, .unset, .unset, .unset, .unset] [(.int f)]))
  refine own_st (fun t k => XS.iloadN X0.here hx rfl (hb hby at_11) rfl k) ?_
  show own_G _ _ _ _ _ _ _ (s₁.setTop (mkF m 12 #[.val (.int p1), .val (.int p2), .val (.int p3), .val (.int p4), .val (.int f), .unset, .unset, .unset, .unset, .unset] [(.int p2), (.int f)]))
  refine own_st (fun t k => X0.ldcInt hx hown (mvT hZ (hw _ (List.mem_of_getElem? (i := 0) rfl))) (g := (mkF m 12 #[.val (.int p1), .val (.int p2), .val (.int p3), .val (.int p4), .val (.int f), .unset, .unset, .unset, .unset, .unset] [(.int p2), (.int f)])) rfl (hb hby at_12) t k) ?_
  show own_G _ _ _ _ _ _ _ (s₁.setTop (mkF m 14 #[.val (.int p1), .val (.int p2), .val (.int p3), .val (.int p4), .val (.int f), .unset, .unset, .unset, .unset, .unset] [(.int (2147483647 : Int32)), (.int p2), (.int f)]))
  refine own_st (fun t k => XS.iand X0.here hx rfl (hb hby at_14) rfl k) ?_
  show own_G _ _ _ _ _ _ _ (s₁.setTop (mkF m 15 #[.val (.int p1), .val (.int p2), .val (.int p3), .val (.int p4), .val (.int f), .unset, .unset, .unset, .unset, .unset] [(.int (p2 &&& (2147483647 : Int32))), (.int f)]))
  refine own_st (fun t k => X0.ldcInt hx hown (mvT hZ (hw _ (List.mem_of_getElem? (i := 1) rfl))) (g := (mkF m 15 #[.val (.int p1), .val (.int p2), .val (.int p3), .val (.int p4), .val (.int f), .unset, .unset, .unset, .unset, .unset] [(.int (p2 &&& (2147483647 : Int32))), (.int f)])) rfl (hb hby at_15) t k) ?_
  show own_G _ _ _ _ _ _ _ (s₁.setTop (mkF m 17 #[.val (.int p1), .val (.int p2), .val (.int p3), .val (.int p4), .val (.int f), .unset, .unset, .unset, .unset, .unset] [(.int (1114112 : Int32)), (.int (p2 &&& (2147483647 : Int32))), (.int f)]))
  refine own_st (fun t k => XS.iload X0.here hx rfl (hb hby at_17) rfl k) ?_
  show own_G _ _ _ _ _ _ _ (s₁.setTop (mkF m 19 #[.val (.int p1), .val (.int p2), .val (.int p3), .val (.int p4), .val (.int f), .unset, .unset, .unset, .unset, .unset] [(.int f), (.int (1114112 : Int32)), (.int (p2 &&& (2147483647 : Int32))), (.int f)]))
  refine own_st (fun t k => XS.isub X0.here hx rfl (hb hby at_19) rfl k) ?_
  show own_G _ _ _ _ _ _ _ (s₁.setTop (mkF m 20 #[.val (.int p1), .val (.int p2), .val (.int p3), .val (.int p4), .val (.int f), .unset, .unset, .unset, .unset, .unset] [(.int ((1114112 : Int32) - f)), (.int (p2 &&& (2147483647 : Int32))), (.int f)]))
  refine own_st (fun t k => iremM X0 hx rfl (hb hby at_20) rfl hnz k) ?_
  show own_G _ _ _ _ _ _ _ (s₁.setTop (mkF m 21 #[.val (.int p1), .val (.int p2), .val (.int p3), .val (.int p4), .val (.int f), .unset, .unset, .unset, .unset, .unset] [(.int ((p2 &&& (2147483647 : Int32)) % ((1114112 : Int32) - f))), (.int f)]))
  refine own_st (fun t k => XS.iadd X0.here hx rfl (hb hby at_21) rfl k) ?_
  show own_G _ _ _ _ _ _ _ (s₁.setTop (mkF m 22 #[.val (.int p1), .val (.int p2), .val (.int p3), .val (.int p4), .val (.int f), .unset, .unset, .unset, .unset, .unset] [(.int (f + ((p2 &&& (2147483647 : Int32)) % ((1114112 : Int32) - f))))]))
  generalize (f + ((p2 &&& (2147483647 : Int32)) % ((1114112 : Int32) - f))) = la at hl1 hl2 ⊢
  show own_G _ _ _ _ _ _ _ (s₁.setTop (mkF m 22 #[.val (.int p1), .val (.int p2), .val (.int p3), .val (.int p4), .val (.int f), .unset, .unset, .unset, .unset, .unset] [(.int la)]))
  refine own_st (fun t k => XS.istore X0.here hx rfl (hb hby at_22) rfl (l' := #[.val (.int p1), .val (.int p2), .val (.int p3), .val (.int p4), .val (.int f), .val (.int la), .unset, .unset, .unset, .unset]) rfl k) ?_
  show own_G _ _ _ _ _ _ _ (s₁.setTop (mkF m 24 #[.val (.int p1), .val (.int p2), .val (.int p3), .val (.int p4), .val (.int f), .val (.int la), .unset, .unset, .unset, .unset] []))
  refine own_st (fun t k => XS.iloadN X0.here hx rfl (hb hby at_24) rfl k) ?_
  show own_G _ _ _ _ _ _ _ (s₁.setTop (mkF m 25 #[.val (.int p1), .val (.int p2), .val (.int p3), .val (.int p4), .val (.int f), .val (.int la), .unset, .unset, .unset, .unset] [(.int p4)]))
  refine own_st (fun t k => XS.iconst X0.here hx rfl (hb hby at_25) k) ?_
  show own_G _ _ _ _ _ _ _ (s₁.setTop (mkF m 26 #[.val (.int p1), .val (.int p2), .val (.int p3), .val (.int p4), .val (.int f), .val (.int la), .unset, .unset, .unset, .unset] [(.int (3 : Int32)), (.int p4)]))
  refine own_st (fun t k => XS.iand X0.here hx rfl (hb hby at_26) rfl k) ?_
  show own_G _ _ _ _ _ _ _ (s₁.setTop (mkF m 27 #[.val (.int p1), .val (.int p2), .val (.int p3), .val (.int p4), .val (.int f), .val (.int la), .unset, .unset, .unset, .unset] [(.int (p4 &&& (3 : Int32)))]))
  refine own_st (fun t k => XS.istore X0.here hx rfl (hb hby at_27) rfl (l' := #[.val (.int p1), .val (.int p2), .val (.int p3), .val (.int p4), .val (.int f), .val (.int la), .val (.int (p4 &&& (3 : Int32))), .unset, .unset, .unset]) rfl k) ?_
  show own_G _ _ _ _ _ _ _ (s₁.setTop (mkF m 29 #[.val (.int p1), .val (.int p2), .val (.int p3), .val (.int p4), .val (.int f), .val (.int la), .val (.int (p4 &&& (3 : Int32))), .unset, .unset, .unset] []))
  generalize (p4 &&& (3 : Int32)) = mo
  show own_G _ _ _ _ _ _ _ (s₁.setTop (mkF m 29 #[.val (.int p1), .val (.int p2), .val (.int p3), .val (.int p4), .val (.int f), .val (.int la), .val (.int mo), .unset, .unset, .unset] []))
  have J : ∀ (c7 : Int32), own_G p.tables e below s (own_Q0 n0) room_1.cells room_1.slots (s₁.setTop (mkF m 70 #[.val (.int p1), .val (.int p2), .val (.int p3), .val (.int p4), .val (.int f), .val (.int la), .val (.int mo), .val (.int c7), .unset, .unset] [])) := by
    intro c7
    have i1 : ¬ f < 0 := by rw [Int32.lt_iff_toInt_lt, show (0 : Int32).toInt = 0 from by decide]; omega
    have i2 : ¬ la < f := by rw [Int32.lt_iff_toInt_lt]; omega
    have i3 : ¬ 1114111 < la := by rw [Int32.lt_iff_toInt_lt, show (1114111 : Int32).toInt = 1114111 from by decide]; omega
    obtain ⟨T7, h7, X7, e7, E7, A7, D7, -, st7⟩ := newO X0 hx hZ hown (hw _ (List.mem_of_getElem? (i := 2) rfl)) (hw _ (List.mem_of_getElem? (i := 3) rfl)) (hw _ (List.mem_of_getElem? (i := 4) rfl)) e0 (g := (mkF m 70 #[.val (.int p1), .val (.int p2), .val (.int p3), .val (.int p4), .val (.int f), .val (.int la), .val (.int mo), .val (.int c7), .unset, .unset] [])) rfl (hb hby at_70) (by decide) (by decide)
    obtain ⟨b1, g7⟩ : ∃ z, z = h0.size := ⟨_, rfl⟩
    rw [← g7] at A7 D7 st7
    refine own_st (fun t k => st7 t k) ?_
    show own_G _ _ _ _ _ _ _ (T7.setTop (mkF m 73 #[.val (.int p1), .val (.int p2), .val (.int p3), .val (.int p4), .val (.int f), .val (.int la), .val (.int mo), .val (.int c7), .unset, .unset] [(.ref b1)]))
    have F1 : Fld Z h7 b1 "stowage/engine/CodePointRange" "first" "I" (.int 0) := D7 (Or.inr (hw _ (List.mem_of_getElem? (i := 18) rfl))) (ty := .int) (by decide)
    have F2 : Fld Z h7 b1 "stowage/engine/CodePointRange" "last" "I" (.int 0) := D7 (Or.inr (hw _ (List.mem_of_getElem? (i := 20) rfl))) (ty := .int) (by decide)
    have gb : n0 ≤ b1 := Nat.le_trans Z0 (Nat.le_of_eq g7.symm)
    have Z1 : n0 ≤ h7.size := Nat.le_trans Z0 E7.1
    refine own_st (fun t k => XS.dup X7.here hx rfl (hb hby at_73) rfl rfl k) ?_
    show own_G _ _ _ _ _ _ _ (T7.setTop (mkF m 74 #[.val (.int p1), .val (.int p2), .val (.int p3), .val (.int p4), .val (.int f), .val (.int la), .val (.int mo), .val (.int c7), .unset, .unset] [(.ref b1), (.ref b1)]))
    refine own_st (fun t k => XS.iload X7.here hx rfl (hb hby at_74) rfl k) ?_
    show own_G _ _ _ _ _ _ _ (T7.setTop (mkF m 76 #[.val (.int p1), .val (.int p2), .val (.int p3), .val (.int p4), .val (.int f), .val (.int la), .val (.int mo), .val (.int c7), .unset, .unset] [(.int f), (.ref b1), (.ref b1)]))
    refine own_st (fun t k => XS.iload X7.here hx rfl (hb hby at_76) rfl k) ?_
    show own_G _ _ _ _ _ _ _ (T7.setTop (mkF m 78 #[.val (.int p1), .val (.int p2), .val (.int p3), .val (.int p4), .val (.int f), .val (.int la), .val (.int mo), .val (.int c7), .unset, .unset] [(.int la), (.int f), (.ref b1), (.ref b1)]))
    obtain ⟨_, _, ⟨T8, L8, k8, n8⟩, -, X8, ⟨Lc8, hQ8, l8, y8, z8⟩, st8⟩ := X7.specialBack hx (y := (⟨"stowage/engine/CodePointRange", "<init>", "(II)V"⟩ : MethodName)) rfl hown (mvT hZ (hw _ (List.mem_of_getElem? (i := 5) rfl))) (mvT hZ (hw _ (List.mem_of_getElem? (i := 6) rfl))) (mvT hZ (hw _ (List.mem_of_getElem? (i := 7) rfl))) (by decide) (backOf (W := 1) (own_rm1 l Z a0 hw [] b1 f la h7 n0 Z1 i1 i2 i3 A7 F1 F2 gb) hZ (hw _ (List.mem_of_getElem? (i := 7) rfl)) (hw _ (List.mem_of_getElem? (i := 4) rfl)) (by decide) (by decide)) (g := (mkF m 78 #[.val (.int p1), .val (.int p2), .val (.int p3), .val (.int p4), .val (.int f), .val (.int la), .val (.int mo), .val (.int c7), .unset, .unset] [(.int la), (.int f), (.ref b1), (.ref b1)])) rfl (by rw [hml]; rfl) (Steps.refl _) (a := b1) (argsL := [(.int f), (.int la)]) (rest := [(.ref b1)]) (lenOf own_pd1 rfl) rfl (by show 2 * 0 + _ ≤ _; exact Nat.le_of_eq rfl) (hb hby at_78) (fun _ _ => ⟨rfl, e7, (by decide : 1 + 0 ≤ _), (by decide : 2 + 0 ≤ _)⟩)
    dsimp only [Pt.U, Pt.locs, Pt.cells, Pt.slots] at X8 l8 y8 z8 st8 hQ8
    subst l8 y8 z8
    obtain ⟨rfl, N8q, K8, A8, G8, H8⟩ := hQ8
    have N8 := Fr.app N0 N8q
    refine own_st (fun t k => st8.trans k) ?_
    show own_G _ _ _ _ _ _ _ (T8.setTop (mkF m 81 #[.val (.int p1), .val (.int p2), .val (.int p3), .val (.int p4), .val (.int f), .val (.int la), .val (.int mo), .val (.int c7), .unset, .unset] [(.ref b1)]))
    refine own_st (fun t k => XS.astore X8.here hx rfl (hb hby at_81) rfl rfl (l' := #[.val (.int p1), .val (.int p2), .val (.int p3), .val (.int p4), .val (.int f), .val (.int la), .val (.int mo), .val (.int c7), .val (.ref b1), .unset]) rfl k) ?_
    show own_G _ _ _ _ _ _ _ (T8.setTop (mkF m 83 #[.val (.int p1), .val (.int p2), .val (.int p3), .val (.int p4), .val (.int f), .val (.int la), .val (.int mo), .val (.int c7), .val (.ref b1), .unset] []))
    refine own_st (fun t k => XS.iload X8.here hx rfl (hb hby at_83) rfl k) ?_
    show own_G _ _ _ _ _ _ _ (T8.setTop (mkF m 85 #[.val (.int p1), .val (.int p2), .val (.int p3), .val (.int p4), .val (.int f), .val (.int la), .val (.int mo), .val (.int c7), .val (.ref b1), .unset] [(.int c7)]))
    refine own_st (fun t k => XS.i2l X8.here hx rfl (hb hby at_85) rfl k) ?_
    show own_G _ _ _ _ _ _ _ (T8.setTop (mkF m 86 #[.val (.int p1), .val (.int p2), .val (.int p3), .val (.int p4), .val (.int f), .val (.int la), .val (.int mo), .val (.int c7), .val (.ref b1), .unset] [(.long (c7.toInt64))]))
    refine own_st (fun t k => XS.iload X8.here hx rfl (hb hby at_86) rfl k) ?_
    show own_G _ _ _ _ _ _ _ (T8.setTop (mkF m 88 #[.val (.int p1), .val (.int p2), .val (.int p3), .val (.int p4), .val (.int f), .val (.int la), .val (.int mo), .val (.int c7), .val (.ref b1), .unset] [(.int f), (.long (c7.toInt64))]))
    refine own_st (fun t k => XS.i2l X8.here hx rfl (hb hby at_88) rfl k) ?_
    show own_G _ _ _ _ _ _ _ (T8.setTop (mkF m 89 #[.val (.int p1), .val (.int p2), .val (.int p3), .val (.int p4), .val (.int f), .val (.int la), .val (.int mo), .val (.int c7), .val (.ref b1), .unset] [(.long (f.toInt64)), (.long (c7.toInt64))]))
    refine own_st (fun t k => XS.lsub X8.here hx rfl (hb hby at_89) rfl k) ?_
    show own_G _ _ _ _ _ _ _ (T8.setTop (mkF m 90 #[.val (.int p1), .val (.int p2), .val (.int p3), .val (.int p4), .val (.int f), .val (.int la), .val (.int mo), .val (.int c7), .val (.ref b1), .unset] [(.long ((c7.toInt64) - (f.toInt64)))]))
    refine own_st (fun t k => XS.iload X8.here hx rfl (hb hby at_90) rfl k) ?_
    show own_G _ _ _ _ _ _ _ (T8.setTop (mkF m 92 #[.val (.int p1), .val (.int p2), .val (.int p3), .val (.int p4), .val (.int f), .val (.int la), .val (.int mo), .val (.int c7), .val (.ref b1), .unset] [(.int c7), (.long ((c7.toInt64) - (f.toInt64)))]))
    refine own_st (fun t k => XS.i2l X8.here hx rfl (hb hby at_92) rfl k) ?_
    show own_G _ _ _ _ _ _ _ (T8.setTop (mkF m 93 #[.val (.int p1), .val (.int p2), .val (.int p3), .val (.int p4), .val (.int f), .val (.int la), .val (.int mo), .val (.int c7), .val (.ref b1), .unset] [(.long (c7.toInt64)), (.long ((c7.toInt64) - (f.toInt64)))]))
    refine own_st (fun t k => XS.iload X8.here hx rfl (hb hby at_93) rfl k) ?_
    show own_G _ _ _ _ _ _ _ (T8.setTop (mkF m 95 #[.val (.int p1), .val (.int p2), .val (.int p3), .val (.int p4), .val (.int f), .val (.int la), .val (.int mo), .val (.int c7), .val (.ref b1), .unset] [(.int la), (.long (c7.toInt64)), (.long ((c7.toInt64) - (f.toInt64)))]))
    refine own_st (fun t k => XS.i2l X8.here hx rfl (hb hby at_95) rfl k) ?_
    show own_G _ _ _ _ _ _ _ (T8.setTop (mkF m 96 #[.val (.int p1), .val (.int p2), .val (.int p3), .val (.int p4), .val (.int f), .val (.int la), .val (.int mo), .val (.int c7), .val (.ref b1), .unset] [(.long (la.toInt64)), (.long (c7.toInt64)), (.long ((c7.toInt64) - (f.toInt64)))]))
    refine own_st (fun t k => XS.lsub X8.here hx rfl (hb hby at_96) rfl k) ?_
    show own_G _ _ _ _ _ _ _ (T8.setTop (mkF m 97 #[.val (.int p1), .val (.int p2), .val (.int p3), .val (.int p4), .val (.int f), .val (.int la), .val (.int mo), .val (.int c7), .val (.ref b1), .unset] [(.long ((c7.toInt64) - (la.toInt64))), (.long ((c7.toInt64) - (f.toInt64)))]))
    refine own_st (fun t k => XS.lmul X8.here hx rfl (hb hby at_97) rfl k) ?_
    show own_G _ _ _ _ _ _ _ (T8.setTop (mkF m 98 #[.val (.int p1), .val (.int p2), .val (.int p3), .val (.int p4), .val (.int f), .val (.int la), .val (.int mo), .val (.int c7), .val (.ref b1), .unset] [(.long (((c7.toInt64) - (f.toInt64)) * ((c7.toInt64) - (la.toInt64))))]))
    have Z2 : n0 ≤ T8.heap.size := Nat.le_trans Z1 K8.1
    refine own_st (fun t k => XS.lconst X8.here hx rfl (hb hby at_98) k) ?_
    show own_G _ _ _ _ _ _ _ (T8.setTop (mkF m 99 #[.val (.int p1), .val (.int p2), .val (.int p3), .val (.int p4), .val (.int f), .val (.int la), .val (.int mo), .val (.int c7), .val (.ref b1), .unset] [(.long (0 : Int64)), (.long (((c7.toInt64) - (f.toInt64)) * ((c7.toInt64) - (la.toInt64))))]))
    refine own_st (fun t k => XS.lcmp X8.here hx rfl (hb hby at_99) rfl k) ?_
    show own_G _ _ _ _ _ _ _ (T8.setTop (mkF m 100 #[.val (.int p1), .val (.int p2), .val (.int p3), .val (.int p4), .val (.int f), .val (.int la), .val (.int mo), .val (.int c7), .val (.ref b1), .unset] [(.int (lcmpW (((c7.toInt64) - (f.toInt64)) * ((c7.toInt64) - (la.toInt64))) (0 : Int64)))]))
    have K : ∀ (v : Int32), v = own_b (¬ c7 < f ∧ ¬ la < c7) → own_G p.tables e below s (own_Q0 n0) room_1.cells room_1.slots (T8.setTop (mkF m 108 #[.val (.int p1), .val (.int p2), .val (.int p3), .val (.int p4), .val (.int f), .val (.int la), .val (.int mo), .val (.int c7), .val (.ref b1), .unset] [(.int v)])) := by
      intro v hv
      refine own_st (fun t k => XS.istore X8.here hx rfl (hb hby at_108) rfl (l' := #[.val (.int p1), .val (.int p2), .val (.int p3), .val (.int p4), .val (.int f), .val (.int la), .val (.int mo), .val (.int c7), .val (.ref b1), .val (.int v)]) rfl k) ?_
      show own_G _ _ _ _ _ _ _ (T8.setTop (mkF m 110 #[.val (.int p1), .val (.int p2), .val (.int p3), .val (.int p4), .val (.int f), .val (.int la), .val (.int mo), .val (.int c7), .val (.ref b1), .val (.int v)] []))
      refine own_st (fun t k => XS.aload X8.here hx rfl (hb hby at_110) rfl rfl k) ?_
      show own_G _ _ _ _ _ _ _ (T8.setTop (mkF m 112 #[.val (.int p1), .val (.int p2), .val (.int p3), .val (.int p4), .val (.int f), .val (.int la), .val (.int mo), .val (.int c7), .val (.ref b1), .val (.int v)] [(.ref b1)]))
      refine own_st (fun t k => XS.iload X8.here hx rfl (hb hby at_112) rfl k) ?_
      show own_G _ _ _ _ _ _ _ (T8.setTop (mkF m 114 #[.val (.int p1), .val (.int p2), .val (.int p3), .val (.int p4), .val (.int f), .val (.int la), .val (.int mo), .val (.int c7), .val (.ref b1), .val (.int v)] [(.int c7), (.ref b1)]))
      obtain ⟨cq9, kq9, q9a, q9b, q9c⟩ := isOf hZ rfl A8
      obtain ⟨_, _, ⟨T9, L9, k9, n9⟩, -, X9, ⟨Lc9, hQ9, l9, y9, z9⟩, st9⟩ := X8.virtualBack hx (y := (⟨"stowage/engine/CodePointRange", "holds", "(I)Z"⟩ : MethodName)) (z := (⟨"stowage/engine/CodePointRange", "holds", "(I)Z"⟩ : MethodName)) hown (mvT hZ (hw _ (List.mem_of_getElem? (i := 21) rfl))) (mvT hZ (hw _ (List.mem_of_getElem? (i := 22) rfl))) (notFace_of_selects (args := #[]) (mvT hZ (hw _ (List.mem_of_getElem? (i := 24) rfl)))) (mvT hZ (hw _ (List.mem_of_getElem? (i := 24) rfl))) (mvT hZ (hw _ (List.mem_of_getElem? (i := 23) rfl))) (by decide) (backOf (W := 0) (own_rm4 l Z a0 hw [] b1 f la c7 T8.heap n0 Z2 G8 H8) hZ (hw _ (List.mem_of_getElem? (i := 25) rfl)) (hw _ (List.mem_of_getElem? (i := 4) rfl)) (by decide) (by decide)) q9a q9c (g := (mkF m 114 #[.val (.int p1), .val (.int p2), .val (.int p3), .val (.int p4), .val (.int f), .val (.int la), .val (.int mo), .val (.int c7), .val (.ref b1), .val (.int v)] [(.int c7), (.ref b1)])) rfl (by rw [hml]; rfl) (Steps.refl _) (argsL := [(.int c7)]) (rest := []) (lenOf own_pd2 rfl) rfl (by show 2 * 0 + _ ≤ _; exact Nat.le_of_eq rfl) (hb hby at_114) (fun _ _ => ⟨rfl, rfl, (by decide : 1 + 0 ≤ _), (by decide : 2 + 0 ≤ _)⟩)
      dsimp only [Pt.U, Pt.locs, Pt.cells, Pt.slots] at X9 l9 y9 z9 st9 hQ9
      subst l9 y9 z9
      obtain ⟨rfl, N9q, e9⟩ := hQ9
      have N9 := Fr.app N8 N9q
      refine own_st (fun t k => st9.trans k) ?_
      show own_G _ _ _ _ _ _ _ (T9.setTop (mkF m 117 #[.val (.int p1), .val (.int p2), .val (.int p3), .val (.int p4), .val (.int f), .val (.int la), .val (.int mo), .val (.int c7), .val (.ref b1), .val (.int v)] [(.int (own_b (¬ c7 < f ∧ ¬ la < c7)))]))
      refine own_st (fun t k => XS.iload X9.here hx rfl (hb hby at_117) rfl k) ?_
      show own_G _ _ _ _ _ _ _ (T9.setTop (mkF m 119 #[.val (.int p1), .val (.int p2), .val (.int p3), .val (.int p4), .val (.int f), .val (.int la), .val (.int mo), .val (.int c7), .val (.ref b1), .val (.int v)] [(.int v), (.int (own_b (¬ c7 < f ∧ ¬ la < c7)))]))
      refine own_st (fun t k => XS.icmpNo X9.here hx rfl (hb hby at_119) rfl (teq hv.symm).2 k) ?_
      show own_G _ _ _ _ _ _ _ (T9.setTop (mkF m 122 #[.val (.int p1), .val (.int p2), .val (.int p3), .val (.int p4), .val (.int f), .val (.int la), .val (.int mo), .val (.int c7), .val (.ref b1), .val (.int v)] []))
      refine own_st (fun t k => XS.iconst X9.here hx rfl (hb hby at_122) k) ?_
      show own_G _ _ _ _ _ _ _ (T9.setTop (mkF m 123 #[.val (.int p1), .val (.int p2), .val (.int p3), .val (.int p4), .val (.int f), .val (.int la), .val (.int mo), .val (.int c7), .val (.ref b1), .val (.int v)] [(.int (1 : Int32))]))
      refine own_st (fun t k => XS.goto X9.here hx rfl (pc0 := 123) (pc' := 127) rfl (hb hby at_123) (by decide) (by decide) k) ?_
      show own_G _ _ _ _ _ _ _ (T9.setTop (mkF m 127 #[.val (.int p1), .val (.int p2), .val (.int p3), .val (.int p4), .val (.int f), .val (.int la), .val (.int mo), .val (.int c7), .val (.ref b1), .val (.int v)] [(.int (1 : Int32))]))
      exact own_retN (t := .boolean) (by simp) X9 hx Bd.returns (BodyLoose.notSynchronized Bd) (hb hby at_127) (by decide) (by decide) ⟨rfl, N9⟩
    have pl := own_hold c7 f la hf.1 hl1 hl2
    by_cases hc : (0 : Int32) < (lcmpW (((c7.toInt64) - (f.toInt64)) * ((c7.toInt64) - (la.toInt64))) (0 : Int64))
    · refine own_st (fun t k => XS.ifYes X8.here hx rfl (pc0 := 100) (pc' := 107) rfl (hb hby at_100) rfl ((if0 _ _).trans (tlt hc).2.2.1) (by decide) (by decide) k) ?_
      show own_G _ _ _ _ _ _ _ (T8.setTop (mkF m 107 #[.val (.int p1), .val (.int p2), .val (.int p3), .val (.int p4), .val (.int f), .val (.int la), .val (.int mo), .val (.int c7), .val (.ref b1), .unset] []))
      refine own_st (fun t k => XS.iconst X8.here hx rfl (hb hby at_107) k) ?_
      show own_G _ _ _ _ _ _ _ (T8.setTop (mkF m 108 #[.val (.int p1), .val (.int p2), .val (.int p3), .val (.int p4), .val (.int f), .val (.int la), .val (.int mo), .val (.int c7), .val (.ref b1), .unset] [(.int (0 : Int32))]))
      exact K _ (by rw [own_b, if_neg (pl.mp hc)])
    · refine own_st (fun t k => XS.ifNo X8.here hx rfl (hb hby at_100) rfl ((if0 _ _).trans (flt hc).2.2.1) k) ?_
      show own_G _ _ _ _ _ _ _ (T8.setTop (mkF m 103 #[.val (.int p1), .val (.int p2), .val (.int p3), .val (.int p4), .val (.int f), .val (.int la), .val (.int mo), .val (.int c7), .val (.ref b1), .unset] []))
      refine own_st (fun t k => XS.iconst X8.here hx rfl (hb hby at_103) k) ?_
      show own_G _ _ _ _ _ _ _ (T8.setTop (mkF m 104 #[.val (.int p1), .val (.int p2), .val (.int p3), .val (.int p4), .val (.int f), .val (.int la), .val (.int mo), .val (.int c7), .val (.ref b1), .unset] [(.int (1 : Int32))]))
      refine own_st (fun t k => XS.goto X8.here hx rfl (pc0 := 104) (pc' := 108) rfl (hb hby at_104) (by decide) (by decide) k) ?_
      show own_G _ _ _ _ _ _ _ (T8.setTop (mkF m 108 #[.val (.int p1), .val (.int p2), .val (.int p3), .val (.int p4), .val (.int f), .val (.int la), .val (.int mo), .val (.int c7), .val (.ref b1), .unset] [(.int (1 : Int32))]))
      exact K _ (by rw [own_b, if_pos (Decidable.not_not.mp fun q => hc (pl.mpr q))])
  refine own_st (fun t k => XS.iload X0.here hx rfl (hb hby at_29) rfl k) ?_
  show own_G _ _ _ _ _ _ _ (s₁.setTop (mkF m 31 #[.val (.int p1), .val (.int p2), .val (.int p3), .val (.int p4), .val (.int f), .val (.int la), .val (.int mo), .unset, .unset, .unset] [(.int mo)]))
  refine own_st (fun t k => XS.iconst X0.here hx rfl (hb hby at_31) k) ?_
  show own_G _ _ _ _ _ _ _ (s₁.setTop (mkF m 32 #[.val (.int p1), .val (.int p2), .val (.int p3), .val (.int p4), .val (.int f), .val (.int la), .val (.int mo), .unset, .unset, .unset] [(.int (1 : Int32)), (.int mo)]))
  by_cases h1 : mo = (1 : Int32)
  · refine own_st (fun t k => XS.icmpNo X0.here hx rfl (hb hby at_32) rfl (teq h1).2 k) ?_
    show own_G _ _ _ _ _ _ _ (s₁.setTop (mkF m 35 #[.val (.int p1), .val (.int p2), .val (.int p3), .val (.int p4), .val (.int f), .val (.int la), .val (.int mo), .unset, .unset, .unset] []))
    refine own_st (fun t k => XS.iload X0.here hx rfl (hb hby at_35) rfl k) ?_
    show own_G _ _ _ _ _ _ _ (s₁.setTop (mkF m 37 #[.val (.int p1), .val (.int p2), .val (.int p3), .val (.int p4), .val (.int f), .val (.int la), .val (.int mo), .unset, .unset, .unset] [(.int f)]))
    refine own_st (fun t k => XS.iloadN X0.here hx rfl (hb hby at_37) rfl k) ?_
    show own_G _ _ _ _ _ _ _ (s₁.setTop (mkF m 38 #[.val (.int p1), .val (.int p2), .val (.int p3), .val (.int p4), .val (.int f), .val (.int la), .val (.int mo), .unset, .unset, .unset] [(.int p3), (.int f)]))
    refine own_st (fun t k => XS.iconst X0.here hx rfl (hb hby at_38) k) ?_
    show own_G _ _ _ _ _ _ _ (s₁.setTop (mkF m 39 #[.val (.int p1), .val (.int p2), .val (.int p3), .val (.int p4), .val (.int f), .val (.int la), .val (.int mo), .unset, .unset, .unset] [(.int (3 : Int32)), (.int p3), (.int f)]))
    refine own_st (fun t k => XS.iand X0.here hx rfl (hb hby at_39) rfl k) ?_
    show own_G _ _ _ _ _ _ _ (s₁.setTop (mkF m 40 #[.val (.int p1), .val (.int p2), .val (.int p3), .val (.int p4), .val (.int f), .val (.int la), .val (.int mo), .unset, .unset, .unset] [(.int (p3 &&& (3 : Int32))), (.int f)]))
    refine own_st (fun t k => XS.iconst X0.here hx rfl (hb hby at_40) k) ?_
    show own_G _ _ _ _ _ _ _ (s₁.setTop (mkF m 41 #[.val (.int p1), .val (.int p2), .val (.int p3), .val (.int p4), .val (.int f), .val (.int la), .val (.int mo), .unset, .unset, .unset] [(.int (2 : Int32)), (.int (p3 &&& (3 : Int32))), (.int f)]))
    refine own_st (fun t k => XS.isub X0.here hx rfl (hb hby at_41) rfl k) ?_
    show own_G _ _ _ _ _ _ _ (s₁.setTop (mkF m 42 #[.val (.int p1), .val (.int p2), .val (.int p3), .val (.int p4), .val (.int f), .val (.int la), .val (.int mo), .unset, .unset, .unset] [(.int ((p3 &&& (3 : Int32)) - (2 : Int32))), (.int f)]))
    refine own_st (fun t k => XS.iadd X0.here hx rfl (hb hby at_42) rfl k) ?_
    show own_G _ _ _ _ _ _ _ (s₁.setTop (mkF m 43 #[.val (.int p1), .val (.int p2), .val (.int p3), .val (.int p4), .val (.int f), .val (.int la), .val (.int mo), .unset, .unset, .unset] [(.int (f + ((p3 &&& (3 : Int32)) - (2 : Int32))))]))
    refine own_st (fun t k => XS.istore X0.here hx rfl (hb hby at_43) rfl (l' := #[.val (.int p1), .val (.int p2), .val (.int p3), .val (.int p4), .val (.int f), .val (.int la), .val (.int mo), .val (.int (f + ((p3 &&& (3 : Int32)) - (2 : Int32)))), .unset, .unset]) rfl k) ?_
    show own_G _ _ _ _ _ _ _ (s₁.setTop (mkF m 45 #[.val (.int p1), .val (.int p2), .val (.int p3), .val (.int p4), .val (.int f), .val (.int la), .val (.int mo), .val (.int (f + ((p3 &&& (3 : Int32)) - (2 : Int32)))), .unset, .unset] []))
    refine own_st (fun t k => XS.goto X0.here hx rfl (pc0 := 45) (pc' := 70) rfl (hb hby at_45) (by decide) (by decide) k) ?_
    show own_G _ _ _ _ _ _ _ (s₁.setTop (mkF m 70 #[.val (.int p1), .val (.int p2), .val (.int p3), .val (.int p4), .val (.int f), .val (.int la), .val (.int mo), .val (.int (f + ((p3 &&& (3 : Int32)) - (2 : Int32)))), .unset, .unset] []))
    exact J _
  · refine own_st (fun t k => XS.icmpYes X0.here hx rfl (pc0 := 32) (pc' := 48) rfl (hb hby at_32) rfl (feq h1).2 (by decide) (by decide) k) ?_
    show own_G _ _ _ _ _ _ _ (s₁.setTop (mkF m 48 #[.val (.int p1), .val (.int p2), .val (.int p3), .val (.int p4), .val (.int f), .val (.int la), .val (.int mo), .unset, .unset, .unset] []))
    refine own_st (fun t k => XS.iload X0.here hx rfl (hb hby at_48) rfl k) ?_
    show own_G _ _ _ _ _ _ _ (s₁.setTop (mkF m 50 #[.val (.int p1), .val (.int p2), .val (.int p3), .val (.int p4), .val (.int f), .val (.int la), .val (.int mo), .unset, .unset, .unset] [(.int mo)]))
    refine own_st (fun t k => XS.iconst X0.here hx rfl (hb hby at_50) k) ?_
    show own_G _ _ _ _ _ _ _ (s₁.setTop (mkF m 51 #[.val (.int p1), .val (.int p2), .val (.int p3), .val (.int p4), .val (.int f), .val (.int la), .val (.int mo), .unset, .unset, .unset] [(.int (2 : Int32)), (.int mo)]))
    by_cases h2 : mo = (2 : Int32)
    · refine own_st (fun t k => XS.icmpNo X0.here hx rfl (hb hby at_51) rfl (teq h2).2 k) ?_
      show own_G _ _ _ _ _ _ _ (s₁.setTop (mkF m 54 #[.val (.int p1), .val (.int p2), .val (.int p3), .val (.int p4), .val (.int f), .val (.int la), .val (.int mo), .unset, .unset, .unset] []))
      refine own_st (fun t k => XS.iload X0.here hx rfl (hb hby at_54) rfl k) ?_
      show own_G _ _ _ _ _ _ _ (s₁.setTop (mkF m 56 #[.val (.int p1), .val (.int p2), .val (.int p3), .val (.int p4), .val (.int f), .val (.int la), .val (.int mo), .unset, .unset, .unset] [(.int la)]))
      refine own_st (fun t k => XS.iloadN X0.here hx rfl (hb hby at_56) rfl k) ?_
      show own_G _ _ _ _ _ _ _ (s₁.setTop (mkF m 57 #[.val (.int p1), .val (.int p2), .val (.int p3), .val (.int p4), .val (.int f), .val (.int la), .val (.int mo), .unset, .unset, .unset] [(.int p3), (.int la)]))
      refine own_st (fun t k => XS.iconst X0.here hx rfl (hb hby at_57) k) ?_
      show own_G _ _ _ _ _ _ _ (s₁.setTop (mkF m 58 #[.val (.int p1), .val (.int p2), .val (.int p3), .val (.int p4), .val (.int f), .val (.int la), .val (.int mo), .unset, .unset, .unset] [(.int (3 : Int32)), (.int p3), (.int la)]))
      refine own_st (fun t k => XS.iand X0.here hx rfl (hb hby at_58) rfl k) ?_
      show own_G _ _ _ _ _ _ _ (s₁.setTop (mkF m 59 #[.val (.int p1), .val (.int p2), .val (.int p3), .val (.int p4), .val (.int f), .val (.int la), .val (.int mo), .unset, .unset, .unset] [(.int (p3 &&& (3 : Int32))), (.int la)]))
      refine own_st (fun t k => XS.iconst X0.here hx rfl (hb hby at_59) k) ?_
      show own_G _ _ _ _ _ _ _ (s₁.setTop (mkF m 60 #[.val (.int p1), .val (.int p2), .val (.int p3), .val (.int p4), .val (.int f), .val (.int la), .val (.int mo), .unset, .unset, .unset] [(.int (1 : Int32)), (.int (p3 &&& (3 : Int32))), (.int la)]))
      refine own_st (fun t k => XS.isub X0.here hx rfl (hb hby at_60) rfl k) ?_
      show own_G _ _ _ _ _ _ _ (s₁.setTop (mkF m 61 #[.val (.int p1), .val (.int p2), .val (.int p3), .val (.int p4), .val (.int f), .val (.int la), .val (.int mo), .unset, .unset, .unset] [(.int ((p3 &&& (3 : Int32)) - (1 : Int32))), (.int la)]))
      refine own_st (fun t k => XS.iadd X0.here hx rfl (hb hby at_61) rfl k) ?_
      show own_G _ _ _ _ _ _ _ (s₁.setTop (mkF m 62 #[.val (.int p1), .val (.int p2), .val (.int p3), .val (.int p4), .val (.int f), .val (.int la), .val (.int mo), .unset, .unset, .unset] [(.int (la + ((p3 &&& (3 : Int32)) - (1 : Int32))))]))
      refine own_st (fun t k => XS.istore X0.here hx rfl (hb hby at_62) rfl (l' := #[.val (.int p1), .val (.int p2), .val (.int p3), .val (.int p4), .val (.int f), .val (.int la), .val (.int mo), .val (.int (la + ((p3 &&& (3 : Int32)) - (1 : Int32)))), .unset, .unset]) rfl k) ?_
      show own_G _ _ _ _ _ _ _ (s₁.setTop (mkF m 64 #[.val (.int p1), .val (.int p2), .val (.int p3), .val (.int p4), .val (.int f), .val (.int la), .val (.int mo), .val (.int (la + ((p3 &&& (3 : Int32)) - (1 : Int32)))), .unset, .unset] []))
      refine own_st (fun t k => XS.goto X0.here hx rfl (pc0 := 64) (pc' := 70) rfl (hb hby at_64) (by decide) (by decide) k) ?_
      show own_G _ _ _ _ _ _ _ (s₁.setTop (mkF m 70 #[.val (.int p1), .val (.int p2), .val (.int p3), .val (.int p4), .val (.int f), .val (.int la), .val (.int mo), .val (.int (la + ((p3 &&& (3 : Int32)) - (1 : Int32)))), .unset, .unset] []))
      exact J _
    · refine own_st (fun t k => XS.icmpYes X0.here hx rfl (pc0 := 51) (pc' := 67) rfl (hb hby at_51) rfl (feq h2).2 (by decide) (by decide) k) ?_
      show own_G _ _ _ _ _ _ _ (s₁.setTop (mkF m 67 #[.val (.int p1), .val (.int p2), .val (.int p3), .val (.int p4), .val (.int f), .val (.int la), .val (.int mo), .unset, .unset, .unset] []))
      refine own_st (fun t k => XS.iloadN X0.here hx rfl (hb hby at_67) rfl k) ?_
      show own_G _ _ _ _ _ _ _ (s₁.setTop (mkF m 68 #[.val (.int p1), .val (.int p2), .val (.int p3), .val (.int p4), .val (.int f), .val (.int la), .val (.int mo), .unset, .unset, .unset] [(.int p3)]))
      refine own_st (fun t k => XS.istore X0.here hx rfl (hb hby at_68) rfl (l' := #[.val (.int p1), .val (.int p2), .val (.int p3), .val (.int p4), .val (.int f), .val (.int la), .val (.int mo), .val (.int p3), .unset, .unset]) rfl k) ?_
      show own_G _ _ _ _ _ _ _ (s₁.setTop (mkF m 70 #[.val (.int p1), .val (.int p2), .val (.int p3), .val (.int p4), .val (.int f), .val (.int la), .val (.int mo), .val (.int p3), .unset, .unset] []))
      exact J _
set_option maxRecDepth 65536 in
set_option maxHeartbeats 40000000 in
theorem own_comes {Post : Tables → Env → Array Value → State → Outcome → State → Prop} (hpost : ∀ tb e args s v u, (limb_1_1.after args s (.returned v) u = true ∧ limb_1_2.after args s (.returned v) u = true ∧ True) → FrameEnd s (.returned v) u (Jvm.fieldLocs frame_1_writes args s ++ Jvm.arrayLocs frame_1_arrays args s ++ Jvm.staticLocs frame_1_statics s) 16 128 → Post tb e args s (.returned v) u) :
    ArmFor flags0 classFile x code maxLocals ret World_1 tables_1 room_1 Calls_1 rest_1 Pre_1 Post := by
  intro l hfl _ _ p e ha hc hk s m args below hf hA hF happ hP
  obtain ⟨hcalls, hrest, hpre⟩ := hP
  obtain ⟨-, -, -, hnamed, -, -, -, hat⟩ := (Spec.applies_iff hf).mp happ
  obtain ⟨hg, hn⟩ := and_e (Cond.before_iff.mp (show (Jvm.Cond.and given_1 narrow_1).before args s = true from hpre))
  obtain ⟨gc, ga0⟩ := and_e hg
  obtain ⟨gi0, ga1⟩ := and_e ga0
  obtain ⟨gi1, ga2⟩ := and_e ga1
  obtain ⟨gi2, ga3⟩ := and_e ga2
  obtain ⟨w0, w1, w2, w3, rfl⟩ : ∃ w0 w1 w2 w3 : Value, args = #[w0, w1, w2, w3] := by
    have hs : args.size = 4 := by simpa [Cond.value, given_1] using gc
    obtain ⟨L⟩ := args
    match L, hs with
    | [w0, w1, w2, w3], _ => exact ⟨w0, w1, w2, w3, rfl⟩
  have hw := fun d (hd : d ∈ tables_1) => atoms_spec (ws := Jvm.Cond.code x code maxLocals ret :: tables_1) hat d (List.mem_cons_of_mem _ hd)
  have hfit : Fit s := fun {y c} hc i hi => by
    obtain ⟨ha, rfl⟩ := Array.getElem?_eq_some_iff.mp hc
    have q := List.all_eq_true.mp ((Array.all_eq_true_iff_forall_mem.mp hF) _ (Array.getElem_mem ha)) i (List.mem_range.mpr hi)
    simpa [Array.getElem?_eq_getElem hi] using q
  obtain ⟨i0, ei0⟩ := is_v gi0
  obtain rfl : w0 = (.int i0) := Option.some.inj ei0
  obtain ⟨i1, ei1⟩ := is_v gi1
  obtain rfl : w1 = (.int i1) := Option.some.inj ei1
  obtain ⟨i2, ei2⟩ := is_v gi2
  obtain rfl : w2 = (.int i2) := Option.some.inj ei2
  obtain ⟨i3, ei3⟩ := is_v ga3
  obtain rfl : w3 = (.int i3) := Option.some.inj ei3
  obtain ⟨n, o, h1, h2, h3, _, L, rfl, ⟨rfl, N⟩, hq⟩ := own_rm0 l s _ hw tables_1 i0 i1 i2 i3 s.heap s.heap.size (Nat.le_refl _)  p e ha hc hk s m _ below hf ((Spec.applies_iff_loose hf).mp happ).1 ⟨rfl, State.Warmed39.refl s, rfl⟩ trivial
  refine ⟨n, _, h1, h2, h3, hpost _ _ _ _ _ _ ⟨Cond.after_iff.mpr rfl, Cond.after_iff.mpr (eq_i res_at (Term.int_eval (1)) rfl), trivial⟩ ⟨hq.1, hq.2.1, (hq.2.2.sift fun y hy => Or.inr (N y hy)).mono (by decide) (by decide)⟩⟩
theorem main_1_1 : Claimed_1_1 := own_comes fun _ _ _ _ _ _ h hF => ⟨h.1, hF⟩
theorem main_1_2 : Claimed_1_2 := own_comes fun _ _ _ _ _ _ h hF => ⟨h.2.1, hF⟩
end Jvm.Pilot.@@N@@
namespace Jvm.Pilot.@@N@@
open Jvm Jvm.ClassFile Sem Op Lib Jvm.Free Jvm.Stand Jvm.Pilot.@@N@@.Jvm.D
/-! MADE BY PROGRAM (witnessworld.py) out of the Statement's table words and the real class files: 10 classes; the members and pool entries that the words name. The judged class is class 1, her method 1. -/
namespace start1
open Jvm.ClassFile
def u (s : String) : CpInfo := .utf8 (stringToUtf16 s)
/-- a pool by its gaps: so many unusable entries, then the entry; so many at the end -/
def gap : Nat → List CpInfo → List CpInfo
  | 0, r => r
  | n + 1, r => .unusable :: gap n r
def poolList (es : List (Nat × CpInfo)) (last : Nat) : List CpInfo := es.foldr (fun e r => gap e.1 (e.2 :: r)) (gap last [])
def pool (es : List (Nat × CpInfo)) (last : Nat) : Array CpInfo := ⟨poolList es last⟩
def fileOf (pool : Array CpInfo) (this : Nat) (attrs : Array Attribute := #[]) (ms : Array MethodInfo := #[]) (fl : Nat := 33) (sup : Nat := 0) (ifs : Array Nat := #[]) (fds : Array FieldInfo := #[]) : ClassFile where
  minorVersion := 0
  majorVersion := 65
  constantPool := pool
  accessFlags := fl
  thisClass := this
  superClass := sup
  interfaces := ifs
  fields := fds
  methods := ms
  attributes := attrs
def plain (name : String) (sup : Option ClassId) : Class where
  name := name
  kind := .ordinary
  loader := none
  accessFlags := 33
  super := sup
  interfaces := #[]
  cf := none
  fields := #[]
  methods := #[]
  instanceTypes := #[]
  staticTypes := #[]
  resolved := #[]
  callSites := []
  init := .initialized
  statics := none
  mirror := none

def pool0 : Array CpInfo := pool [(5, u "<init>"), (0, u "()V"), (1, .class_ 10), (1, u "java/lang/Object")] 113

def k0c0 : Code := { maxStack := 0, maxLocals := 1, code := object_method_1_code, exceptionTable := #[], attributes := #[] }
def k0m0 : Method := { name := "<init>", desc := "()V", sig := { parameters := [], returnType := none }, accessFlags := 1, code := some k0c0 }
/-- java/lang/Object -/
def k0 : Class := { plain "java/lang/Object" none with
  accessFlags := 33
  interfaces := #[]
  cf := some (fileOf pool0 8 #[] #[{ accessFlags := 1, nameIndex := 5, descriptorIndex := 6, attributes := #[] }] 33 0 #[] #[])
  fields := #[]
  methods := #[k0m0]
  instanceTypes := #[]
  staticTypes := #[]
  resolved := Array.replicate 124 none
  statics := none }

def pool1 : Array CpInfo := pool [(2, .class_ 4), (1, u "java/lang/Object"), (0, u "<init>"), (0, u "()V"), (0, .integer 2147483647), (0, .integer 1114112), (0, .class_ 10), (0, u "stowage/engine/CodePointRange"), (0, .methodref 9 12), (0, .nameAndType 5 13), (0, u "(II)V"), (0, .methodref 9 15), (0, .nameAndType 16 17), (0, u "holds"), (0, u "(I)Z"), (0, .class_ 19), (0, u "stowage/engine/CodePointRangeHoldsPinLaw"), (2, u "law"), (0, u "(IIII)Z")] 3

def k1m0 : Method := { name := "<init>", desc := "()V", sig := { parameters := [], returnType := none }, accessFlags := 1, code := none }
def k1c1 : Code := { maxStack := 6, maxLocals := 10, code := code, exceptionTable := #[], attributes := #[] }
def k1m1 : Method := { name := "law", desc := "(IIII)Z", sig := { parameters := [.int, .int, .int, .int], returnType := some .boolean }, accessFlags := 9, code := some k1c1 }
/-- stowage/engine/CodePointRangeHoldsPinLaw -/
def k1 : Class := { plain "stowage/engine/CodePointRangeHoldsPinLaw" (some 0) with
  accessFlags := 49
  interfaces := #[]
  cf := some (fileOf pool1 18 #[] #[{ accessFlags := 1, nameIndex := 5, descriptorIndex := 6, attributes := #[] }, { accessFlags := 9, nameIndex := 22, descriptorIndex := 23, attributes := #[] }] 49 2 #[] #[])
  fields := #[]
  methods := #[k1m0, k1m1]
  instanceTypes := #[]
  staticTypes := #[]
  resolved := Array.replicate 27 none
  statics := none }

def pool2 : Array CpInfo := pool [(1, .methodref 2 3), (0, .class_ 4), (0, .nameAndType 5 6), (0, u "java/lang/Object"), (0, u "<init>"), (0, u "()V"), (0, .class_ 8), (0, u "java/lang/Record")] 13

def k2c0 : Code := { maxStack := 1, maxLocals := 1, code := jdk_30_method_1_code, exceptionTable := #[], attributes := #[] }
def k2m0 : Method := { name := "<init>", desc := "()V", sig := { parameters := [], returnType := none }, accessFlags := 4, code := some k2c0 }
/-- java/lang/Record -/
def k2 : Class := { plain "java/lang/Record" (some 0) with
  accessFlags := 1057
  interfaces := #[]
  cf := some (fileOf pool2 7 #[] #[{ accessFlags := 4, nameIndex := 5, descriptorIndex := 6, attributes := #[] }] 1057 2 #[] #[])
  fields := #[]
  methods := #[k2m0]
  instanceTypes := #[]
  staticTypes := #[]
  resolved := Array.replicate 22 none
  statics := none }

def pool3 : Array CpInfo := pool [(1, .methodref 2 3), (0, .class_ 4), (0, .nameAndType 5 6), (0, u "java/lang/Record"), (0, u "<init>"), (0, u "()V"), (2, .integer 1114111), (9, .fieldref 20 21), (0, .class_ 22), (0, .nameAndType 23 24), (0, u "stowage/engine/CodePointRange"), (0, u "first"), (0, u "I"), (0, .fieldref 20 26), (0, .nameAndType 27 24), (0, u "last"), (12, u "(II)V"), (4, u "holds"), (0, u "(I)Z")] 32

def k3c0 : Code := { maxStack := 4, maxLocals := 3, code := prog_18_method_1_code, exceptionTable := #[], attributes := #[] }
def k3m0 : Method := { name := "<init>", desc := "(II)V", sig := { parameters := [.int, .int], returnType := none }, accessFlags := 1, code := some k3c0 }
def k3c1 : Code := { maxStack := 2, maxLocals := 2, code := prog_18_method_2_code, exceptionTable := #[], attributes := #[] }
def k3m1 : Method := { name := "holds", desc := "(I)Z", sig := { parameters := [.int], returnType := some .boolean }, accessFlags := 1, code := some k3c1 }
/-- stowage/engine/CodePointRange -/
def k3 : Class := { plain "stowage/engine/CodePointRange" (some 2) with
  accessFlags := 49
  interfaces := #[]
  cf := some (fileOf pool3 20 #[] #[{ accessFlags := 1, nameIndex := 5, descriptorIndex := 40, attributes := #[] }, { accessFlags := 1, nameIndex := 45, descriptorIndex := 46, attributes := #[] }] 49 2 #[] #[{ accessFlags := 18, nameIndex := 23, descriptorIndex := 24, attributes := #[] }, { accessFlags := 18, nameIndex := 27, descriptorIndex := 24, attributes := #[] }])
  fields := #[{ name := "first", type := .int, accessFlags := 18, slot := 0, constantValue := 0 }, { name := "last", type := .int, accessFlags := 18, slot := 1, constantValue := 0 }]
  methods := #[k3m0, k3m1]
  instanceTypes := #[.int, .int]
  staticTypes := #[]
  resolved := Array.replicate 79 none
  statics := none }

def pool4 : Array CpInfo := pool [(1, u "java/lang/Cloneable"), (0, .class_ 1), (0, u "java/lang/Object"), (0, .class_ 3)] 3

/-- java/lang/Cloneable -/
def k4 : Class := { plain "java/lang/Cloneable" (some 0) with
  accessFlags := 1537
  interfaces := #[]
  cf := some (fileOf pool4 2 #[] #[] 1537 4 #[] #[])
  fields := #[]
  methods := #[]
  instanceTypes := #[]
  staticTypes := #[]
  resolved := Array.replicate 8 none
  statics := none }

def pool5 : Array CpInfo := pool [(1, u "java/io/Serializable"), (0, .class_ 1), (0, u "java/lang/Object"), (0, .class_ 3)] 3

/-- java/io/Serializable -/
def k5 : Class := { plain "java/io/Serializable" (some 0) with
  accessFlags := 1537
  interfaces := #[]
  cf := some (fileOf pool5 2 #[] #[] 1537 4 #[] #[])
  fields := #[]
  methods := #[]
  instanceTypes := #[]
  staticTypes := #[]
  resolved := Array.replicate 8 none
  statics := none }

/-- the primitive byte -/
def k6 : Class := { plain "byte" none with kind := .primitive 'B', accessFlags := 0x411 }
/-- [B -/
def k7 : Class := { plain "[B" (some 0) with kind := .array 6 .byte, interfaces := #[4, 5], accessFlags := 1041 }

/-- the primitive int -/
def k8 : Class := { plain "int" none with kind := .primitive 'I', accessFlags := 0x411 }
/-- [I -/
def k9 : Class := { plain "[I" (some 0) with kind := .array 8 .int, interfaces := #[4, 5], accessFlags := 1041 }

def heap : Heap := #[]
def classes : Array Class := #[k0, k1, k2, k3, k4, k5, k6, k7, k8, k9]
def interned : List (Array UInt16 × Addr) := []
def slotsUsed : Nat := 0
def theMethod : MethodId := ⟨1, 1⟩
def args0 : Array Value := #[.int 5, .int 7, .int 3, .int 1]
def aboutOver (below : List Frame) : State where
  vm := { classes := classes, interned := interned.toArray }
  heap := heap
  slotsUsed := slotsUsed
  threads := #[{ frames := .invoking theMethod args0 :: below }]
def below0 : List Frame := [.native { method := ⟨0, 0⟩, args := #[] }]
def about1 : State := aboutOver below0
def p0 : Program := .bare "" "" ""
def e0 : Env := launch0.env 0 0 0
theorem w_frames : about1.frames = Frame.invoking theMethod args0 :: below0 := rfl
set_option maxRecDepth 65536 in
theorem w_args : argsFit about1.vm theMethod args0 = true := by decide +kernel
set_option maxRecDepth 65536 in
theorem w_heap : heapFits about1 = true := by decide +kernel
set_option maxRecDepth 65536 in
theorem w_runnable : about1.curStatus? = some .runnable := by decide +kernel
set_option maxRecDepth 65536 in
theorem w_alone : about1.alone = true := by decide +kernel
set_option maxRecDepth 65536 in
theorem w_named : about1.methodNamed? x = some theMethod := by decide +kernel
set_option maxRecDepth 65536 in
theorem w_hears : about1.hears theMethod below0 = true := by decide +kernel
set_option maxRecDepth 65536 in
theorem w_ripe : about1.ripe theMethod args0 below0 = true := by decide +kernel
theorem w_running : about1.status = .running := rfl
set_option maxRecDepth 65536 in
theorem w_room : about1.hasRoom e0.platform room_1 = true :=
  launch0.hasRoom_least _ room_1 (by decide +kernel) (by decide +kernel) (by decide +kernel) (by decide +kernel) (by decide +kernel) (by decide +kernel)
theorem allAtoms_all (ts : List Jvm.Cond) (a : Array Jvm.Value) (st : Jvm.State) : (allAtoms ts).before a st = ts.all (fun c => c.before a st) := by
  induction ts with
  | nil => rfl
  | cons c t ih =>
    show (Jvm.Cond.and c (allAtoms t)).before a st = _
    rw [Jvm.Cond.before_and, ih, List.all_cons]
def words1 : List Jvm.Cond := Jvm.Cond.code x code maxLocals ret :: tables_1
/-- a 'code' word, met by the world's own term for the bytes: nothing is compared byte by byte -/
theorem code_word {y : MethodName} {bytes : ByteArray} {mx : Nat} {rt : Option FieldType} {a : Array Value} {s : State} {m : MethodId} {meth : Method} {c : Code} (h1 : s.methodNamed? y = some m) (h2 : s.vm.method? m = some meth) (h3 : meth.code = some c) (h4 : c.code = bytes)
    (h5 : (c.maxLocals == mx && c.exceptionTable.isEmpty && decide (c.maxStack ≤ mostOperands) && decide (meth.sig.returnType = rt) && !meth.locks && decide (parseMethodDescriptor y.desc = some meth.sig)) = true) : (Jvm.Cond.code y bytes mx rt).before a s = true := by
  simp only [Bool.and_eq_true, beq_iff_eq, Bool.not_eq_true', decide_eq_true_eq] at h5
  obtain ⟨⟨⟨⟨⟨g1, g2⟩, g3⟩, g4⟩, g5⟩, g6⟩ := h5
  simp [Cond.before, Cond.holds, Cond.value, h1, h2, h3, h4, g1, g2, g3, g4, g5, g6]
def isCode : Jvm.Cond → Bool
  | .code _ _ _ _ => true
  | _ => false
theorem all_split {L : List Jvm.Cond} {P : Jvm.Cond → Bool} (h1 : L.all (fun c => isCode c || P c) = true) (h2 : ∀ c ∈ L.filter isCode, P c = true) : L.all P = true := by
  refine List.all_eq_true.mpr fun c hc => ?_
  have h := List.all_eq_true.mp h1 c hc
  rcases Bool.eq_false_or_eq_true (isCode c) with hi | hi
  · exact h2 c (List.mem_filter.mpr ⟨hc, hi⟩)
  · simpa [hi] using h
set_option maxRecDepth 65536 in
theorem w_c0 : (Jvm.Cond.code x code maxLocals ret).before args0 about1 = true := code_word (m := ⟨1, 1⟩) (meth := k1m1) (c := k1c1) (by decide +kernel) rfl rfl rfl (by decide +kernel)
set_option maxRecDepth 65536 in
theorem w_c1 : (Jvm.Cond.code ({ cls := "stowage/engine/CodePointRange", name := "<init>", desc := "(II)V" } : Jvm.MethodName) prog_18_method_1_code (3 : Nat) (Option.none : Option Jvm.ClassFile.FieldType)).before args0 about1 = true := code_word (m := ⟨3, 0⟩) (meth := k3m0) (c := k3c0) (by decide +kernel) rfl rfl rfl (by decide +kernel)
set_option maxRecDepth 65536 in
theorem w_c2 : (Jvm.Cond.code ({ cls := "java/lang/Record", name := "<init>", desc := "()V" } : Jvm.MethodName) jdk_30_method_1_code (1 : Nat) (Option.none : Option Jvm.ClassFile.FieldType)).before args0 about1 = true := code_word (m := ⟨2, 0⟩) (meth := k2m0) (c := k2c0) (by decide +kernel) rfl rfl rfl (by decide +kernel)
set_option maxRecDepth 65536 in
theorem w_c3 : (Jvm.Cond.code ({ cls := "java/lang/Object", name := "<init>", desc := "()V" } : Jvm.MethodName) object_method_1_code (1 : Nat) (Option.none : Option Jvm.ClassFile.FieldType)).before args0 about1 = true := code_word (m := ⟨0, 0⟩) (meth := k0m0) (c := k0c0) (by decide +kernel) rfl rfl rfl (by decide +kernel)
set_option maxRecDepth 65536 in
theorem w_c4 : (Jvm.Cond.code ({ cls := "stowage/engine/CodePointRange", name := "holds", desc := "(I)Z" } : Jvm.MethodName) prog_18_method_2_code (2 : Nat) (Option.some Jvm.ClassFile.FieldType.boolean)).before args0 about1 = true := code_word (m := ⟨3, 1⟩) (meth := k3m1) (c := k3c1) (by decide +kernel) rfl rfl rfl (by decide +kernel)
def codes1 : List Jvm.Cond := [Jvm.Cond.code x code maxLocals ret, Jvm.Cond.code ({ cls := "stowage/engine/CodePointRange", name := "<init>", desc := "(II)V" } : Jvm.MethodName) prog_18_method_1_code (3 : Nat) (Option.none : Option Jvm.ClassFile.FieldType), Jvm.Cond.code ({ cls := "java/lang/Record", name := "<init>", desc := "()V" } : Jvm.MethodName) jdk_30_method_1_code (1 : Nat) (Option.none : Option Jvm.ClassFile.FieldType), Jvm.Cond.code ({ cls := "java/lang/Object", name := "<init>", desc := "()V" } : Jvm.MethodName) object_method_1_code (1 : Nat) (Option.none : Option Jvm.ClassFile.FieldType), Jvm.Cond.code ({ cls := "stowage/engine/CodePointRange", name := "holds", desc := "(I)Z" } : Jvm.MethodName) prog_18_method_2_code (2 : Nat) (Option.some Jvm.ClassFile.FieldType.boolean)]
set_option maxRecDepth 65536 in
theorem codes_eq : words1.filter isCode = codes1 := rfl
theorem w_codes : ∀ c ∈ words1.filter isCode, c.before args0 about1 = true := by
  rw [codes_eq]
  intro c hc
  simp only [codes1, List.mem_cons, List.not_mem_nil, or_false] at hc
  rcases hc with rfl | rfl | rfl | rfl | rfl
  · exact w_c0
  · exact w_c1
  · exact w_c2
  · exact w_c3
  · exact w_c4
set_option maxRecDepth 65536 in
theorem w_t1 : (words1.take 24).all (fun c => isCode c || c.before args0 about1) = true := by decide +kernel
set_option maxRecDepth 65536 in
theorem w_t2 : (words1.drop 24).all (fun c => isCode c || c.before args0 about1) = true := by decide +kernel
theorem w_tables : (allAtoms (Jvm.Cond.code x code maxLocals ret :: tables_1)).before args0 about1 = true := by
  rw [allAtoms_all]
  show words1.all (fun c => c.before args0 about1) = true
  refine all_split ?_ w_codes
  rw [← List.take_append_drop 24 words1, List.all_append, w_t1, w_t2]
  rfl
set_option maxRecDepth 65536 in
theorem w_case : (Jvm.Cond.and given_1 narrow_1).before args0 about1 = true := by decide +kernel
theorem w_applies : (headSpec (Jvm.Cond.code x code maxLocals ret :: tables_1) room_1).applies x e0.platform about1 = true :=
  (Spec.applies_iff w_frames).mpr ⟨w_running, w_runnable, w_alone, w_named, w_hears, w_ripe, w_room, w_tables⟩
theorem atStart : AtStart classFile x code maxLocals ret World_1 tables_1 room_1 Calls_1 rest_1 Pre_1 launch0 p0 e0 about1 theMethod args0 below0 :=
  ⟨lists_1, trivial, launch0.admits_env _ _ _, launch0.least_env, fairChoices_fair.cas, fairChoices_fair.clock, w_frames, w_args, w_heap, w_applies, trivial, trivial, w_case⟩
end start1
theorem witness_1 : WitnessClaimed_1 := ⟨start1.p0, start1.e0, start1.about1, start1.theMethod, start1.args0, start1.below0, start1.atStart⟩
end Jvm.Pilot.@@N@@
