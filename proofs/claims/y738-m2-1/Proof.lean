import JvmDerived
import JvmDerived.Pilot.@@N@@Statement
import JvmDerived.Pilot.@@N@@Code
set_option linter.unusedVariables false
set_option linter.unusedSimpArgs false
@@BLOCK:NumsL.lean.txt@@
namespace Jvm.Pilot.@@N@@
open Jvm Jvm.ClassFile Sem Op Lib Jvm.Free Jvm.Stand Jvm.LawKit Jvm.RoadKit Bundle Jvm.Pilot.@@N@@.Jvm.D
/-! the goal that a walk carries along: from this state the run comes to the method's end, and Q holds there -/
def own_G (tb : Tables) (e : Env) (below : List Frame) (s : State) (Q : Option Value → Heap → List Loc → Prop) (kc ks : Nat) (st : State) : Prop :=
  ∃ u o, Steps tb e below st u ∧ u.status = .running ∧ Ended u below o ∧ ∃ v L, o = .returned v ∧ Q v u.heap L ∧ FrameEnd s o u L kc ks
theorem own_in {tb : Tables} {e : Env} {below : List Frame} {s : State} {Q : Option Value → Heap → List Loc → Prop} {kc ks : Nat} {st : State} (h : own_G tb e below s Q kc ks st) :
    ∃ u o, Steps tb e below st u ∧ u.status = .running ∧ Ended u below o ∧ ∃ v L, o = .returned v ∧ Q v u.heap L ∧ FrameEnd s o u L kc ks := h
theorem own_st {tb : Tables} {e : Env} {below : List Frame} {s : State} {Q : Option Value → Heap → List Loc → Prop} {kc ks : Nat} {a b : State} (k : ∀ t, Steps tb e below b t → Steps tb e below a t) (h : own_G tb e below s Q kc ks b) : own_G tb e below s Q kc ks a := by
  obtain ⟨u, o, h1, h2⟩ := h; exact ⟨u, o, k u h1, h2⟩
section OwnRet
variable {p : Program} {l : Launch} {e : Env} {R : Room} {s : State} {m : MethodId} {args : Array Value} {below : List Frame} {meth : Method} {c : Code} {T : State} {locs : List Loc} {cells slots : Nat} {Q : Option Value → Heap → List Loc → Prop} {kc ks : Nat} {pc : Nat} {Ls : Array Slot} {rest : List Value}
theorem own_ret (X : Stand p l e R s m args below meth c T locs cells slots) {v : Option Value} (hv : meth.sig.returnType = none → v = none) (hlk : meth.locks = false) (hc : cells ≤ kc) (hs : slots ≤ ks) (hQ : Q v T.heap locs) {st : State}
    (step : ∀ fs, (∀ (f : JFrame) (acts : List Action), f.method = m → f.locked = none → f.entered = [] → (doReturn e (T.setTop f) acts v).1 = T.setFrames fs) → Steps p.tables e below st (T.setFrames fs)) : own_G p.tables e below s Q kc ks st := by
  obtain ⟨fs, hr, hrun, hended, hW, hsame⟩ := X.leave (v := v) hv hlk
  exact ⟨_, _, step fs hr, hrun, hended, _, _, rfl, hQ, ⟨_, rfl⟩, hW, hsame.mono hc hs⟩
theorem own_retV (X : Stand p l e R s m args below meth c T locs cells slots) (hx : p.tables.exec = Jvm.exec) (hret : meth.sig.returnType = none) (hlk : meth.locks = false) (hd : decode c.code pc = .ok (.return_, 1)) (hc : cells ≤ kc) (hs : slots ≤ ks) (hQ : Q none T.heap locs) : own_G p.tables e below s Q kc ks (T.setTop (mkF m pc Ls [])) :=
  own_ret X (v := none) (fun _ => rfl) hlk hc hs hQ fun _ hr => X.returnOut hx hret hd hr
theorem own_retI {z : Int32} (X : Stand p l e R s m args below meth c T locs cells slots) (hx : p.tables.exec = Jvm.exec) (hret : meth.sig.returnType = some .int) (hlk : meth.locks = false) (hd : decode c.code pc = .ok (.ireturn, 1)) (hc : cells ≤ kc) (hs : slots ≤ ks) (hQ : Q (some (.int z)) T.heap locs) : own_G p.tables e below s Q kc ks (T.setTop (mkF m pc Ls (.int z :: rest))) :=
  own_ret X (v := some (.int z)) (fun h => by rw [hret] at h; cases h) hlk hc hs hQ fun _ hr => retOut X hx hret rfl (Or.inl ⟨rfl, Or.inl rfl, z, rfl⟩) hd hr
theorem own_retJ {z : Int64} (X : Stand p l e R s m args below meth c T locs cells slots) (hx : p.tables.exec = Jvm.exec) (hret : meth.sig.returnType = some .long) (hlk : meth.locks = false) (hd : decode c.code pc = .ok (.lreturn, 1)) (hc : cells ≤ kc) (hs : slots ≤ ks) (hQ : Q (some (.long z)) T.heap locs) : own_G p.tables e below s Q kc ks (T.setTop (mkF m pc Ls (.long z :: rest))) :=
  own_ret X (v := some (.long z)) (fun h => by rw [hret] at h; cases h) hlk hc hs hQ fun _ hr => retOut X hx hret rfl (Or.inr (Or.inl ⟨rfl, rfl, z, rfl⟩)) hd hr
theorem own_retA {ft : FieldType} {w : Value} (ht : ft.isReference = true) (hw : w.isRef = true) (X : Stand p l e R s m args below meth c T locs cells slots) (hx : p.tables.exec = Jvm.exec) (hret : meth.sig.returnType = some ft) (hlk : meth.locks = false) (hd : decode c.code pc = .ok (.areturn, 1)) (hc : cells ≤ kc) (hs : slots ≤ ks) (hQ : Q (some w) T.heap locs) : own_G p.tables e below s Q kc ks (T.setTop (mkF m pc Ls (w :: rest))) :=
  own_ret X (v := some w) (fun h => by rw [hret] at h; cases h) hlk hc hs hQ fun _ hr => retOut X hx hret (by cases ft <;> first | (cases ht; done) | (cases w <;> first | rfl | cases hw)) (Or.inr (Or.inr (Or.inr (Or.inr ⟨rfl, ht, hw⟩)))) hd hr
theorem own_retN {t : FieldType} {z : Int32} (ht : t = .boolean ∨ t = .byte ∨ t = .char ∨ t = .short) (X : Stand p l e R s m args below meth c T locs cells slots) (hx : p.tables.exec = Jvm.exec) (hret : meth.sig.returnType = some t) (hlk : meth.locks = false) (hd : decode c.code pc = .ok (.ireturn, 1)) (hc : cells ≤ kc) (hs : slots ≤ ks) (hQ : Q (some (.int (nar t z))) T.heap locs) : own_G p.tables e below s Q kc ks (T.setTop (mkF m pc Ls (.int z :: rest))) :=
  own_ret X (v := some (.int (nar t z))) (fun h => by rw [hret] at h; cases h) hlk hc hs hQ fun _ hr => retN X hx hret ht hd hr
end OwnRet
def own_b (P : Prop) [Decidable P] : Int32 := if P then 1 else 0
theorem own_bT {P : Prop} [Decidable P] (h : P) : some (Value.int (nar .boolean (1 : Int32))) = some (Value.int (own_b P)) := by rw [own_b, if_pos h]; rfl
theorem own_bF {P : Prop} [Decidable P] (h : ¬ P) : some (Value.int (nar .boolean (0 : Int32))) = some (Value.int (own_b P)) := by rw [own_b, if_neg h]; rfl
theorem own_bEq {P P' : Prop} [Decidable P] [Decidable P'] (h : P ↔ P') : own_b P = own_b P' := by simp only [own_b, h]
/-- a body that writes nothing: what it returns, the heap as it was -/
def own_Qp (r : Option Value) (h0 : Heap) (n0 : Nat) (v : Option Value) (h : Heap) (L : List Loc) : Prop := v = r ∧ Fr n0 L ∧ h = h0
/-- the law's own end: it returns 1, nothing old is written -/
def own_Q0 (n0 : Nat) (v : Option Value) (h : Heap) (L : List Loc) : Prop := v = some (.int 1) ∧ Fr n0 L
theorem own_ord {s : State} {args : Array Value} {t : Term} {a : Addr} {C n d : String} {k : Int32} (ev : t.eval args s none [] s = some (.ref a)) (h : (Jvm.Cond.eq (Term.field t C n d) (Term.int k)).value args s none s [] = some true) : Fld s s.heap a C n d (.int k) := by
  obtain ⟨x, y, e1, e2, -, k2⟩ := cmp_v (Or.inl h)
  obtain rfl : Value.int k = y := Option.some.inj e2
  obtain ⟨z, rfl⟩ := k2
  have q : z = k := by simpa [Jvm.Cond.value, e1, e2] using h
  subst q
  exact Fld.start ((fld_at ev).symm.trans e1)
theorem own_len {s : State} {args : Array Value} {t : Term} {a : Addr} {c : Cell} {ty : FieldType} {n : Int32} (ev : t.eval args s none [] s = some (.ref a)) (A : Arr s s.heap a c ty) (h : (Jvm.Cond.eq (Term.length t) (Term.int n)).value args s none s [] = some true) : c.slots.size < 2 ^ 31 ∧ c.slots.size.toInt32 = n := by
  have q := eqv_i (Term.int_eval n) h
  have f := A.fin (Vm.Alike.refl _)
  have z : c.slots.size < 2147483648 ∧ c.slots.size.toInt32 = n := by simpa [Term.eval, ev, f] using q
  exact z
theorem own_eqr {s : State} {args : Array Value} {X F : Term} {y : Addr} (hF : F.eval args s none [] s = some (.ref y)) (h : (Jvm.Cond.eq X F).value args s none s [] = some true) : X.eval args s none [] s = some (.ref y) := by
  obtain ⟨x, y', e1, e2, k1, k2⟩ := cmp_v (Or.inl h)
  cases hF.symm.trans e2
  have hx : x.isRef = true := k2.2
  have q := gotT (eq_R e1 hF hx rfl) h
  rw [q] at e1; exact e1
theorem own_el {s : State} {args : Array Value} {t : Term} {a : Addr} {c : Cell} {ty : FieldType} {j : Int32} {v : Value} (ev : t.eval args s none [] s = some (.ref a)) (A : Arr s s.heap a c ty) (h : (Term.elem t (Term.int j)).eval args s none [] s = some v) : c.slots[j.toNatClampNeg]? = some v := (elem_in h ev (Term.int_eval j) A.1).2
theorem own_nea {Z : State} {h : Heap} {a b : Addr} {C : String} {a0 : Array Value} {k : Nat} {kc : ClassId} {ty : FieldType} {z : Int32} {vs : List Value} {d : Value} (F : Exa Z h a C) (wi : (Jvm.Cond.instantiable C k).before a0 Z = true) (V : Arv Z h b kc ty z vs d) : a ≠ b := by
  obtain ⟨c, A, -⟩ := V; exact ne_arr F wi A
theorem own_msk (a : Int32) : 0 ≤ (a &&& 2147483647).toInt := by
  rw [Jvm.Kit.i32_mask a 2147483647 (k := 31) (by decide) (by decide)]; omega
theorem own_st3 (a : Int32) : 0 ≤ (a &&& 3).toInt ∧ (a &&& 3).toInt < 4 := by
  rw [Jvm.Kit.i32_mask a 3 (k := 2) (by decide) (by decide)]; omega
theorem own_ln8 (st l : Int32) (h : 0 ≤ st.toInt ∧ st.toInt < 4) : 4 - st ≠ 0 ∧ 1 ≤ (1 + (l &&& 2147483647) % (4 - st)).toInt ∧ (1 + (l &&& 2147483647) % (4 - st)).toInt ≤ 4 - st.toInt ∧ (4 - st).toInt = 4 - st.toInt := by
  have e : (4 : Int32).toInt = 4 := by decide
  have e5 : (1 : Int32).toInt = 1 := by decide
  have e1 : (4 - st).toInt = 4 - st.toInt := by rw [Jvm.Kit.i32_sub, e] <;> rw [e] <;> omega
  have e2 : ((l &&& 2147483647) % (4 - st)).toInt = (l &&& 2147483647).toInt % (4 - st.toInt) := by rw [Jvm.Kit.i32_rem_nonneg (own_msk l), e1]
  have q1 := Int.emod_nonneg (l &&& 2147483647).toInt (b := 4 - st.toInt) (by omega)
  have q2 := Int.emod_lt_of_pos (l &&& 2147483647).toInt (b := 4 - st.toInt) (by omega)
  have e3 : (1 + (l &&& 2147483647) % (4 - st)).toInt = 1 + (l &&& 2147483647).toInt % (4 - st.toInt) := by rw [Jvm.Kit.i32_add, e2, e5] <;> rw [e2, e5] <;> omega
  refine ⟨fun z => ?_, by omega, by omega, e1⟩
  rw [z] at e1
  have e4 : (0 : Int32).toInt = 0 := by decide
  omega
theorem own_ix (i ln : Int32) (h : 1 ≤ ln.toInt) : ln ≠ 0 ∧ 0 ≤ ((i &&& 2147483647) % ln).toInt ∧ ((i &&& 2147483647) % ln).toInt < ln.toInt := by
  have q1 := Int.emod_nonneg (i &&& 2147483647).toInt (b := ln.toInt) (by omega)
  have q2 := Int.emod_lt_of_pos (i &&& 2147483647).toInt (b := ln.toInt) (by omega)
  rw [Jvm.Kit.i32_rem_nonneg (own_msk i)]
  refine ⟨fun z => ?_, q1, q2⟩
  rw [z] at h
  have e4 : (0 : Int32).toInt = 0 := by decide
  omega
theorem own_four (p : Int32) (h : 0 ≤ p.toInt) (h2 : p.toInt < 4) : p = 0 ∨ p = 1 ∨ p = 2 ∨ p = 3 := by
  have k : ∀ n : Int32, p = n ↔ p.toInt = n.toInt := fun n => Int32.toInt_inj.symm
  simp only [k, show (0 : Int32).toInt = 0 from by decide, show (1 : Int32).toInt = 1 from by decide, show (2 : Int32).toInt = 2 from by decide, show (3 : Int32).toInt = 3 from by decide]
  omega
theorem own_rng {i : Int32} (hi : i = 0 ∨ i = 1 ∨ i = 2 ∨ i = 3) : ¬ i < 0 ∧ i < 4 := by rcases hi with rfl | rfl | rfl | rfl <;> decide
theorem own_lt0 {a : Int32} (h : 0 ≤ a.toInt) : ¬ a < 0 := by rw [Int32.lt_iff_toInt_lt, show (0 : Int32).toInt = 0 from by decide]; omega
/-- the byte at a place: that of the word shifted -/
def own_x (w pos : Int32) : Int32 := nar .byte ((w.toUInt32 >>> (((8 : Int32) * pos) &&& 31).toUInt32).toInt32.toInt8.toInt32)
theorem own_getx (w : Int32) {pos : Int32} (hi : pos = 0 ∨ pos = 1 ∨ pos = 2 ∨ pos = 3) :
    [Value.int (nar .byte (w.toInt8.toInt32)), .int (nar .byte ((w.toUInt32 >>> ((8 : Int32) &&& 31).toUInt32).toInt32.toInt8.toInt32)), .int (nar .byte ((w.toUInt32 >>> ((16 : Int32) &&& 31).toUInt32).toInt32.toInt8.toInt32)), .int (nar .byte ((w.toUInt32 >>> ((24 : Int32) &&& 31).toUInt32).toInt32.toInt8.toInt32))].getD pos.toNatClampNeg (.int 0) = .int (own_x w pos) := by
  rcases hi with rfl | rfl | rfl | rfl
  · have e : (((8 : Int32) * 0) &&& 31).toUInt32 = 0 := by decide
    have e2 : (w.toUInt32 >>> (0 : UInt32)).toInt32 = w := by simp
    unfold own_x; rw [e, e2]; rfl
  · rfl
  · rfl
  · rfl
theorem own_same (y : Int32) : nar .char ((nar .byte (y.toInt8.toInt32) &&& 255).toUInt32.toUInt16.toUInt32.toInt32) = y &&& 255 := by
  show ((nar .byte (y.toInt8.toInt32) &&& 255).toUInt32.toUInt16.toUInt32.toInt32).toUInt32.toUInt16.toUInt32.toInt32 = y &&& 255
  rw [i2c_mask, i2c_mask]
  show (y.toInt8.toInt32.toInt8.toInt32 &&& 255) = y &&& 255
  have a := c_i2b y
  have b := c_i2b (y.toInt8.toInt32)
  rw [← Int32.toInt_inj, Jvm.Kit.i32_mask _ 255 (k := 8) (by decide) (by decide), Jvm.Kit.i32_mask _ 255 (k := 8) (by decide) (by decide)]
  omega
theorem own_or (st ln : Int32) (h1 : 0 ≤ st.toInt) (h2 : 0 ≤ ln.toInt) : ¬ ((4 ||| st) ||| ln) < 0 :=
  own_lt0 ((c_orS _ _).1 ((c_orS _ _).1 (by decide) h1) h2)
theorem own_pd0 : parseMethodDescriptor "(II)I" = some ⟨[.int, .int], some .int⟩ := by decide +kernel
theorem own_pd1 : parseMethodDescriptor "(IILjava/util/function/BiFunction;)I" = some ⟨[.int, .int, (.object "java/util/function/BiFunction")], some .int⟩ := by decide +kernel
theorem own_pd2 : parseMethodDescriptor "(III)I" = some ⟨[.int, .int, .int], some .int⟩ := by decide +kernel
theorem own_pd3 : parseMethodDescriptor "(IIILjava/util/function/BiFunction;)I" = some ⟨[.int, .int, .int, (.object "java/util/function/BiFunction")], some .int⟩ := by decide +kernel
theorem own_pd4 : parseMethodDescriptor "()V" = some ⟨[], none⟩ := by decide +kernel
theorem own_pd5 : parseMethodDescriptor "([BII)Lcom/example/gridmargin/gridmargin/csv/ByteText;" = some ⟨[(.array .byte), .int, .int], some (.object "com/example/gridmargin/gridmargin/csv/ByteText")⟩ := by decide +kernel
theorem own_pd6 : parseMethodDescriptor "(I)C" = some ⟨[.int], some .char⟩ := by decide +kernel
theorem own_pn0 : plainName "jdk/internal/util/Preconditions" = true := by first | (simp [plainName, overriddenIn]; done) | decide +kernel
theorem own_d1_0 : decode jdk_41_method_11_code 0 = .ok (.iload_n 0, 1) := by decide +kernel
theorem own_d1_1 : decode jdk_41_method_11_code 1 = .ok (.ifCond .lt 8, 3) := by decide +kernel
theorem own_d1_4 : decode jdk_41_method_11_code 4 = .ok (.iload_n 0, 1) := by decide +kernel
theorem own_d1_5 : decode jdk_41_method_11_code 5 = .ok (.iload_n 1, 1) := by decide +kernel
theorem own_d1_6 : decode jdk_41_method_11_code 6 = .ok (.if_icmp .lt 10, 3) := by decide +kernel
theorem own_d1_9 : decode jdk_41_method_11_code 9 = .ok (.aload_n 2, 1) := by decide +kernel
theorem own_d1_10 : decode jdk_41_method_11_code 10 = .ok (.iload_n 0, 1) := by decide +kernel
theorem own_d1_11 : decode jdk_41_method_11_code 11 = .ok (.iload_n 1, 1) := by decide +kernel
theorem own_d1_12 : decode jdk_41_method_11_code 12 = .ok (.invokestatic 95, 3) := by decide +kernel
theorem own_d1_15 : decode jdk_41_method_11_code 15 = .ok (.athrow, 1) := by decide +kernel
theorem own_d1_16 : decode jdk_41_method_11_code 16 = .ok (.iload_n 0, 1) := by decide +kernel
theorem own_d1_17 : decode jdk_41_method_11_code 17 = .ok (.ireturn, 1) := by decide +kernel
theorem own_ef1 (m : MethodId) (p1 : Int32) (p2 : Int32) : entryFrame m #[(.int p1), (.int p2), .null] 3 = mkF m 0 #[.val (.int p1), .val (.int p2), .val .null] [] := by first | (simp [entryFrame, mkF, argsToLocals, Value.category]; done) | rfl
set_option maxRecDepth 65536 in
set_option maxHeartbeats 40000000 in
theorem own_rm1 (l : Launch) (Z : State) (a0 : Array Value) (hw : ∀ d ∈ tables_1, d.before a0 Z = true) (ws : List Jvm.Cond) (p1 p2 : Int32) (h0 : Heap) (n0 : Nat) (Z0 : n0 ≤ h0.size) (hi : ¬ p1 < 0) (hj : p1 < p2) :
    MetFree l (⟨"jdk/internal/util/Preconditions", "checkIndex", "(IILjava/util/function/BiFunction;)I"⟩ : MethodName) (head1 (Jvm.Cond.code (⟨"jdk/internal/util/Preconditions", "checkIndex", "(IILjava/util/function/BiFunction;)I"⟩ : MethodName) jdk_41_method_11_code 3 (some .int) :: ws) ({ frames := 0, cells := 0, slots := 0, locals := 0 } : Room)) (fun a U => a = #[(.int p1), (.int p2), .null] ∧ Z.Warmed39 U.vm ∧ U.heap = h0) (fun _ _ _ _ _ => True) (fun _ U o U' => ∃ v L, o = .returned v ∧ own_Qp (some (.int p1)) h0 n0 v U'.heap L ∧ FrameEnd U o U' L ({ frames := 0, cells := 0, slots := 0, locals := 0 } : Room).cells ({ frames := 0, cells := 0, slots := 0, locals := 0 } : Room).slots) := by
  refine MetFree.of_bodySF (plainFor_of_name own_pn0) hisR ?_
  intro p e s m args below meth c s₁ Bd hml0 hP hK
  obtain ⟨rfl, hZ, hh⟩ := hP
  have hx := Bd.exec
  have hby := Bd.bytes
  have hml : c.maxLocals = 3 := hml0
  have hown : s.vm.findClass "jdk/internal/util/Preconditions" = some m.cls := findClass_of_methodNamed Bd.named
  have hnm := (name_of_methodNamed Bd.named Bd.method).1
  have X0 : Stand p l e ({ frames := 0, cells := 0, slots := 0, locals := 0 } : Room) s m #[(.int p1), (.int p2), .null] below meth c s₁ [] 0 0 := Stand.of_body Bd
  have e0 : s₁.heap = h0 := by rw [← hh, Bd.state]; rfl
  have N0 := Fr.nil n0
  refine own_in (Q := own_Qp (some (.int p1)) h0 n0) ?_
  rw [own_ef1]
  show own_G _ _ _ _ _ _ _ (s₁.setTop (mkF m 0 #[.val (.int p1), .val (.int p2), .val .null] []))
  refine own_st (fun t k => XS.iloadN X0.here hx rfl (hb hby own_d1_0) rfl k) ?_
  show own_G _ _ _ _ _ _ _ (s₁.setTop (mkF m 1 #[.val (.int p1), .val (.int p2), .val .null] [(.int p1)]))
  refine own_st (fun t k => XS.ifNo X0.here hx rfl (hb hby own_d1_1) rfl ((if0 _ _).trans (flt hi).1) k) ?_
  show own_G _ _ _ _ _ _ _ (s₁.setTop (mkF m 4 #[.val (.int p1), .val (.int p2), .val .null] []))
  refine own_st (fun t k => XS.iloadN X0.here hx rfl (hb hby own_d1_4) rfl k) ?_
  show own_G _ _ _ _ _ _ _ (s₁.setTop (mkF m 5 #[.val (.int p1), .val (.int p2), .val .null] [(.int p1)]))
  refine own_st (fun t k => XS.iloadN X0.here hx rfl (hb hby own_d1_5) rfl k) ?_
  show own_G _ _ _ _ _ _ _ (s₁.setTop (mkF m 6 #[.val (.int p1), .val (.int p2), .val .null] [(.int p2), (.int p1)]))
  refine own_st (fun t k => XS.icmpYes X0.here hx rfl (pc0 := 6) (pc' := 16) rfl (hb hby own_d1_6) rfl (tlt hj).1 (by decide) (by decide) k) ?_
  show own_G _ _ _ _ _ _ _ (s₁.setTop (mkF m 16 #[.val (.int p1), .val (.int p2), .val .null] []))
  refine own_st (fun t k => XS.iloadN X0.here hx rfl (hb hby own_d1_16) rfl k) ?_
  show own_G _ _ _ _ _ _ _ (s₁.setTop (mkF m 17 #[.val (.int p1), .val (.int p2), .val .null] [(.int p1)]))
  exact own_retI X0 hx Bd.returns (BodyLoose.notSynchronized Bd) (hb hby own_d1_17) (by decide) (by decide) ⟨rfl, N0, e0⟩
theorem own_pn1 : plainName "java/util/Objects" = true := by first | (simp [plainName, overriddenIn]; done) | decide +kernel
theorem own_d2_0 : decode jdk_31_method_17_code 0 = .ok (.iload_n 0, 1) := by decide +kernel
theorem own_d2_1 : decode jdk_31_method_17_code 1 = .ok (.iload_n 1, 1) := by decide +kernel
theorem own_d2_2 : decode jdk_31_method_17_code 2 = .ok (.aconst_null, 1) := by decide +kernel
theorem own_d2_3 : decode jdk_31_method_17_code 3 = .ok (.invokestatic 105, 3) := by decide +kernel
theorem own_d2_6 : decode jdk_31_method_17_code 6 = .ok (.ireturn, 1) := by decide +kernel
theorem own_ef2 (m : MethodId) (p1 : Int32) (p2 : Int32) : entryFrame m #[(.int p1), (.int p2)] 2 = mkF m 0 #[.val (.int p1), .val (.int p2)] [] := by first | (simp [entryFrame, mkF, argsToLocals, Value.category]; done) | rfl
set_option maxRecDepth 65536 in
set_option maxHeartbeats 40000000 in
theorem own_rm2 (l : Launch) (Z : State) (a0 : Array Value) (hw : ∀ d ∈ tables_1, d.before a0 Z = true) (ws : List Jvm.Cond) (p1 p2 : Int32) (h0 : Heap) (n0 : Nat) (Z0 : n0 ≤ h0.size) (hi : ¬ p1 < 0) (hj : p1 < p2) :
    MetFree l (⟨"java/util/Objects", "checkIndex", "(II)I"⟩ : MethodName) (head1 (Jvm.Cond.code (⟨"java/util/Objects", "checkIndex", "(II)I"⟩ : MethodName) jdk_31_method_17_code 2 (some .int) :: ws) ({ frames := 1, cells := 0, slots := 0, locals := 14 } : Room)) (fun a U => a = #[(.int p1), (.int p2)] ∧ Z.Warmed39 U.vm ∧ U.heap = h0) (fun _ _ _ _ _ => True) (fun _ U o U' => ∃ v L, o = .returned v ∧ own_Qp (some (.int p1)) h0 n0 v U'.heap L ∧ FrameEnd U o U' L ({ frames := 1, cells := 0, slots := 0, locals := 14 } : Room).cells ({ frames := 1, cells := 0, slots := 0, locals := 14 } : Room).slots) := by
  refine MetFree.of_bodySF (plainFor_of_name own_pn1) hisR ?_
  intro p e s m args below meth c s₁ Bd hml0 hP hK
  obtain ⟨rfl, hZ, hh⟩ := hP
  have hx := Bd.exec
  have hby := Bd.bytes
  have hml : c.maxLocals = 2 := hml0
  have hown : s.vm.findClass "java/util/Objects" = some m.cls := findClass_of_methodNamed Bd.named
  have hnm := (name_of_methodNamed Bd.named Bd.method).1
  have X0 : Stand p l e ({ frames := 1, cells := 0, slots := 0, locals := 14 } : Room) s m #[(.int p1), (.int p2)] below meth c s₁ [] 0 0 := Stand.of_body Bd
  have e0 : s₁.heap = h0 := by rw [← hh, Bd.state]; rfl
  have N0 := Fr.nil n0
  refine own_in (Q := own_Qp (some (.int p1)) h0 n0) ?_
  rw [own_ef2]
  show own_G _ _ _ _ _ _ _ (s₁.setTop (mkF m 0 #[.val (.int p1), .val (.int p2)] []))
  refine own_st (fun t k => XS.iloadN X0.here hx rfl (hb hby own_d2_0) rfl k) ?_
  show own_G _ _ _ _ _ _ _ (s₁.setTop (mkF m 1 #[.val (.int p1), .val (.int p2)] [(.int p1)]))
  refine own_st (fun t k => XS.iloadN X0.here hx rfl (hb hby own_d2_1) rfl k) ?_
  show own_G _ _ _ _ _ _ _ (s₁.setTop (mkF m 2 #[.val (.int p1), .val (.int p2)] [(.int p2), (.int p1)]))
  refine own_st (fun t k => XS.aconstNull X0.here hx rfl (hb hby own_d2_2) k) ?_
  show own_G _ _ _ _ _ _ _ (s₁.setTop (mkF m 3 #[.val (.int p1), .val (.int p2)] [.null, (.int p2), (.int p1)]))
  obtain ⟨_, _, ⟨T1, L1, k1, n1⟩, -, X1, ⟨Lc1, hQ1, l1, y1, z1⟩, st1⟩ := Jvm.LawKit.callS X0 hx (y := (⟨"jdk/internal/util/Preconditions", "checkIndex", "(IILjava/util/function/BiFunction;)I"⟩ : MethodName)) hown (mvT hZ (hw _ (List.mem_of_getElem? (i := 38) rfl))) (mvT hZ (hw _ (List.mem_of_getElem? (i := 39) rfl))) (mvT hZ (hw _ (List.mem_of_getElem? (i := 24) rfl))) (mvT hZ (hw _ (List.mem_of_getElem? (i := 40) rfl))) (by decide) (backOf (W := 0) (own_rm1 l Z a0 hw [] p1 p2 h0 n0 Z0 hi hj) hZ (hw _ (List.mem_of_getElem? (i := 40) rfl)) (hw _ (List.mem_of_getElem? (i := 24) rfl)) (by decide) (by decide)) (g := (mkF m 3 #[.val (.int p1), .val (.int p2)] [.null, (.int p2), (.int p1)])) rfl (by rw [hml]; rfl) (argsL := [(.int p1), (.int p2), .null]) (rest := []) (lenOf own_pd1 rfl) rfl (by show 2 * 0 + _ ≤ _; exact Nat.le_of_eq rfl) (hb hby own_d2_3) (fun _ _ => ⟨rfl, e0, (by decide : 0 + 0 ≤ _), (by decide : 0 + 0 ≤ _)⟩)
  dsimp only [Pt.U, Pt.locs, Pt.cells, Pt.slots] at X1 l1 y1 z1 st1 hQ1
  subst l1 y1 z1
  obtain ⟨rfl, N1q, e1⟩ := hQ1
  have N1 := Fr.app N0 N1q
  refine own_st (fun t k => st1 t k) ?_
  show own_G _ _ _ _ _ _ _ (T1.setTop (mkF m 6 #[.val (.int p1), .val (.int p2)] [(.int p1)]))
  exact own_retI X1 hx Bd.returns (BodyLoose.notSynchronized Bd) (hb hby own_d2_6) (by decide) (by decide) ⟨rfl, N1, e1⟩
theorem own_d3_0 : decode jdk_41_method_13_code 0 = .ok (.iload_n 2, 1) := by decide +kernel
theorem own_d3_1 : decode jdk_41_method_13_code 1 = .ok (.iload_n 0, 1) := by decide +kernel
theorem own_d3_2 : decode jdk_41_method_13_code 2 = .ok (.ior, 1) := by decide +kernel
theorem own_d3_3 : decode jdk_41_method_13_code 3 = .ok (.iload_n 1, 1) := by decide +kernel
theorem own_d3_4 : decode jdk_41_method_13_code 4 = .ok (.ior, 1) := by decide +kernel
theorem own_d3_5 : decode jdk_41_method_13_code 5 = .ok (.ifCond .lt 10, 3) := by decide +kernel
theorem own_d3_8 : decode jdk_41_method_13_code 8 = .ok (.iload_n 1, 1) := by decide +kernel
theorem own_d3_9 : decode jdk_41_method_13_code 9 = .ok (.iload_n 2, 1) := by decide +kernel
theorem own_d3_10 : decode jdk_41_method_13_code 10 = .ok (.iload_n 0, 1) := by decide +kernel
theorem own_d3_11 : decode jdk_41_method_13_code 11 = .ok (.isub, 1) := by decide +kernel
theorem own_d3_12 : decode jdk_41_method_13_code 12 = .ok (.if_icmp .le 11, 3) := by decide +kernel
theorem own_d3_15 : decode jdk_41_method_13_code 15 = .ok (.aload_n 3, 1) := by decide +kernel
theorem own_d3_16 : decode jdk_41_method_13_code 16 = .ok (.iload_n 0, 1) := by decide +kernel
theorem own_d3_17 : decode jdk_41_method_13_code 17 = .ok (.iload_n 1, 1) := by decide +kernel
theorem own_d3_18 : decode jdk_41_method_13_code 18 = .ok (.iload_n 2, 1) := by decide +kernel
theorem own_d3_19 : decode jdk_41_method_13_code 19 = .ok (.invokestatic 103, 3) := by decide +kernel
theorem own_d3_22 : decode jdk_41_method_13_code 22 = .ok (.athrow, 1) := by decide +kernel
theorem own_d3_23 : decode jdk_41_method_13_code 23 = .ok (.iload_n 0, 1) := by decide +kernel
theorem own_d3_24 : decode jdk_41_method_13_code 24 = .ok (.ireturn, 1) := by decide +kernel
theorem own_ef3 (m : MethodId) (p1 : Int32) (p2 : Int32) (p3 : Int32) : entryFrame m #[(.int p1), (.int p2), (.int p3), .null] 4 = mkF m 0 #[.val (.int p1), .val (.int p2), .val (.int p3), .val .null] [] := by first | (simp [entryFrame, mkF, argsToLocals, Value.category]; done) | rfl
set_option maxRecDepth 65536 in
set_option maxHeartbeats 40000000 in
theorem own_rm3 (l : Launch) (Z : State) (a0 : Array Value) (hw : ∀ d ∈ tables_1, d.before a0 Z = true) (ws : List Jvm.Cond) (p1 p2 p3 : Int32) (h0 : Heap) (n0 : Nat) (Z0 : n0 ≤ h0.size) (hi : ¬ ((p3 ||| p1) ||| p2) < 0) (hj : ¬ (p3 - p1) < p2) :
    MetFree l (⟨"jdk/internal/util/Preconditions", "checkFromIndexSize", "(IIILjava/util/function/BiFunction;)I"⟩ : MethodName) (head1 (Jvm.Cond.code (⟨"jdk/internal/util/Preconditions", "checkFromIndexSize", "(IIILjava/util/function/BiFunction;)I"⟩ : MethodName) jdk_41_method_13_code 4 (some .int) :: ws) ({ frames := 0, cells := 0, slots := 0, locals := 0 } : Room)) (fun a U => a = #[(.int p1), (.int p2), (.int p3), .null] ∧ Z.Warmed39 U.vm ∧ U.heap = h0) (fun _ _ _ _ _ => True) (fun _ U o U' => ∃ v L, o = .returned v ∧ own_Qp (some (.int p1)) h0 n0 v U'.heap L ∧ FrameEnd U o U' L ({ frames := 0, cells := 0, slots := 0, locals := 0 } : Room).cells ({ frames := 0, cells := 0, slots := 0, locals := 0 } : Room).slots) := by
  refine MetFree.of_bodySF (plainFor_of_name own_pn0) hisR ?_
  intro p e s m args below meth c s₁ Bd hml0 hP hK
  obtain ⟨rfl, hZ, hh⟩ := hP
  have hx := Bd.exec
  have hby := Bd.bytes
  have hml : c.maxLocals = 4 := hml0
  have hown : s.vm.findClass "jdk/internal/util/Preconditions" = some m.cls := findClass_of_methodNamed Bd.named
  have hnm := (name_of_methodNamed Bd.named Bd.method).1
  have X0 : Stand p l e ({ frames := 0, cells := 0, slots := 0, locals := 0 } : Room) s m #[(.int p1), (.int p2), (.int p3), .null] below meth c s₁ [] 0 0 := Stand.of_body Bd
  have e0 : s₁.heap = h0 := by rw [← hh, Bd.state]; rfl
  have N0 := Fr.nil n0
  refine own_in (Q := own_Qp (some (.int p1)) h0 n0) ?_
  rw [own_ef3]
  show own_G _ _ _ _ _ _ _ (s₁.setTop (mkF m 0 #[.val (.int p1), .val (.int p2), .val (.int p3), .val .null] []))
  refine own_st (fun t k => XS.iloadN X0.here hx rfl (hb hby own_d3_0) rfl k) ?_
  show own_G _ _ _ _ _ _ _ (s₁.setTop (mkF m 1 #[.val (.int p1), .val (.int p2), .val (.int p3), .val .null] [(.int p3)]))
  refine own_st (fun t k => XS.iloadN X0.here hx rfl (hb hby own_d3_1) rfl k) ?_
  show own_G _ _ _ _ _ _ _ (s₁.setTop (mkF m 2 #[.val (.int p1), .val (.int p2), .val (.int p3), .val .null] [(.int p1), (.int p3)]))
  refine own_st (fun t k => XS.ior X0.here hx rfl (hb hby own_d3_2) rfl k) ?_
  show own_G _ _ _ _ _ _ _ (s₁.setTop (mkF m 3 #[.val (.int p1), .val (.int p2), .val (.int p3), .val .null] [(.int (p3 ||| p1))]))
  refine own_st (fun t k => XS.iloadN X0.here hx rfl (hb hby own_d3_3) rfl k) ?_
  show own_G _ _ _ _ _ _ _ (s₁.setTop (mkF m 4 #[.val (.int p1), .val (.int p2), .val (.int p3), .val .null] [(.int p2), (.int (p3 ||| p1))]))
  refine own_st (fun t k => XS.ior X0.here hx rfl (hb hby own_d3_4) rfl k) ?_
  show own_G _ _ _ _ _ _ _ (s₁.setTop (mkF m 5 #[.val (.int p1), .val (.int p2), .val (.int p3), .val .null] [(.int ((p3 ||| p1) ||| p2))]))
  refine own_st (fun t k => XS.ifNo X0.here hx rfl (hb hby own_d3_5) rfl ((if0 _ _).trans (flt hi).1) k) ?_
  show own_G _ _ _ _ _ _ _ (s₁.setTop (mkF m 8 #[.val (.int p1), .val (.int p2), .val (.int p3), .val .null] []))
  refine own_st (fun t k => XS.iloadN X0.here hx rfl (hb hby own_d3_8) rfl k) ?_
  show own_G _ _ _ _ _ _ _ (s₁.setTop (mkF m 9 #[.val (.int p1), .val (.int p2), .val (.int p3), .val .null] [(.int p2)]))
  refine own_st (fun t k => XS.iloadN X0.here hx rfl (hb hby own_d3_9) rfl k) ?_
  show own_G _ _ _ _ _ _ _ (s₁.setTop (mkF m 10 #[.val (.int p1), .val (.int p2), .val (.int p3), .val .null] [(.int p3), (.int p2)]))
  refine own_st (fun t k => XS.iloadN X0.here hx rfl (hb hby own_d3_10) rfl k) ?_
  show own_G _ _ _ _ _ _ _ (s₁.setTop (mkF m 11 #[.val (.int p1), .val (.int p2), .val (.int p3), .val .null] [(.int p1), (.int p3), (.int p2)]))
  refine own_st (fun t k => XS.isub X0.here hx rfl (hb hby own_d3_11) rfl k) ?_
  show own_G _ _ _ _ _ _ _ (s₁.setTop (mkF m 12 #[.val (.int p1), .val (.int p2), .val (.int p3), .val .null] [(.int (p3 - p1)), (.int p2)]))
  refine own_st (fun t k => XS.icmpYes X0.here hx rfl (pc0 := 12) (pc' := 23) rfl (hb hby own_d3_12) rfl (flt hj).2.2.2 (by decide) (by decide) k) ?_
  show own_G _ _ _ _ _ _ _ (s₁.setTop (mkF m 23 #[.val (.int p1), .val (.int p2), .val (.int p3), .val .null] []))
  refine own_st (fun t k => XS.iloadN X0.here hx rfl (hb hby own_d3_23) rfl k) ?_
  show own_G _ _ _ _ _ _ _ (s₁.setTop (mkF m 24 #[.val (.int p1), .val (.int p2), .val (.int p3), .val .null] [(.int p1)]))
  exact own_retI X0 hx Bd.returns (BodyLoose.notSynchronized Bd) (hb hby own_d3_24) (by decide) (by decide) ⟨rfl, N0, e0⟩
theorem own_d4_0 : decode jdk_31_method_19_code 0 = .ok (.iload_n 0, 1) := by decide +kernel
theorem own_d4_1 : decode jdk_31_method_19_code 1 = .ok (.iload_n 1, 1) := by decide +kernel
theorem own_d4_2 : decode jdk_31_method_19_code 2 = .ok (.iload_n 2, 1) := by decide +kernel
theorem own_d4_3 : decode jdk_31_method_19_code 3 = .ok (.aconst_null, 1) := by decide +kernel
theorem own_d4_4 : decode jdk_31_method_19_code 4 = .ok (.invokestatic 115, 3) := by decide +kernel
theorem own_d4_7 : decode jdk_31_method_19_code 7 = .ok (.ireturn, 1) := by decide +kernel
theorem own_ef4 (m : MethodId) (p1 : Int32) (p2 : Int32) (p3 : Int32) : entryFrame m #[(.int p1), (.int p2), (.int p3)] 3 = mkF m 0 #[.val (.int p1), .val (.int p2), .val (.int p3)] [] := by first | (simp [entryFrame, mkF, argsToLocals, Value.category]; done) | rfl
set_option maxRecDepth 65536 in
set_option maxHeartbeats 40000000 in
theorem own_rm4 (l : Launch) (Z : State) (a0 : Array Value) (hw : ∀ d ∈ tables_1, d.before a0 Z = true) (ws : List Jvm.Cond) (p1 p2 p3 : Int32) (h0 : Heap) (n0 : Nat) (Z0 : n0 ≤ h0.size) (hi : ¬ ((p3 ||| p1) ||| p2) < 0) (hj : ¬ (p3 - p1) < p2) :
    MetFree l (⟨"java/util/Objects", "checkFromIndexSize", "(III)I"⟩ : MethodName) (head1 (Jvm.Cond.code (⟨"java/util/Objects", "checkFromIndexSize", "(III)I"⟩ : MethodName) jdk_31_method_19_code 3 (some .int) :: ws) ({ frames := 1, cells := 0, slots := 0, locals := 15 } : Room)) (fun a U => a = #[(.int p1), (.int p2), (.int p3)] ∧ Z.Warmed39 U.vm ∧ U.heap = h0) (fun _ _ _ _ _ => True) (fun _ U o U' => ∃ v L, o = .returned v ∧ own_Qp (some (.int p1)) h0 n0 v U'.heap L ∧ FrameEnd U o U' L ({ frames := 1, cells := 0, slots := 0, locals := 15 } : Room).cells ({ frames := 1, cells := 0, slots := 0, locals := 15 } : Room).slots) := by
  refine MetFree.of_bodySF (plainFor_of_name own_pn1) hisR ?_
  intro p e s m args below meth c s₁ Bd hml0 hP hK
  obtain ⟨rfl, hZ, hh⟩ := hP
  have hx := Bd.exec
  have hby := Bd.bytes
  have hml : c.maxLocals = 3 := hml0
  have hown : s.vm.findClass "java/util/Objects" = some m.cls := findClass_of_methodNamed Bd.named
  have hnm := (name_of_methodNamed Bd.named Bd.method).1
  have X0 : Stand p l e ({ frames := 1, cells := 0, slots := 0, locals := 15 } : Room) s m #[(.int p1), (.int p2), (.int p3)] below meth c s₁ [] 0 0 := Stand.of_body Bd
  have e0 : s₁.heap = h0 := by rw [← hh, Bd.state]; rfl
  have N0 := Fr.nil n0
  refine own_in (Q := own_Qp (some (.int p1)) h0 n0) ?_
  rw [own_ef4]
  show own_G _ _ _ _ _ _ _ (s₁.setTop (mkF m 0 #[.val (.int p1), .val (.int p2), .val (.int p3)] []))
  refine own_st (fun t k => XS.iloadN X0.here hx rfl (hb hby own_d4_0) rfl k) ?_
  show own_G _ _ _ _ _ _ _ (s₁.setTop (mkF m 1 #[.val (.int p1), .val (.int p2), .val (.int p3)] [(.int p1)]))
  refine own_st (fun t k => XS.iloadN X0.here hx rfl (hb hby own_d4_1) rfl k) ?_
  show own_G _ _ _ _ _ _ _ (s₁.setTop (mkF m 2 #[.val (.int p1), .val (.int p2), .val (.int p3)] [(.int p2), (.int p1)]))
  refine own_st (fun t k => XS.iloadN X0.here hx rfl (hb hby own_d4_2) rfl k) ?_
  show own_G _ _ _ _ _ _ _ (s₁.setTop (mkF m 3 #[.val (.int p1), .val (.int p2), .val (.int p3)] [(.int p3), (.int p2), (.int p1)]))
  refine own_st (fun t k => XS.aconstNull X0.here hx rfl (hb hby own_d4_3) k) ?_
  show own_G _ _ _ _ _ _ _ (s₁.setTop (mkF m 4 #[.val (.int p1), .val (.int p2), .val (.int p3)] [.null, (.int p3), (.int p2), (.int p1)]))
  obtain ⟨_, _, ⟨T2, L2, k2, n2⟩, -, X2, ⟨Lc2, hQ2, l2, y2, z2⟩, st2⟩ := Jvm.LawKit.callS X0 hx (y := (⟨"jdk/internal/util/Preconditions", "checkFromIndexSize", "(IIILjava/util/function/BiFunction;)I"⟩ : MethodName)) hown (mvT hZ (hw _ (List.mem_of_getElem? (i := 22) rfl))) (mvT hZ (hw _ (List.mem_of_getElem? (i := 23) rfl))) (mvT hZ (hw _ (List.mem_of_getElem? (i := 24) rfl))) (mvT hZ (hw _ (List.mem_of_getElem? (i := 25) rfl))) (by decide) (backOf (W := 0) (own_rm3 l Z a0 hw [] p1 p2 p3 h0 n0 Z0 hi hj) hZ (hw _ (List.mem_of_getElem? (i := 25) rfl)) (hw _ (List.mem_of_getElem? (i := 24) rfl)) (by decide) (by decide)) (g := (mkF m 4 #[.val (.int p1), .val (.int p2), .val (.int p3)] [.null, (.int p3), (.int p2), (.int p1)])) rfl (by rw [hml]; rfl) (argsL := [(.int p1), (.int p2), (.int p3), .null]) (rest := []) (lenOf own_pd3 rfl) rfl (by show 2 * 0 + _ ≤ _; exact Nat.le_of_eq rfl) (hb hby own_d4_4) (fun _ _ => ⟨rfl, e0, (by decide : 0 + 0 ≤ _), (by decide : 0 + 0 ≤ _)⟩)
  dsimp only [Pt.U, Pt.locs, Pt.cells, Pt.slots] at X2 l2 y2 z2 st2 hQ2
  subst l2 y2 z2
  obtain ⟨rfl, N2q, e2⟩ := hQ2
  have N2 := Fr.app N0 N2q
  refine own_st (fun t k => st2 t k) ?_
  show own_G _ _ _ _ _ _ _ (T2.setTop (mkF m 7 #[.val (.int p1), .val (.int p2), .val (.int p3)] [(.int p1)]))
  exact own_retI X2 hx Bd.returns (BodyLoose.notSynchronized Bd) (hb hby own_d4_7) (by decide) (by decide) ⟨rfl, N2, e2⟩
def own_Q5 (Z : State) (a1 : Addr) (h0 : Heap) (n0 : Nat) (v : Option Value) (h : Heap) (L : List Loc) : Prop := v = none ∧ Fr n0 L ∧ Keep h0 h [a1] ∧ Exa Z h a1 "com/example/gridmargin/gridmargin/csv/ByteText" ∧ ∃ t, Fld Z h a1 "com/example/gridmargin/gridmargin/csv/ByteText" "bytes" "[B" (.ref t) ∧ Fld Z h a1 "com/example/gridmargin/gridmargin/csv/ByteText" "start" "I" (.int 0) ∧ Fld Z h a1 "com/example/gridmargin/gridmargin/csv/ByteText" "length" "I" (.int 0)
theorem own_pn2 : plainName "com/example/gridmargin/gridmargin/csv/ByteText" = true := by first | (simp [plainName, overriddenIn]; done) | decide +kernel
theorem own_d5_0 : decode prog_22_method_1_code 0 = .ok (.aload_n 0, 1) := by decide +kernel
theorem own_d5_1 : decode prog_22_method_1_code 1 = .ok (.invokespecial 1, 3) := by decide +kernel
theorem own_d5_4 : decode prog_22_method_1_code 4 = .ok (.aload_n 0, 1) := by decide +kernel
theorem own_d5_5 : decode prog_22_method_1_code 5 = .ok (.iconst 0, 1) := by decide +kernel
theorem own_d5_6 : decode prog_22_method_1_code 6 = .ok (.newarray .byte, 2) := by decide +kernel
theorem own_d5_8 : decode prog_22_method_1_code 8 = .ok (.putfield 7, 3) := by decide +kernel
theorem own_d5_11 : decode prog_22_method_1_code 11 = .ok (.return_, 1) := by decide +kernel
theorem own_ef5 (m : MethodId) (a1 : Addr) : entryFrame m #[(.ref a1)] 1 = mkF m 0 #[.val (.ref a1)] [] := by first | (simp [entryFrame, mkF, argsToLocals, Value.category]; done) | rfl
set_option maxRecDepth 65536 in
set_option maxHeartbeats 40000000 in
theorem own_rm5 (l : Launch) (Z : State) (a0 : Array Value) (hw : ∀ d ∈ tables_1, d.before a0 Z = true) (ws : List Jvm.Cond) (a1 : Addr) (h0 : Heap) (n0 : Nat) (Z0 : n0 ≤ h0.size) (E1 : Exa Z h0 a1 "com/example/gridmargin/gridmargin/csv/ByteText") (Fb : Fld Z h0 a1 "com/example/gridmargin/gridmargin/csv/ByteText" "bytes" "[B" .null) (Fs : Fld Z h0 a1 "com/example/gridmargin/gridmargin/csv/ByteText" "start" "I" (.int 0)) (Fl : Fld Z h0 a1 "com/example/gridmargin/gridmargin/csv/ByteText" "length" "I" (.int 0)) (g1 : n0 ≤ a1) :
    MetFree l (⟨"com/example/gridmargin/gridmargin/csv/ByteText", "<init>", "()V"⟩ : MethodName) (head1 (Jvm.Cond.code (⟨"com/example/gridmargin/gridmargin/csv/ByteText", "<init>", "()V"⟩ : MethodName) prog_22_method_1_code 1 none :: ws) ({ frames := 1, cells := 1, slots := 0, locals := 12 } : Room)) (fun a U => a = #[(.ref a1)] ∧ Z.Warmed39 U.vm ∧ U.heap = h0) (fun _ _ _ _ _ => True) (fun _ U o U' => ∃ v L, o = .returned v ∧ own_Q5 Z a1 h0 n0 v U'.heap L ∧ FrameEnd U o U' L ({ frames := 1, cells := 1, slots := 0, locals := 12 } : Room).cells ({ frames := 1, cells := 1, slots := 0, locals := 12 } : Room).slots) := by
  refine MetFree.of_bodySF (plainFor_of_name own_pn2) hisR ?_
  intro p e s m args below meth c s₁ Bd hml0 hP hK
  obtain ⟨rfl, hZ, hh⟩ := hP
  have hx := Bd.exec
  have hby := Bd.bytes
  have hml : c.maxLocals = 1 := hml0
  have hown : s.vm.findClass "com/example/gridmargin/gridmargin/csv/ByteText" = some m.cls := findClass_of_methodNamed Bd.named
  have hnm := (name_of_methodNamed Bd.named Bd.method).1
  have X0 : Stand p l e ({ frames := 1, cells := 1, slots := 0, locals := 12 } : Room) s m #[(.ref a1)] below meth c s₁ [] 0 0 := Stand.of_body Bd
  have e0 : s₁.heap = h0 := by rw [← hh, Bd.state]; rfl
  have N0 := Fr.nil n0
  refine own_in (Q := own_Q5 Z a1 h0 n0) ?_
  rw [own_ef5]
  show own_G _ _ _ _ _ _ _ (s₁.setTop (mkF m 0 #[.val (.ref a1)] []))
  refine own_st (fun t k => XS.aloadN X0.here hx rfl (hb hby own_d5_0) rfl rfl k) ?_
  show own_G _ _ _ _ _ _ _ (s₁.setTop (mkF m 1 #[.val (.ref a1)] [(.ref a1)]))
  obtain ⟨T3, X3, e3, st3⟩ := initO X0 hx hZ hown (hw _ (List.mem_of_getElem? (i := 8) rfl)) (hw _ (List.mem_of_getElem? (i := 9) rfl)) (hw _ (List.mem_of_getElem? (i := 10) rfl)) e0 (g := (mkF m 1 #[.val (.ref a1)] [(.ref a1)])) rfl (by rw [hml]; rfl) rfl (hb hby own_d5_1) (by decide) (W := 0) (by show 2 * 0 + _ ≤ _; exact Nat.le_of_eq rfl) (by decide)
  refine own_st (fun t k => st3 t k) ?_
  show own_G _ _ _ _ _ _ _ (T3.setTop (mkF m 4 #[.val (.ref a1)] []))
  refine own_st (fun t k => XS.aloadN X3.here hx rfl (hb hby own_d5_4) rfl rfl k) ?_
  show own_G _ _ _ _ _ _ _ (T3.setTop (mkF m 5 #[.val (.ref a1)] [(.ref a1)]))
  refine own_st (fun t k => XS.iconst X3.here hx rfl (hb hby own_d5_5) k) ?_
  show own_G _ _ _ _ _ _ _ (T3.setTop (mkF m 6 #[.val (.ref a1)] [(.int (0 : Int32)), (.ref a1)]))
  obtain ⟨T4, h4, k4, X4, e4, E4, A4, st4⟩ := newP X3 hx hZ (hw _ (List.mem_of_getElem? (i := 0) rfl)) e3 (g := (mkF m 6 #[.val (.ref a1)] [(.int (0 : Int32)), (.ref a1)])) rfl (hb hby own_d5_6) rfl (by decide) (cap := 0) (by decide) (by decide) (by decide) (by decide)
  obtain ⟨t1, g4⟩ : ∃ z, z = h0.size := ⟨_, rfl⟩
  rw [← g4] at A4 st4
  refine own_st (fun t k => st4 t k) ?_
  show own_G _ _ _ _ _ _ _ (T4.setTop (mkF m 8 #[.val (.ref a1)] [(.ref t1), (.ref a1)]))
  have ge_t1 : n0 ≤ t1 := Nat.le_trans Z0 (Nat.le_of_eq g4.symm)
  have sz_t1 : h0.size ≤ t1 := Nat.le_trans (Keep.refl h0 [a1]).1 (Nat.le_of_eq g4.symm)
  have ne_a1_t1 : a1 ≠ t1 := Nat.ne_of_lt (Nat.lt_of_lt_of_le E1.lt (Nat.le_of_eq g4.symm))
  have E_5 := E1.ext E4
  have fb_6 := Fb.ext E4
  have fs_7 := Fs.ext E4
  have fl_8 := Fl.ext E4
  have Zz9 : n0 ≤ h4.size := Nat.le_trans Z0 E4.1
  have Kk10 := (Keep.refl h0 [a1]).ext E4
  obtain ⟨T11, h11, X11, e11, W11, st11⟩ := putF X4 hx hZ hown (host := "") (Or.inl (hw _ (List.mem_of_getElem? (i := 11) rfl))) Via.refl e4 fb_6 E_5 (Or.inl (hw _ (List.mem_of_getElem? (i := 12) rfl))) (hw _ (List.mem_of_getElem? (i := 3) rfl)) (ty := (.array .byte)) (by decide) rfl rfl (g := (mkF m 8 #[.val (.ref a1)] [(.ref t1), (.ref a1)])) rfl rfl (hb hby own_d5_8)
  have N11 := Fr.snoc X11 N0 g1
  refine own_st (fun t k => st11 t k) ?_
  show own_G _ _ _ _ _ _ _ (T11.setTop (mkF m 11 #[.val (.ref a1)] []))
  have E_12 := E_5.wr W11
  have fb_13 := fb_6.same W11
  have fs_14 := fs_7.other W11 (Or.inr (slot_ne (Or.inl (hw _ (List.mem_of_getElem? (i := 27) rfl))) (Or.inl (hw _ (List.mem_of_getElem? (i := 12) rfl))) (by decide) (t := .int) (t' := (.array .byte)) (by decide) (by decide)))
  have fl_15 := fl_8.other W11 (Or.inr (slot_ne (Or.inl (hw _ (List.mem_of_getElem? (i := 29) rfl))) (Or.inl (hw _ (List.mem_of_getElem? (i := 12) rfl))) (by decide) (t := .int) (t' := (.array .byte)) (by decide) (by decide)))
  have Zz16 : n0 ≤ h11.size := Nat.le_trans Zz9 (Keep.of_wr W11).1
  have Kk17 := Kk10.wr W11 (Or.inl (List.mem_of_getElem? (i := 0) rfl))
  subst e11
  exact own_retV X11 hx Bd.returns (BodyLoose.notSynchronized Bd) (hb hby own_d5_11) (by decide) (by decide) ⟨rfl, N11, Kk17, E_12, t1, fb_13, fs_14, fl_15⟩
def own_Q6 (Z : State) (a1 b1 : Addr) (p1 p2 : Int32) (h0 : Heap) (n0 : Nat) (v : Option Value) (h : Heap) (L : List Loc) : Prop := v = some (.ref a1) ∧ Fr n0 L ∧ Keep h0 h [a1] ∧ Fld Z h a1 "com/example/gridmargin/gridmargin/csv/ByteText" "bytes" "[B" (.ref b1) ∧ Fld Z h a1 "com/example/gridmargin/gridmargin/csv/ByteText" "start" "I" (.int p1) ∧ Fld Z h a1 "com/example/gridmargin/gridmargin/csv/ByteText" "length" "I" (.int p2)
theorem own_d6_0 : decode prog_22_method_2_code 0 = .ok (.iload_n 2, 1) := by decide +kernel
theorem own_d6_1 : decode prog_22_method_2_code 1 = .ok (.iload_n 3, 1) := by decide +kernel
theorem own_d6_2 : decode prog_22_method_2_code 2 = .ok (.aload_n 1, 1) := by decide +kernel
theorem own_d6_3 : decode prog_22_method_2_code 3 = .ok (.arraylength, 1) := by decide +kernel
theorem own_d6_4 : decode prog_22_method_2_code 4 = .ok (.invokestatic 13, 3) := by decide +kernel
theorem own_d6_7 : decode prog_22_method_2_code 7 = .ok (.pop, 1) := by decide +kernel
theorem own_d6_8 : decode prog_22_method_2_code 8 = .ok (.aload_n 0, 1) := by decide +kernel
theorem own_d6_9 : decode prog_22_method_2_code 9 = .ok (.aload_n 1, 1) := by decide +kernel
theorem own_d6_10 : decode prog_22_method_2_code 10 = .ok (.putfield 7, 3) := by decide +kernel
theorem own_d6_13 : decode prog_22_method_2_code 13 = .ok (.aload_n 0, 1) := by decide +kernel
theorem own_d6_14 : decode prog_22_method_2_code 14 = .ok (.iload_n 2, 1) := by decide +kernel
theorem own_d6_15 : decode prog_22_method_2_code 15 = .ok (.putfield 19, 3) := by decide +kernel
theorem own_d6_18 : decode prog_22_method_2_code 18 = .ok (.aload_n 0, 1) := by decide +kernel
theorem own_d6_19 : decode prog_22_method_2_code 19 = .ok (.iload_n 3, 1) := by decide +kernel
theorem own_d6_20 : decode prog_22_method_2_code 20 = .ok (.putfield 23, 3) := by decide +kernel
theorem own_d6_23 : decode prog_22_method_2_code 23 = .ok (.aload_n 0, 1) := by decide +kernel
theorem own_d6_24 : decode prog_22_method_2_code 24 = .ok (.areturn, 1) := by decide +kernel
theorem own_ef6 (m : MethodId) (a1 : Addr) (b1 : Addr) (p1 : Int32) (p2 : Int32) : entryFrame m #[(.ref a1), (.ref b1), (.int p1), (.int p2)] 4 = mkF m 0 #[.val (.ref a1), .val (.ref b1), .val (.int p1), .val (.int p2)] [] := by first | (simp [entryFrame, mkF, argsToLocals, Value.category]; done) | rfl
set_option maxRecDepth 65536 in
set_option maxHeartbeats 40000000 in
theorem own_rm6 (l : Launch) (Z : State) (a0 : Array Value) (hw : ∀ d ∈ tables_1, d.before a0 Z = true) (ws : List Jvm.Cond) (a1 b1 : Addr) (p1 p2 : Int32) (t : Addr) (kb : ClassId) (vs : List Value) (dv : Value) (h0 : Heap) (n0 : Nat) (Z0 : n0 ≤ h0.size) (E1 : Exa Z h0 a1 "com/example/gridmargin/gridmargin/csv/ByteText") (Fb : Fld Z h0 a1 "com/example/gridmargin/gridmargin/csv/ByteText" "bytes" "[B" (.ref t)) (Fs : Fld Z h0 a1 "com/example/gridmargin/gridmargin/csv/ByteText" "start" "I" (.int 0)) (Fl : Fld Z h0 a1 "com/example/gridmargin/gridmargin/csv/ByteText" "length" "I" (.int 0)) (g1 : n0 ≤ a1) (Vb : Arv Z h0 b1 kb .byte 4 vs dv) (hi : ¬ ((4 ||| p1) ||| p2) < 0) (hj : ¬ (4 - p1) < p2) :
    MetFree l (⟨"com/example/gridmargin/gridmargin/csv/ByteText", "of", "([BII)Lcom/example/gridmargin/gridmargin/csv/ByteText;"⟩ : MethodName) (head1 (Jvm.Cond.code (⟨"com/example/gridmargin/gridmargin/csv/ByteText", "of", "([BII)Lcom/example/gridmargin/gridmargin/csv/ByteText;"⟩ : MethodName) prog_22_method_2_code 4 (some (.object "com/example/gridmargin/gridmargin/csv/ByteText")) :: ws) ({ frames := 2, cells := 0, slots := 0, locals := 29 } : Room)) (fun a U => a = #[(.ref a1), (.ref b1), (.int p1), (.int p2)] ∧ Z.Warmed39 U.vm ∧ U.heap = h0) (fun _ _ _ _ _ => True) (fun _ U o U' => ∃ v L, o = .returned v ∧ own_Q6 Z a1 b1 p1 p2 h0 n0 v U'.heap L ∧ FrameEnd U o U' L ({ frames := 2, cells := 0, slots := 0, locals := 29 } : Room).cells ({ frames := 2, cells := 0, slots := 0, locals := 29 } : Room).slots) := by
  refine MetFree.of_bodySF (plainFor_of_name own_pn2) hisR ?_
  intro p e s m args below meth c s₁ Bd hml0 hP hK
  obtain ⟨rfl, hZ, hh⟩ := hP
  have hx := Bd.exec
  have hby := Bd.bytes
  have hml : c.maxLocals = 4 := hml0
  have hown : s.vm.findClass "com/example/gridmargin/gridmargin/csv/ByteText" = some m.cls := findClass_of_methodNamed Bd.named
  have hnm := (name_of_methodNamed Bd.named Bd.method).1
  have X0 : Stand p l e ({ frames := 2, cells := 0, slots := 0, locals := 29 } : Room) s m #[(.ref a1), (.ref b1), (.int p1), (.int p2)] below meth c s₁ [] 0 0 := Stand.of_body Bd
  have e0 : s₁.heap = h0 := by rw [← hh, Bd.state]; rfl
  have N0 := Fr.nil n0
  refine own_in (Q := own_Q6 Z a1 b1 p1 p2 h0 n0) ?_
  rw [own_ef6]
  show own_G _ _ _ _ _ _ _ (s₁.setTop (mkF m 0 #[.val (.ref a1), .val (.ref b1), .val (.int p1), .val (.int p2)] []))
  refine own_st (fun t k => XS.iloadN X0.here hx rfl (hb hby own_d6_0) rfl k) ?_
  show own_G _ _ _ _ _ _ _ (s₁.setTop (mkF m 1 #[.val (.ref a1), .val (.ref b1), .val (.int p1), .val (.int p2)] [(.int p1)]))
  refine own_st (fun t k => XS.iloadN X0.here hx rfl (hb hby own_d6_1) rfl k) ?_
  show own_G _ _ _ _ _ _ _ (s₁.setTop (mkF m 2 #[.val (.ref a1), .val (.ref b1), .val (.int p1), .val (.int p2)] [(.int p2), (.int p1)]))
  refine own_st (fun t k => XS.aloadN X0.here hx rfl (hb hby own_d6_2) rfl rfl k) ?_
  show own_G _ _ _ _ _ _ _ (s₁.setTop (mkF m 3 #[.val (.ref a1), .val (.ref b1), .val (.int p1), .val (.int p2)] [(.ref b1), (.int p2), (.int p1)]))
  obtain ⟨cl, Ar, -, Sz, Mz, -, -⟩ := Vb
  refine own_st (fun t k => X0.arraylength hx (by rw [e0]; exact Ar.1) (State.isArrayOf_alike hZ.alike Ar.2.1) (g := (mkF m 3 #[.val (.ref a1), .val (.ref b1), .val (.int p1), .val (.int p2)] [(.ref b1), (.int p2), (.int p1)])) rfl rfl (hb hby own_d6_3) t k) ?_
  rw [len_of Sz Mz]
  show own_G _ _ _ _ _ _ _ (s₁.setTop (mkF m 4 #[.val (.ref a1), .val (.ref b1), .val (.int p1), .val (.int p2)] [(.int 4), (.int p2), (.int p1)]))
  obtain ⟨_, _, ⟨T18, L18, k18, n18⟩, -, X18, ⟨Lc18, hQ18, l18, y18, z18⟩, st18⟩ := Jvm.LawKit.callS X0 hx (y := (⟨"java/util/Objects", "checkFromIndexSize", "(III)I"⟩ : MethodName)) hown (mvT hZ (hw _ (List.mem_of_getElem? (i := 18) rfl))) (mvT hZ (hw _ (List.mem_of_getElem? (i := 19) rfl))) (mvT hZ (hw _ (List.mem_of_getElem? (i := 20) rfl))) (mvT hZ (hw _ (List.mem_of_getElem? (i := 21) rfl))) (by decide) (backOf (W := 0) (own_rm4 l Z a0 hw [] p1 p2 4 h0 n0 Z0 hi hj) hZ (hw _ (List.mem_of_getElem? (i := 21) rfl)) (hw _ (List.mem_of_getElem? (i := 20) rfl)) (by decide) (by decide)) (g := (mkF m 4 #[.val (.ref a1), .val (.ref b1), .val (.int p1), .val (.int p2)] [(.int 4), (.int p2), (.int p1)])) rfl (by rw [hml]; rfl) (argsL := [(.int p1), (.int p2), (.int 4)]) (rest := []) (lenOf own_pd2 rfl) rfl (by show 2 * 0 + _ ≤ _; exact Nat.le_of_eq rfl) (hb hby own_d6_4) (fun _ _ => ⟨rfl, e0, (by decide : 0 + 0 ≤ _), (by decide : 0 + 0 ≤ _)⟩)
  dsimp only [Pt.U, Pt.locs, Pt.cells, Pt.slots] at X18 l18 y18 z18 st18 hQ18
  subst l18 y18 z18
  obtain ⟨rfl, N18q, e18⟩ := hQ18
  have N18 := Fr.app N0 N18q
  refine own_st (fun t k => st18 t k) ?_
  show own_G _ _ _ _ _ _ _ (T18.setTop (mkF m 7 #[.val (.ref a1), .val (.ref b1), .val (.int p1), .val (.int p2)] [(.int p1)]))
  refine own_st (fun t k => XS.pop X18.here hx rfl (hb hby own_d6_7) rfl rfl k) ?_
  show own_G _ _ _ _ _ _ _ (T18.setTop (mkF m 8 #[.val (.ref a1), .val (.ref b1), .val (.int p1), .val (.int p2)] []))
  refine own_st (fun t k => XS.aloadN X18.here hx rfl (hb hby own_d6_8) rfl rfl k) ?_
  show own_G _ _ _ _ _ _ _ (T18.setTop (mkF m 9 #[.val (.ref a1), .val (.ref b1), .val (.int p1), .val (.int p2)] [(.ref a1)]))
  refine own_st (fun t k => XS.aloadN X18.here hx rfl (hb hby own_d6_9) rfl rfl k) ?_
  show own_G _ _ _ _ _ _ _ (T18.setTop (mkF m 10 #[.val (.ref a1), .val (.ref b1), .val (.int p1), .val (.int p2)] [(.ref b1), (.ref a1)]))
  obtain ⟨T19, h19, X19, e19, W19, st19⟩ := putF X18 hx hZ hown (host := "") (Or.inl (hw _ (List.mem_of_getElem? (i := 11) rfl))) Via.refl e18 Fb E1 (Or.inl (hw _ (List.mem_of_getElem? (i := 12) rfl))) (hw _ (List.mem_of_getElem? (i := 3) rfl)) (ty := (.array .byte)) (by decide) rfl rfl (g := (mkF m 10 #[.val (.ref a1), .val (.ref b1), .val (.int p1), .val (.int p2)] [(.ref b1), (.ref a1)])) rfl rfl (hb hby own_d6_10)
  have N19 := Fr.snoc X19 N18 g1
  refine own_st (fun t k => st19 t k) ?_
  show own_G _ _ _ _ _ _ _ (T19.setTop (mkF m 13 #[.val (.ref a1), .val (.ref b1), .val (.int p1), .val (.int p2)] []))
  have E_20 := E1.wr W19
  have fb_21 := Fb.same W19
  have fs_22 := Fs.other W19 (Or.inr (slot_ne (Or.inl (hw _ (List.mem_of_getElem? (i := 27) rfl))) (Or.inl (hw _ (List.mem_of_getElem? (i := 12) rfl))) (by decide) (t := .int) (t' := (.array .byte)) (by decide) (by decide)))
  have fl_23 := Fl.other W19 (Or.inr (slot_ne (Or.inl (hw _ (List.mem_of_getElem? (i := 29) rfl))) (Or.inl (hw _ (List.mem_of_getElem? (i := 12) rfl))) (by decide) (t := .int) (t' := (.array .byte)) (by decide) (by decide)))
  have Zz24 : n0 ≤ h19.size := Nat.le_trans Z0 (Keep.of_wr W19).1
  have Kk25 := (Keep.refl h0 [a1]).wr W19 (Or.inl (List.mem_of_getElem? (i := 0) rfl))
  refine own_st (fun t k => XS.aloadN X19.here hx rfl (hb hby own_d6_13) rfl rfl k) ?_
  show own_G _ _ _ _ _ _ _ (T19.setTop (mkF m 14 #[.val (.ref a1), .val (.ref b1), .val (.int p1), .val (.int p2)] [(.ref a1)]))
  refine own_st (fun t k => XS.iloadN X19.here hx rfl (hb hby own_d6_14) rfl k) ?_
  show own_G _ _ _ _ _ _ _ (T19.setTop (mkF m 15 #[.val (.ref a1), .val (.ref b1), .val (.int p1), .val (.int p2)] [(.int p1), (.ref a1)]))
  obtain ⟨T26, h26, X26, e26, W26, st26⟩ := putF X19 hx hZ hown (host := "") (Or.inl (hw _ (List.mem_of_getElem? (i := 26) rfl))) Via.refl e19 fs_22 E_20 (Or.inl (hw _ (List.mem_of_getElem? (i := 27) rfl))) (hw _ (List.mem_of_getElem? (i := 3) rfl)) (ty := .int) (by decide) rfl rfl (g := (mkF m 15 #[.val (.ref a1), .val (.ref b1), .val (.int p1), .val (.int p2)] [(.int p1), (.ref a1)])) rfl rfl (hb hby own_d6_15)
  have N26 := Fr.snoc X26 N19 g1
  refine own_st (fun t k => st26 t k) ?_
  show own_G _ _ _ _ _ _ _ (T26.setTop (mkF m 18 #[.val (.ref a1), .val (.ref b1), .val (.int p1), .val (.int p2)] []))
  have E_27 := E_20.wr W26
  have fb_28 := fb_21.other W26 (Or.inr (slot_ne (Or.inl (hw _ (List.mem_of_getElem? (i := 12) rfl))) (Or.inl (hw _ (List.mem_of_getElem? (i := 27) rfl))) (by decide) (t := (.array .byte)) (t' := .int) (by decide) (by decide)))
  have fs_29 := fs_22.same W26
  have fl_30 := fl_23.other W26 (Or.inr (slot_ne (Or.inl (hw _ (List.mem_of_getElem? (i := 29) rfl))) (Or.inl (hw _ (List.mem_of_getElem? (i := 27) rfl))) (by decide) (t := .int) (t' := .int) (by decide) (by decide)))
  have Zz31 : n0 ≤ h26.size := Nat.le_trans Zz24 (Keep.of_wr W26).1
  have Kk32 := Kk25.wr W26 (Or.inl (List.mem_of_getElem? (i := 0) rfl))
  refine own_st (fun t k => XS.aloadN X26.here hx rfl (hb hby own_d6_18) rfl rfl k) ?_
  show own_G _ _ _ _ _ _ _ (T26.setTop (mkF m 19 #[.val (.ref a1), .val (.ref b1), .val (.int p1), .val (.int p2)] [(.ref a1)]))
  refine own_st (fun t k => XS.iloadN X26.here hx rfl (hb hby own_d6_19) rfl k) ?_
  show own_G _ _ _ _ _ _ _ (T26.setTop (mkF m 20 #[.val (.ref a1), .val (.ref b1), .val (.int p1), .val (.int p2)] [(.int p2), (.ref a1)]))
  obtain ⟨T33, h33, X33, e33, W33, st33⟩ := putF X26 hx hZ hown (host := "") (Or.inl (hw _ (List.mem_of_getElem? (i := 28) rfl))) Via.refl e26 fl_30 E_27 (Or.inl (hw _ (List.mem_of_getElem? (i := 29) rfl))) (hw _ (List.mem_of_getElem? (i := 3) rfl)) (ty := .int) (by decide) rfl rfl (g := (mkF m 20 #[.val (.ref a1), .val (.ref b1), .val (.int p1), .val (.int p2)] [(.int p2), (.ref a1)])) rfl rfl (hb hby own_d6_20)
  have N33 := Fr.snoc X33 N26 g1
  refine own_st (fun t k => st33 t k) ?_
  show own_G _ _ _ _ _ _ _ (T33.setTop (mkF m 23 #[.val (.ref a1), .val (.ref b1), .val (.int p1), .val (.int p2)] []))
  have E_34 := E_27.wr W33
  have fb_35 := fb_28.other W33 (Or.inr (slot_ne (Or.inl (hw _ (List.mem_of_getElem? (i := 12) rfl))) (Or.inl (hw _ (List.mem_of_getElem? (i := 29) rfl))) (by decide) (t := (.array .byte)) (t' := .int) (by decide) (by decide)))
  have fs_36 := fs_29.other W33 (Or.inr (slot_ne (Or.inl (hw _ (List.mem_of_getElem? (i := 27) rfl))) (Or.inl (hw _ (List.mem_of_getElem? (i := 29) rfl))) (by decide) (t := .int) (t' := .int) (by decide) (by decide)))
  have fl_37 := fl_30.same W33
  have Zz38 : n0 ≤ h33.size := Nat.le_trans Zz31 (Keep.of_wr W33).1
  have Kk39 := Kk32.wr W33 (Or.inl (List.mem_of_getElem? (i := 0) rfl))
  refine own_st (fun t k => XS.aloadN X33.here hx rfl (hb hby own_d6_23) rfl rfl k) ?_
  show own_G _ _ _ _ _ _ _ (T33.setTop (mkF m 24 #[.val (.ref a1), .val (.ref b1), .val (.int p1), .val (.int p2)] [(.ref a1)]))
  subst e33
  exact own_retA (ft := (.object "com/example/gridmargin/gridmargin/csv/ByteText")) (w := (.ref a1)) rfl rfl X33 hx Bd.returns (BodyLoose.notSynchronized Bd) (hb hby own_d6_24) (by decide) (by decide) ⟨rfl, N33, Kk39, fb_35, fs_36, fl_37⟩
theorem own_d7_0 : decode prog_22_method_4_code 0 = .ok (.iload_n 1, 1) := by decide +kernel
theorem own_d7_1 : decode prog_22_method_4_code 1 = .ok (.aload_n 0, 1) := by decide +kernel
theorem own_d7_2 : decode prog_22_method_4_code 2 = .ok (.getfield 23, 3) := by decide +kernel
theorem own_d7_5 : decode prog_22_method_4_code 5 = .ok (.invokestatic 26, 3) := by decide +kernel
theorem own_d7_8 : decode prog_22_method_4_code 8 = .ok (.pop, 1) := by decide +kernel
theorem own_d7_9 : decode prog_22_method_4_code 9 = .ok (.aload_n 0, 1) := by decide +kernel
theorem own_d7_10 : decode prog_22_method_4_code 10 = .ok (.getfield 7, 3) := by decide +kernel
theorem own_d7_13 : decode prog_22_method_4_code 13 = .ok (.aload_n 0, 1) := by decide +kernel
theorem own_d7_14 : decode prog_22_method_4_code 14 = .ok (.getfield 19, 3) := by decide +kernel
theorem own_d7_17 : decode prog_22_method_4_code 17 = .ok (.iload_n 1, 1) := by decide +kernel
theorem own_d7_18 : decode prog_22_method_4_code 18 = .ok (.iadd, 1) := by decide +kernel
theorem own_d7_19 : decode prog_22_method_4_code 19 = .ok (.baload, 1) := by decide +kernel
theorem own_d7_20 : decode prog_22_method_4_code 20 = .ok (.sipush 255, 3) := by decide +kernel
theorem own_d7_23 : decode prog_22_method_4_code 23 = .ok (.iand, 1) := by decide +kernel
theorem own_d7_24 : decode prog_22_method_4_code 24 = .ok (.i2c, 1) := by decide +kernel
theorem own_d7_25 : decode prog_22_method_4_code 25 = .ok (.ireturn, 1) := by decide +kernel
theorem own_ef7 (m : MethodId) (a1 : Addr) (p1 : Int32) : entryFrame m #[(.ref a1), (.int p1)] 2 = mkF m 0 #[.val (.ref a1), .val (.int p1)] [] := by first | (simp [entryFrame, mkF, argsToLocals, Value.category]; done) | rfl
set_option maxRecDepth 65536 in
set_option maxHeartbeats 40000000 in
theorem own_rm7 (l : Launch) (Z : State) (a0 : Array Value) (hw : ∀ d ∈ tables_1, d.before a0 Z = true) (ws : List Jvm.Cond) (a1 : Addr) (p1 : Int32) (ta : Addr) (st ln x : Int32) (cl : Cell) (h0 : Heap) (n0 : Nat) (Z0 : n0 ≤ h0.size) (Fb : Fld Z h0 a1 "com/example/gridmargin/gridmargin/csv/ByteText" "bytes" "[B" (.ref ta)) (Fs : Fld Z h0 a1 "com/example/gridmargin/gridmargin/csv/ByteText" "start" "I" (.int st)) (Fl : Fld Z h0 a1 "com/example/gridmargin/gridmargin/csv/ByteText" "length" "I" (.int ln)) (hi : ¬ p1 < 0) (hj : p1 < ln) (Ar : Arr Z h0 ta cl .byte) (hin : ¬ (st + p1 < 0 ∨ cl.slots.size ≤ (st + p1).toNatClampNeg)) (hat : cl.slots[(st + p1).toNatClampNeg]? = some (.int x)) :
    MetFree l (⟨"com/example/gridmargin/gridmargin/csv/ByteText", "charAt", "(I)C"⟩ : MethodName) (head1 (Jvm.Cond.code (⟨"com/example/gridmargin/gridmargin/csv/ByteText", "charAt", "(I)C"⟩ : MethodName) prog_22_method_4_code 2 (some .char) :: ws) ({ frames := 2, cells := 0, slots := 0, locals := 27 } : Room)) (fun a U => a = #[(.ref a1), (.int p1)] ∧ Z.Warmed39 U.vm ∧ U.heap = h0) (fun _ _ _ _ _ => True) (fun _ U o U' => ∃ v L, o = .returned v ∧ own_Qp (some (.int (nar .char ((x &&& 255).toUInt32.toUInt16.toUInt32.toInt32)))) h0 n0 v U'.heap L ∧ FrameEnd U o U' L ({ frames := 2, cells := 0, slots := 0, locals := 27 } : Room).cells ({ frames := 2, cells := 0, slots := 0, locals := 27 } : Room).slots) := by
  refine MetFree.of_bodySF (plainFor_of_name own_pn2) hisR ?_
  intro p e s m args below meth c s₁ Bd hml0 hP hK
  obtain ⟨rfl, hZ, hh⟩ := hP
  have hx := Bd.exec
  have hby := Bd.bytes
  have hml : c.maxLocals = 2 := hml0
  have hown : s.vm.findClass "com/example/gridmargin/gridmargin/csv/ByteText" = some m.cls := findClass_of_methodNamed Bd.named
  have hnm := (name_of_methodNamed Bd.named Bd.method).1
  have X0 : Stand p l e ({ frames := 2, cells := 0, slots := 0, locals := 27 } : Room) s m #[(.ref a1), (.int p1)] below meth c s₁ [] 0 0 := Stand.of_body Bd
  have e0 : s₁.heap = h0 := by rw [← hh, Bd.state]; rfl
  have N0 := Fr.nil n0
  refine own_in (Q := own_Qp (some (.int (nar .char ((x &&& 255).toUInt32.toUInt16.toUInt32.toInt32)))) h0 n0) ?_
  rw [own_ef7]
  show own_G _ _ _ _ _ _ _ (s₁.setTop (mkF m 0 #[.val (.ref a1), .val (.int p1)] []))
  refine own_st (fun t k => XS.iloadN X0.here hx rfl (hb hby own_d7_0) rfl k) ?_
  show own_G _ _ _ _ _ _ _ (s₁.setTop (mkF m 1 #[.val (.ref a1), .val (.int p1)] [(.int p1)]))
  refine own_st (fun t k => XS.aloadN X0.here hx rfl (hb hby own_d7_1) rfl rfl k) ?_
  show own_G _ _ _ _ _ _ _ (s₁.setTop (mkF m 2 #[.val (.ref a1), .val (.int p1)] [(.ref a1), (.int p1)]))
  obtain ⟨T40, X40, e40, st40⟩ := getF X0 hx hZ hown (host := "") (Or.inl (hw _ (List.mem_of_getElem? (i := 28) rfl))) Via.refl e0 Fl (g := (mkF m 2 #[.val (.ref a1), .val (.int p1)] [(.ref a1), (.int p1)])) rfl rfl (hb hby own_d7_2)
  refine own_st (fun t k => st40 t k) ?_
  show own_G _ _ _ _ _ _ _ (T40.setTop (mkF m 5 #[.val (.ref a1), .val (.int p1)] [(.int ln), (.int p1)]))
  obtain ⟨_, _, ⟨T41, L41, k41, n41⟩, -, X41, ⟨Lc41, hQ41, l41, y41, z41⟩, st41⟩ := Jvm.LawKit.callS X40 hx (y := (⟨"java/util/Objects", "checkIndex", "(II)I"⟩ : MethodName)) hown (mvT hZ (hw _ (List.mem_of_getElem? (i := 35) rfl))) (mvT hZ (hw _ (List.mem_of_getElem? (i := 36) rfl))) (mvT hZ (hw _ (List.mem_of_getElem? (i := 20) rfl))) (mvT hZ (hw _ (List.mem_of_getElem? (i := 37) rfl))) (by decide) (backOf (W := 0) (own_rm2 l Z a0 hw [] p1 ln h0 n0 Z0 hi hj) hZ (hw _ (List.mem_of_getElem? (i := 37) rfl)) (hw _ (List.mem_of_getElem? (i := 20) rfl)) (by decide) (by decide)) (g := (mkF m 5 #[.val (.ref a1), .val (.int p1)] [(.int ln), (.int p1)])) rfl (by rw [hml]; rfl) (argsL := [(.int p1), (.int ln)]) (rest := []) (lenOf own_pd0 rfl) rfl (by show 2 * 0 + _ ≤ _; exact Nat.le_of_eq rfl) (hb hby own_d7_5) (fun _ _ => ⟨rfl, e40, (by decide : 0 + 0 ≤ _), (by decide : 0 + 0 ≤ _)⟩)
  dsimp only [Pt.U, Pt.locs, Pt.cells, Pt.slots] at X41 l41 y41 z41 st41 hQ41
  subst l41 y41 z41
  obtain ⟨rfl, N41q, e41⟩ := hQ41
  have N41 := Fr.app N0 N41q
  refine own_st (fun t k => st41 t k) ?_
  show own_G _ _ _ _ _ _ _ (T41.setTop (mkF m 8 #[.val (.ref a1), .val (.int p1)] [(.int p1)]))
  refine own_st (fun t k => XS.pop X41.here hx rfl (hb hby own_d7_8) rfl rfl k) ?_
  show own_G _ _ _ _ _ _ _ (T41.setTop (mkF m 9 #[.val (.ref a1), .val (.int p1)] []))
  refine own_st (fun t k => XS.aloadN X41.here hx rfl (hb hby own_d7_9) rfl rfl k) ?_
  show own_G _ _ _ _ _ _ _ (T41.setTop (mkF m 10 #[.val (.ref a1), .val (.int p1)] [(.ref a1)]))
  obtain ⟨T42, X42, e42, st42⟩ := getF X41 hx hZ hown (host := "") (Or.inl (hw _ (List.mem_of_getElem? (i := 11) rfl))) Via.refl e41 Fb (g := (mkF m 10 #[.val (.ref a1), .val (.int p1)] [(.ref a1)])) rfl rfl (hb hby own_d7_10)
  refine own_st (fun t k => st42 t k) ?_
  show own_G _ _ _ _ _ _ _ (T42.setTop (mkF m 13 #[.val (.ref a1), .val (.int p1)] [(.ref ta)]))
  refine own_st (fun t k => XS.aloadN X42.here hx rfl (hb hby own_d7_13) rfl rfl k) ?_
  show own_G _ _ _ _ _ _ _ (T42.setTop (mkF m 14 #[.val (.ref a1), .val (.int p1)] [(.ref a1), (.ref ta)]))
  obtain ⟨T43, X43, e43, st43⟩ := getF X42 hx hZ hown (host := "") (Or.inl (hw _ (List.mem_of_getElem? (i := 26) rfl))) Via.refl e42 Fs (g := (mkF m 14 #[.val (.ref a1), .val (.int p1)] [(.ref a1), (.ref ta)])) rfl rfl (hb hby own_d7_14)
  refine own_st (fun t k => st43 t k) ?_
  show own_G _ _ _ _ _ _ _ (T43.setTop (mkF m 17 #[.val (.ref a1), .val (.int p1)] [(.int st), (.ref ta)]))
  refine own_st (fun t k => XS.iloadN X43.here hx rfl (hb hby own_d7_17) rfl k) ?_
  show own_G _ _ _ _ _ _ _ (T43.setTop (mkF m 18 #[.val (.ref a1), .val (.int p1)] [(.int p1), (.int st), (.ref ta)]))
  refine own_st (fun t k => XS.iadd X43.here hx rfl (hb hby own_d7_18) rfl k) ?_
  show own_G _ _ _ _ _ _ _ (T43.setTop (mkF m 19 #[.val (.ref a1), .val (.int p1)] [(.int (st + p1)), (.ref ta)]))
  refine own_st (fun t k => X43.baloadBytes hx (j := (st + p1)) (v := (.int x)) (by rw [e43]; exact Ar.1) (State.isArrayOf_alike hZ.alike Ar.2.1) Ar.2.2 hin hat (g := (mkF m 19 #[.val (.ref a1), .val (.int p1)] [(.int (st + p1)), (.ref ta)])) rfl rfl (hb hby own_d7_19) t k) ?_
  show own_G _ _ _ _ _ _ _ (T43.setTop (mkF m 20 #[.val (.ref a1), .val (.int p1)] [(.int x)]))
  refine own_st (fun t k => XS.sipush X43.here hx rfl (hb hby own_d7_20) k) ?_
  show own_G _ _ _ _ _ _ _ (T43.setTop (mkF m 23 #[.val (.ref a1), .val (.int p1)] [(.int (255 : Int32)), (.int x)]))
  refine own_st (fun t k => XS.iand X43.here hx rfl (hb hby own_d7_23) rfl k) ?_
  show own_G _ _ _ _ _ _ _ (T43.setTop (mkF m 24 #[.val (.ref a1), .val (.int p1)] [(.int (x &&& (255 : Int32)))]))
  refine own_st (fun t k => XS.i2c X43.here hx rfl (hb hby own_d7_24) rfl k) ?_
  show own_G _ _ _ _ _ _ _ (T43.setTop (mkF m 25 #[.val (.ref a1), .val (.int p1)] [(.int ((x &&& (255 : Int32)).toUInt32.toUInt16.toUInt32.toInt32))]))
  exact own_retN (t := .char) (by simp) X43 hx Bd.returns (BodyLoose.notSynchronized Bd) (hb hby own_d7_25) (by decide) (by decide) ⟨rfl, N41, e43⟩
theorem own_pn3 : plainName "com/example/gridmargin/gridmargin/csv/ByteTextCharAtPinLaw" = true := by first | (simp [plainName, overriddenIn]; done) | decide +kernel
theorem own_ef0 (m : MethodId) (p1 : Int32) (p2 : Int32) (p3 : Int32) (p4 : Int32) : entryFrame m #[(.int p1), (.int p2), (.int p3), (.int p4)] maxLocals = mkF m 0 #[.val (.int p1), .val (.int p2), .val (.int p3), .val (.int p4), .unset, .unset, .unset, .unset, .unset, .unset, .unset, .unset] [] := by first | (simp [entryFrame, mkF, argsToLocals, Value.category, maxLocals]; done) | rfl
set_option maxRecDepth 65536 in
set_option maxHeartbeats 40000000 in
theorem own_rm0 (l : Launch) (Z : State) (a0 : Array Value) (hw : ∀ d ∈ tables_1, d.before a0 Z = true) (ws : List Jvm.Cond) (p1 p2 p3 p4 : Int32) (h0 : Heap) (n0 : Nat) (Z0 : n0 ≤ h0.size)  :
    MetFree l x (head1 (Jvm.Cond.code x code maxLocals ret :: ws) room_1) (fun a U => a = #[(.int p1), (.int p2), (.int p3), (.int p4)] ∧ Z.Warmed39 U.vm ∧ U.heap = h0) (fun _ _ _ _ _ => True) (fun _ U o U' => ∃ v L, o = .returned v ∧ own_Q0 n0 v U'.heap L ∧ FrameEnd U o U' L room_1.cells room_1.slots) := by
  refine MetFree.of_bodySF (plainFor_of_name own_pn3) hisR ?_
  intro p e s m args below meth c s₁ Bd hml0 hP hK
  obtain ⟨rfl, hZ, hh⟩ := hP
  have hx := Bd.exec
  have hby := Bd.bytes
  have hml : c.maxLocals = 12 := hml0
  have hown : s.vm.findClass "com/example/gridmargin/gridmargin/csv/ByteTextCharAtPinLaw" = some m.cls := findClass_of_methodNamed Bd.named
  have hnm := (name_of_methodNamed Bd.named Bd.method).1
  have X0 : Stand p l e room_1 s m #[(.int p1), (.int p2), (.int p3), (.int p4)] below meth c s₁ [] 0 0 := Stand.of_body Bd
  have e0 : s₁.heap = h0 := by rw [← hh, Bd.state]; rfl
  have N0 := Fr.nil n0
  refine own_in (Q := own_Q0 n0) ?_
  rw [own_ef0]
  show own_G _ _ _ _ _ _ _ (s₁.setTop (mkF m 0 #[.val (.int p1), .val (.int p2), .val (.int p3), .val (.int p4), .unset, .unset, .unset, .unset, .unset, .unset, .unset, .unset] []))
  refine own_st (fun t k => XS.iconst X0.here hx rfl (hb hby at_0) k) ?_
  show own_G _ _ _ _ _ _ _ (s₁.setTop (mkF m 1 #[.val (.int p1), .val (.int p2), .val (.int p3), .val (.int p4), .unset, .unset, .unset, .unset, .unset, .unset, .unset, .unset] [(.int (4 : Int32))]))
  obtain ⟨T44, h44, k44, X44, e44, E44, A44, st44⟩ := newP X0 hx hZ (hw _ (List.mem_of_getElem? (i := 0) rfl)) e0 (g := (mkF m 1 #[.val (.int p1), .val (.int p2), .val (.int p3), .val (.int p4), .unset, .unset, .unset, .unset, .unset, .unset, .unset, .unset] [(.int (4 : Int32))])) rfl (hb hby at_1) rfl (by decide) (cap := 4) (by decide) (by decide) (by decide) (by decide)
  obtain ⟨b1, g44⟩ : ∃ z, z = h0.size := ⟨_, rfl⟩
  rw [← g44] at A44 st44
  refine own_st (fun t k => st44 t k) ?_
  show own_G _ _ _ _ _ _ _ (T44.setTop (mkF m 3 #[.val (.int p1), .val (.int p2), .val (.int p3), .val (.int p4), .unset, .unset, .unset, .unset, .unset, .unset, .unset, .unset] [(.ref b1)]))
  have ge_b1 : n0 ≤ b1 := Nat.le_trans Z0 (Nat.le_of_eq g44.symm)
  have Zz45 : n0 ≤ h44.size := Nat.le_trans Z0 E44.1
  have V_0 : Arv Z h44 b1 k44 .byte 4 [(.int 0), (.int 0), (.int 0), (.int 0)] (.int 0) := (Arv.new A44 (by decide)).pad (pad_rep [] (.int 0) 4)
  refine own_st (fun t k => XS.astore X44.here hx rfl (hb hby at_3) rfl rfl (l' := #[.val (.int p1), .val (.int p2), .val (.int p3), .val (.int p4), .val (.ref b1), .unset, .unset, .unset, .unset, .unset, .unset, .unset]) rfl k) ?_
  show own_G _ _ _ _ _ _ _ (T44.setTop (mkF m 5 #[.val (.int p1), .val (.int p2), .val (.int p3), .val (.int p4), .val (.ref b1), .unset, .unset, .unset, .unset, .unset, .unset, .unset] []))
  refine own_st (fun t k => XS.aload X44.here hx rfl (hb hby at_5) rfl rfl k) ?_
  show own_G _ _ _ _ _ _ _ (T44.setTop (mkF m 7 #[.val (.int p1), .val (.int p2), .val (.int p3), .val (.int p4), .val (.ref b1), .unset, .unset, .unset, .unset, .unset, .unset, .unset] [(.ref b1)]))
  refine own_st (fun t k => XS.iconst X44.here hx rfl (hb hby at_7) k) ?_
  show own_G _ _ _ _ _ _ _ (T44.setTop (mkF m 8 #[.val (.int p1), .val (.int p2), .val (.int p3), .val (.int p4), .val (.ref b1), .unset, .unset, .unset, .unset, .unset, .unset, .unset] [(.int (0 : Int32)), (.ref b1)]))
  refine own_st (fun t k => XS.iloadN X44.here hx rfl (hb hby at_8) rfl k) ?_
  show own_G _ _ _ _ _ _ _ (T44.setTop (mkF m 9 #[.val (.int p1), .val (.int p2), .val (.int p3), .val (.int p4), .val (.ref b1), .unset, .unset, .unset, .unset, .unset, .unset, .unset] [(.int p1), (.int (0 : Int32)), (.ref b1)]))
  refine own_st (fun t k => XS.i2b X44.here hx rfl (hb hby at_9) rfl k) ?_
  show own_G _ _ _ _ _ _ _ (T44.setTop (mkF m 10 #[.val (.int p1), .val (.int p2), .val (.int p3), .val (.int p4), .val (.ref b1), .unset, .unset, .unset, .unset, .unset, .unset, .unset] [(.int (p1.toInt8.toInt32)), (.int (0 : Int32)), (.ref b1)]))
  obtain ⟨cl46, Ar46, q46, S46, M46, H46, G46⟩ := V_0
  have hin46 : ¬ ((0 : Int32) < 0 ∨ cl46.slots.size ≤ ((0 : Int32)).toNatClampNeg) := inb_of S46 ⟨by decide, by decide⟩
  obtain ⟨T47, h47, X47, e47, W47, st47⟩ := Jvm.RoadKit.stB X44 hx hZ e44 Ar46 (j := (0 : Int32)) hin46 (g := (mkF m 10 #[.val (.int p1), .val (.int p2), .val (.int p3), .val (.int p4), .val (.ref b1), .unset, .unset, .unset, .unset, .unset, .unset, .unset] [(.int (p1.toInt8.toInt32)), (.int (0 : Int32)), (.ref b1)])) rfl rfl (hb hby at_10)
  have N47 := Fr.snoc X47 N0 ge_b1
  refine own_st (fun t k => st47 t k) ?_
  show own_G _ _ _ _ _ _ _ (T47.setTop (mkF m 11 #[.val (.int p1), .val (.int p2), .val (.int p3), .val (.int p4), .val (.ref b1), .unset, .unset, .unset, .unset, .unset, .unset, .unset] []))
  have V_47 : Arv Z h47 b1 k44 .byte 4 [(.int (nar .byte (p1.toInt8.toInt32))), (.int 0), (.int 0), (.int 0)] (.int 0) := Arv.set Ar46 q46 S46 M46 H46 G46 (fits_nar_byte _) W47 0 rfl (Nat.le_of_ble_eq_true rfl)
  have Zz48 : n0 ≤ h47.size := Nat.le_trans Zz45 (Keep.of_wr W47).1
  refine own_st (fun t k => XS.aload X47.here hx rfl (hb hby at_11) rfl rfl k) ?_
  show own_G _ _ _ _ _ _ _ (T47.setTop (mkF m 13 #[.val (.int p1), .val (.int p2), .val (.int p3), .val (.int p4), .val (.ref b1), .unset, .unset, .unset, .unset, .unset, .unset, .unset] [(.ref b1)]))
  refine own_st (fun t k => XS.iconst X47.here hx rfl (hb hby at_13) k) ?_
  show own_G _ _ _ _ _ _ _ (T47.setTop (mkF m 14 #[.val (.int p1), .val (.int p2), .val (.int p3), .val (.int p4), .val (.ref b1), .unset, .unset, .unset, .unset, .unset, .unset, .unset] [(.int (1 : Int32)), (.ref b1)]))
  refine own_st (fun t k => XS.iloadN X47.here hx rfl (hb hby at_14) rfl k) ?_
  show own_G _ _ _ _ _ _ _ (T47.setTop (mkF m 15 #[.val (.int p1), .val (.int p2), .val (.int p3), .val (.int p4), .val (.ref b1), .unset, .unset, .unset, .unset, .unset, .unset, .unset] [(.int p1), (.int (1 : Int32)), (.ref b1)]))
  refine own_st (fun t k => XS.bipush X47.here hx rfl (hb hby at_15) k) ?_
  show own_G _ _ _ _ _ _ _ (T47.setTop (mkF m 17 #[.val (.int p1), .val (.int p2), .val (.int p3), .val (.int p4), .val (.ref b1), .unset, .unset, .unset, .unset, .unset, .unset, .unset] [(.int (8 : Int32)), (.int p1), (.int (1 : Int32)), (.ref b1)]))
  refine own_st (fun t k => XS.iushr X47.here hx rfl (hb hby at_17) rfl k) ?_
  show own_G _ _ _ _ _ _ _ (T47.setTop (mkF m 18 #[.val (.int p1), .val (.int p2), .val (.int p3), .val (.int p4), .val (.ref b1), .unset, .unset, .unset, .unset, .unset, .unset, .unset] [(.int ((p1.toUInt32 >>> ((8 : Int32) &&& 31).toUInt32).toInt32)), (.int (1 : Int32)), (.ref b1)]))
  refine own_st (fun t k => XS.i2b X47.here hx rfl (hb hby at_18) rfl k) ?_
  show own_G _ _ _ _ _ _ _ (T47.setTop (mkF m 19 #[.val (.int p1), .val (.int p2), .val (.int p3), .val (.int p4), .val (.ref b1), .unset, .unset, .unset, .unset, .unset, .unset, .unset] [(.int (((p1.toUInt32 >>> ((8 : Int32) &&& 31).toUInt32).toInt32).toInt8.toInt32)), (.int (1 : Int32)), (.ref b1)]))
  obtain ⟨cl49, Ar49, q49, S49, M49, H49, G49⟩ := V_47
  have hin49 : ¬ ((1 : Int32) < 0 ∨ cl49.slots.size ≤ ((1 : Int32)).toNatClampNeg) := inb_of S49 ⟨by decide, by decide⟩
  obtain ⟨T50, h50, X50, e50, W50, st50⟩ := Jvm.RoadKit.stB X47 hx hZ e47 Ar49 (j := (1 : Int32)) hin49 (g := (mkF m 19 #[.val (.int p1), .val (.int p2), .val (.int p3), .val (.int p4), .val (.ref b1), .unset, .unset, .unset, .unset, .unset, .unset, .unset] [(.int (((p1.toUInt32 >>> ((8 : Int32) &&& 31).toUInt32).toInt32).toInt8.toInt32)), (.int (1 : Int32)), (.ref b1)])) rfl rfl (hb hby at_19)
  have N50 := Fr.snoc X50 N47 ge_b1
  refine own_st (fun t k => st50 t k) ?_
  show own_G _ _ _ _ _ _ _ (T50.setTop (mkF m 20 #[.val (.int p1), .val (.int p2), .val (.int p3), .val (.int p4), .val (.ref b1), .unset, .unset, .unset, .unset, .unset, .unset, .unset] []))
  have V_50 : Arv Z h50 b1 k44 .byte 4 [(.int (nar .byte (p1.toInt8.toInt32))), (.int (nar .byte (((p1.toUInt32 >>> ((8 : Int32) &&& 31).toUInt32).toInt32).toInt8.toInt32))), (.int 0), (.int 0)] (.int 0) := Arv.set Ar49 q49 S49 M49 H49 G49 (fits_nar_byte _) W50 1 rfl (Nat.le_of_ble_eq_true rfl)
  have Zz51 : n0 ≤ h50.size := Nat.le_trans Zz48 (Keep.of_wr W50).1
  refine own_st (fun t k => XS.aload X50.here hx rfl (hb hby at_20) rfl rfl k) ?_
  show own_G _ _ _ _ _ _ _ (T50.setTop (mkF m 22 #[.val (.int p1), .val (.int p2), .val (.int p3), .val (.int p4), .val (.ref b1), .unset, .unset, .unset, .unset, .unset, .unset, .unset] [(.ref b1)]))
  refine own_st (fun t k => XS.iconst X50.here hx rfl (hb hby at_22) k) ?_
  show own_G _ _ _ _ _ _ _ (T50.setTop (mkF m 23 #[.val (.int p1), .val (.int p2), .val (.int p3), .val (.int p4), .val (.ref b1), .unset, .unset, .unset, .unset, .unset, .unset, .unset] [(.int (2 : Int32)), (.ref b1)]))
  refine own_st (fun t k => XS.iloadN X50.here hx rfl (hb hby at_23) rfl k) ?_
  show own_G _ _ _ _ _ _ _ (T50.setTop (mkF m 24 #[.val (.int p1), .val (.int p2), .val (.int p3), .val (.int p4), .val (.ref b1), .unset, .unset, .unset, .unset, .unset, .unset, .unset] [(.int p1), (.int (2 : Int32)), (.ref b1)]))
  refine own_st (fun t k => XS.bipush X50.here hx rfl (hb hby at_24) k) ?_
  show own_G _ _ _ _ _ _ _ (T50.setTop (mkF m 26 #[.val (.int p1), .val (.int p2), .val (.int p3), .val (.int p4), .val (.ref b1), .unset, .unset, .unset, .unset, .unset, .unset, .unset] [(.int (16 : Int32)), (.int p1), (.int (2 : Int32)), (.ref b1)]))
  refine own_st (fun t k => XS.iushr X50.here hx rfl (hb hby at_26) rfl k) ?_
  show own_G _ _ _ _ _ _ _ (T50.setTop (mkF m 27 #[.val (.int p1), .val (.int p2), .val (.int p3), .val (.int p4), .val (.ref b1), .unset, .unset, .unset, .unset, .unset, .unset, .unset] [(.int ((p1.toUInt32 >>> ((16 : Int32) &&& 31).toUInt32).toInt32)), (.int (2 : Int32)), (.ref b1)]))
  refine own_st (fun t k => XS.i2b X50.here hx rfl (hb hby at_27) rfl k) ?_
  show own_G _ _ _ _ _ _ _ (T50.setTop (mkF m 28 #[.val (.int p1), .val (.int p2), .val (.int p3), .val (.int p4), .val (.ref b1), .unset, .unset, .unset, .unset, .unset, .unset, .unset] [(.int (((p1.toUInt32 >>> ((16 : Int32) &&& 31).toUInt32).toInt32).toInt8.toInt32)), (.int (2 : Int32)), (.ref b1)]))
  obtain ⟨cl52, Ar52, q52, S52, M52, H52, G52⟩ := V_50
  have hin52 : ¬ ((2 : Int32) < 0 ∨ cl52.slots.size ≤ ((2 : Int32)).toNatClampNeg) := inb_of S52 ⟨by decide, by decide⟩
  obtain ⟨T53, h53, X53, e53, W53, st53⟩ := Jvm.RoadKit.stB X50 hx hZ e50 Ar52 (j := (2 : Int32)) hin52 (g := (mkF m 28 #[.val (.int p1), .val (.int p2), .val (.int p3), .val (.int p4), .val (.ref b1), .unset, .unset, .unset, .unset, .unset, .unset, .unset] [(.int (((p1.toUInt32 >>> ((16 : Int32) &&& 31).toUInt32).toInt32).toInt8.toInt32)), (.int (2 : Int32)), (.ref b1)])) rfl rfl (hb hby at_28)
  have N53 := Fr.snoc X53 N50 ge_b1
  refine own_st (fun t k => st53 t k) ?_
  show own_G _ _ _ _ _ _ _ (T53.setTop (mkF m 29 #[.val (.int p1), .val (.int p2), .val (.int p3), .val (.int p4), .val (.ref b1), .unset, .unset, .unset, .unset, .unset, .unset, .unset] []))
  have V_53 : Arv Z h53 b1 k44 .byte 4 [(.int (nar .byte (p1.toInt8.toInt32))), (.int (nar .byte (((p1.toUInt32 >>> ((8 : Int32) &&& 31).toUInt32).toInt32).toInt8.toInt32))), (.int (nar .byte (((p1.toUInt32 >>> ((16 : Int32) &&& 31).toUInt32).toInt32).toInt8.toInt32))), (.int 0)] (.int 0) := Arv.set Ar52 q52 S52 M52 H52 G52 (fits_nar_byte _) W53 2 rfl (Nat.le_of_ble_eq_true rfl)
  have Zz54 : n0 ≤ h53.size := Nat.le_trans Zz51 (Keep.of_wr W53).1
  refine own_st (fun t k => XS.aload X53.here hx rfl (hb hby at_29) rfl rfl k) ?_
  show own_G _ _ _ _ _ _ _ (T53.setTop (mkF m 31 #[.val (.int p1), .val (.int p2), .val (.int p3), .val (.int p4), .val (.ref b1), .unset, .unset, .unset, .unset, .unset, .unset, .unset] [(.ref b1)]))
  refine own_st (fun t k => XS.iconst X53.here hx rfl (hb hby at_31) k) ?_
  show own_G _ _ _ _ _ _ _ (T53.setTop (mkF m 32 #[.val (.int p1), .val (.int p2), .val (.int p3), .val (.int p4), .val (.ref b1), .unset, .unset, .unset, .unset, .unset, .unset, .unset] [(.int (3 : Int32)), (.ref b1)]))
  refine own_st (fun t k => XS.iloadN X53.here hx rfl (hb hby at_32) rfl k) ?_
  show own_G _ _ _ _ _ _ _ (T53.setTop (mkF m 33 #[.val (.int p1), .val (.int p2), .val (.int p3), .val (.int p4), .val (.ref b1), .unset, .unset, .unset, .unset, .unset, .unset, .unset] [(.int p1), (.int (3 : Int32)), (.ref b1)]))
  refine own_st (fun t k => XS.bipush X53.here hx rfl (hb hby at_33) k) ?_
  show own_G _ _ _ _ _ _ _ (T53.setTop (mkF m 35 #[.val (.int p1), .val (.int p2), .val (.int p3), .val (.int p4), .val (.ref b1), .unset, .unset, .unset, .unset, .unset, .unset, .unset] [(.int (24 : Int32)), (.int p1), (.int (3 : Int32)), (.ref b1)]))
  refine own_st (fun t k => XS.iushr X53.here hx rfl (hb hby at_35) rfl k) ?_
  show own_G _ _ _ _ _ _ _ (T53.setTop (mkF m 36 #[.val (.int p1), .val (.int p2), .val (.int p3), .val (.int p4), .val (.ref b1), .unset, .unset, .unset, .unset, .unset, .unset, .unset] [(.int ((p1.toUInt32 >>> ((24 : Int32) &&& 31).toUInt32).toInt32)), (.int (3 : Int32)), (.ref b1)]))
  refine own_st (fun t k => XS.i2b X53.here hx rfl (hb hby at_36) rfl k) ?_
  show own_G _ _ _ _ _ _ _ (T53.setTop (mkF m 37 #[.val (.int p1), .val (.int p2), .val (.int p3), .val (.int p4), .val (.ref b1), .unset, .unset, .unset, .unset, .unset, .unset, .unset] [(.int (((p1.toUInt32 >>> ((24 : Int32) &&& 31).toUInt32).toInt32).toInt8.toInt32)), (.int (3 : Int32)), (.ref b1)]))
  obtain ⟨cl55, Ar55, q55, S55, M55, H55, G55⟩ := V_53
  have hin55 : ¬ ((3 : Int32) < 0 ∨ cl55.slots.size ≤ ((3 : Int32)).toNatClampNeg) := inb_of S55 ⟨by decide, by decide⟩
  obtain ⟨T56, h56, X56, e56, W56, st56⟩ := Jvm.RoadKit.stB X53 hx hZ e53 Ar55 (j := (3 : Int32)) hin55 (g := (mkF m 37 #[.val (.int p1), .val (.int p2), .val (.int p3), .val (.int p4), .val (.ref b1), .unset, .unset, .unset, .unset, .unset, .unset, .unset] [(.int (((p1.toUInt32 >>> ((24 : Int32) &&& 31).toUInt32).toInt32).toInt8.toInt32)), (.int (3 : Int32)), (.ref b1)])) rfl rfl (hb hby at_37)
  have N56 := Fr.snoc X56 N53 ge_b1
  refine own_st (fun t k => st56 t k) ?_
  show own_G _ _ _ _ _ _ _ (T56.setTop (mkF m 38 #[.val (.int p1), .val (.int p2), .val (.int p3), .val (.int p4), .val (.ref b1), .unset, .unset, .unset, .unset, .unset, .unset, .unset] []))
  have V_56 : Arv Z h56 b1 k44 .byte 4 [(.int (nar .byte (p1.toInt8.toInt32))), (.int (nar .byte (((p1.toUInt32 >>> ((8 : Int32) &&& 31).toUInt32).toInt32).toInt8.toInt32))), (.int (nar .byte (((p1.toUInt32 >>> ((16 : Int32) &&& 31).toUInt32).toInt32).toInt8.toInt32))), (.int (nar .byte (((p1.toUInt32 >>> ((24 : Int32) &&& 31).toUInt32).toInt32).toInt8.toInt32)))] (.int 0) := Arv.set Ar55 q55 S55 M55 H55 G55 (fits_nar_byte _) W56 3 rfl (Nat.le_of_ble_eq_true rfl)
  have Zz57 : n0 ≤ h56.size := Nat.le_trans Zz54 (Keep.of_wr W56).1
  refine own_st (fun t k => XS.iloadN X56.here hx rfl (hb hby at_38) rfl k) ?_
  show own_G _ _ _ _ _ _ _ (T56.setTop (mkF m 39 #[.val (.int p1), .val (.int p2), .val (.int p3), .val (.int p4), .val (.ref b1), .unset, .unset, .unset, .unset, .unset, .unset, .unset] [(.int p2)]))
  refine own_st (fun t k => XS.iconst X56.here hx rfl (hb hby at_39) k) ?_
  show own_G _ _ _ _ _ _ _ (T56.setTop (mkF m 40 #[.val (.int p1), .val (.int p2), .val (.int p3), .val (.int p4), .val (.ref b1), .unset, .unset, .unset, .unset, .unset, .unset, .unset] [(.int (3 : Int32)), (.int p2)]))
  refine own_st (fun t k => XS.iand X56.here hx rfl (hb hby at_40) rfl k) ?_
  show own_G _ _ _ _ _ _ _ (T56.setTop (mkF m 41 #[.val (.int p1), .val (.int p2), .val (.int p3), .val (.int p4), .val (.ref b1), .unset, .unset, .unset, .unset, .unset, .unset, .unset] [(.int (p2 &&& (3 : Int32)))]))
  have hst := own_st3 p2
  generalize (p2 &&& (3 : Int32)) = st at hst ⊢
  show own_G _ _ _ _ _ _ _ (T56.setTop (mkF m 41 #[.val (.int p1), .val (.int p2), .val (.int p3), .val (.int p4), .val (.ref b1), .unset, .unset, .unset, .unset, .unset, .unset, .unset] [(.int st)]))
  obtain ⟨hnz, hl1, hl2, hl3⟩ := own_ln8 st p3 hst
  refine own_st (fun t k => XS.istore X56.here hx rfl (hb hby at_41) rfl (l' := #[.val (.int p1), .val (.int p2), .val (.int p3), .val (.int p4), .val (.ref b1), .val (.int st), .unset, .unset, .unset, .unset, .unset, .unset]) rfl k) ?_
  show own_G _ _ _ _ _ _ _ (T56.setTop (mkF m 43 #[.val (.int p1), .val (.int p2), .val (.int p3), .val (.int p4), .val (.ref b1), .val (.int st), .unset, .unset, .unset, .unset, .unset, .unset] []))
  refine own_st (fun t k => XS.iconst X56.here hx rfl (hb hby at_43) k) ?_
  show own_G _ _ _ _ _ _ _ (T56.setTop (mkF m 44 #[.val (.int p1), .val (.int p2), .val (.int p3), .val (.int p4), .val (.ref b1), .val (.int st), .unset, .unset, .unset, .unset, .unset, .unset] [(.int (1 : Int32))]))
  refine own_st (fun t k => XS.iloadN X56.here hx rfl (hb hby at_44) rfl k) ?_
  show own_G _ _ _ _ _ _ _ (T56.setTop (mkF m 45 #[.val (.int p1), .val (.int p2), .val (.int p3), .val (.int p4), .val (.ref b1), .val (.int st), .unset, .unset, .unset, .unset, .unset, .unset] [(.int p3), (.int (1 : Int32))]))
  refine own_st (fun t k => X56.ldcInt hx hown (mvT hZ (hw _ (List.mem_of_getElem? (i := 1) rfl))) (g := (mkF m 45 #[.val (.int p1), .val (.int p2), .val (.int p3), .val (.int p4), .val (.ref b1), .val (.int st), .unset, .unset, .unset, .unset, .unset, .unset] [(.int p3), (.int (1 : Int32))])) rfl (hb hby at_45) t k) ?_
  show own_G _ _ _ _ _ _ _ (T56.setTop (mkF m 47 #[.val (.int p1), .val (.int p2), .val (.int p3), .val (.int p4), .val (.ref b1), .val (.int st), .unset, .unset, .unset, .unset, .unset, .unset] [(.int (2147483647 : Int32)), (.int p3), (.int (1 : Int32))]))
  refine own_st (fun t k => XS.iand X56.here hx rfl (hb hby at_47) rfl k) ?_
  show own_G _ _ _ _ _ _ _ (T56.setTop (mkF m 48 #[.val (.int p1), .val (.int p2), .val (.int p3), .val (.int p4), .val (.ref b1), .val (.int st), .unset, .unset, .unset, .unset, .unset, .unset] [(.int (p3 &&& (2147483647 : Int32))), (.int (1 : Int32))]))
  refine own_st (fun t k => XS.iconst X56.here hx rfl (hb hby at_48) k) ?_
  show own_G _ _ _ _ _ _ _ (T56.setTop (mkF m 49 #[.val (.int p1), .val (.int p2), .val (.int p3), .val (.int p4), .val (.ref b1), .val (.int st), .unset, .unset, .unset, .unset, .unset, .unset] [(.int (4 : Int32)), (.int (p3 &&& (2147483647 : Int32))), (.int (1 : Int32))]))
  refine own_st (fun t k => XS.iload X56.here hx rfl (hb hby at_49) rfl k) ?_
  show own_G _ _ _ _ _ _ _ (T56.setTop (mkF m 51 #[.val (.int p1), .val (.int p2), .val (.int p3), .val (.int p4), .val (.ref b1), .val (.int st), .unset, .unset, .unset, .unset, .unset, .unset] [(.int st), (.int (4 : Int32)), (.int (p3 &&& (2147483647 : Int32))), (.int (1 : Int32))]))
  refine own_st (fun t k => XS.isub X56.here hx rfl (hb hby at_51) rfl k) ?_
  show own_G _ _ _ _ _ _ _ (T56.setTop (mkF m 52 #[.val (.int p1), .val (.int p2), .val (.int p3), .val (.int p4), .val (.ref b1), .val (.int st), .unset, .unset, .unset, .unset, .unset, .unset] [(.int ((4 : Int32) - st)), (.int (p3 &&& (2147483647 : Int32))), (.int (1 : Int32))]))
  refine own_st (fun t k => iremM X56 hx rfl (hb hby at_52) rfl hnz k) ?_
  show own_G _ _ _ _ _ _ _ (T56.setTop (mkF m 53 #[.val (.int p1), .val (.int p2), .val (.int p3), .val (.int p4), .val (.ref b1), .val (.int st), .unset, .unset, .unset, .unset, .unset, .unset] [(.int ((p3 &&& (2147483647 : Int32)) % ((4 : Int32) - st))), (.int (1 : Int32))]))
  refine own_st (fun t k => XS.iadd X56.here hx rfl (hb hby at_53) rfl k) ?_
  show own_G _ _ _ _ _ _ _ (T56.setTop (mkF m 54 #[.val (.int p1), .val (.int p2), .val (.int p3), .val (.int p4), .val (.ref b1), .val (.int st), .unset, .unset, .unset, .unset, .unset, .unset] [(.int ((1 : Int32) + ((p3 &&& (2147483647 : Int32)) % ((4 : Int32) - st))))]))
  generalize ((1 : Int32) + ((p3 &&& (2147483647 : Int32)) % ((4 : Int32) - st))) = ln at hl1 hl2 ⊢
  show own_G _ _ _ _ _ _ _ (T56.setTop (mkF m 54 #[.val (.int p1), .val (.int p2), .val (.int p3), .val (.int p4), .val (.ref b1), .val (.int st), .unset, .unset, .unset, .unset, .unset, .unset] [(.int ln)]))
  obtain ⟨hnz2, hx1, hx2⟩ := own_ix p4 ln hl1
  refine own_st (fun t k => XS.istore X56.here hx rfl (hb hby at_54) rfl (l' := #[.val (.int p1), .val (.int p2), .val (.int p3), .val (.int p4), .val (.ref b1), .val (.int st), .val (.int ln), .unset, .unset, .unset, .unset, .unset]) rfl k) ?_
  show own_G _ _ _ _ _ _ _ (T56.setTop (mkF m 56 #[.val (.int p1), .val (.int p2), .val (.int p3), .val (.int p4), .val (.ref b1), .val (.int st), .val (.int ln), .unset, .unset, .unset, .unset, .unset] []))
  refine own_st (fun t k => XS.iloadN X56.here hx rfl (hb hby at_56) rfl k) ?_
  show own_G _ _ _ _ _ _ _ (T56.setTop (mkF m 57 #[.val (.int p1), .val (.int p2), .val (.int p3), .val (.int p4), .val (.ref b1), .val (.int st), .val (.int ln), .unset, .unset, .unset, .unset, .unset] [(.int p4)]))
  refine own_st (fun t k => X56.ldcInt hx hown (mvT hZ (hw _ (List.mem_of_getElem? (i := 1) rfl))) (g := (mkF m 57 #[.val (.int p1), .val (.int p2), .val (.int p3), .val (.int p4), .val (.ref b1), .val (.int st), .val (.int ln), .unset, .unset, .unset, .unset, .unset] [(.int p4)])) rfl (hb hby at_57) t k) ?_
  show own_G _ _ _ _ _ _ _ (T56.setTop (mkF m 59 #[.val (.int p1), .val (.int p2), .val (.int p3), .val (.int p4), .val (.ref b1), .val (.int st), .val (.int ln), .unset, .unset, .unset, .unset, .unset] [(.int (2147483647 : Int32)), (.int p4)]))
  refine own_st (fun t k => XS.iand X56.here hx rfl (hb hby at_59) rfl k) ?_
  show own_G _ _ _ _ _ _ _ (T56.setTop (mkF m 60 #[.val (.int p1), .val (.int p2), .val (.int p3), .val (.int p4), .val (.ref b1), .val (.int st), .val (.int ln), .unset, .unset, .unset, .unset, .unset] [(.int (p4 &&& (2147483647 : Int32)))]))
  refine own_st (fun t k => XS.iload X56.here hx rfl (hb hby at_60) rfl k) ?_
  show own_G _ _ _ _ _ _ _ (T56.setTop (mkF m 62 #[.val (.int p1), .val (.int p2), .val (.int p3), .val (.int p4), .val (.ref b1), .val (.int st), .val (.int ln), .unset, .unset, .unset, .unset, .unset] [(.int ln), (.int (p4 &&& (2147483647 : Int32)))]))
  refine own_st (fun t k => iremM X56 hx rfl (hb hby at_62) rfl hnz2 k) ?_
  show own_G _ _ _ _ _ _ _ (T56.setTop (mkF m 63 #[.val (.int p1), .val (.int p2), .val (.int p3), .val (.int p4), .val (.ref b1), .val (.int st), .val (.int ln), .unset, .unset, .unset, .unset, .unset] [(.int ((p4 &&& (2147483647 : Int32)) % ln))]))
  generalize ((p4 &&& (2147483647 : Int32)) % ln) = ix at hx1 hx2 ⊢
  show own_G _ _ _ _ _ _ _ (T56.setTop (mkF m 63 #[.val (.int p1), .val (.int p2), .val (.int p3), .val (.int p4), .val (.ref b1), .val (.int st), .val (.int ln), .unset, .unset, .unset, .unset, .unset] [(.int ix)]))
  refine own_st (fun t k => XS.istore X56.here hx rfl (hb hby at_63) rfl (l' := #[.val (.int p1), .val (.int p2), .val (.int p3), .val (.int p4), .val (.ref b1), .val (.int st), .val (.int ln), .val (.int ix), .unset, .unset, .unset, .unset]) rfl k) ?_
  show own_G _ _ _ _ _ _ _ (T56.setTop (mkF m 65 #[.val (.int p1), .val (.int p2), .val (.int p3), .val (.int p4), .val (.ref b1), .val (.int st), .val (.int ln), .val (.int ix), .unset, .unset, .unset, .unset] []))
  obtain ⟨T58, h58, X58, e58, E58, A58, D58, -, st58⟩ := newO X56 hx hZ hown (hw _ (List.mem_of_getElem? (i := 2) rfl)) (hw _ (List.mem_of_getElem? (i := 3) rfl)) (hw _ (List.mem_of_getElem? (i := 4) rfl)) e56 (g := (mkF m 65 #[.val (.int p1), .val (.int p2), .val (.int p3), .val (.int p4), .val (.ref b1), .val (.int st), .val (.int ln), .val (.int ix), .unset, .unset, .unset, .unset] [])) rfl (hb hby at_65) (by decide) (by decide)
  obtain ⟨b2, g58⟩ : ∃ z, z = h56.size := ⟨_, rfl⟩
  rw [← g58] at A58 D58 st58
  refine own_st (fun t k => st58 t k) ?_
  show own_G _ _ _ _ _ _ _ (T58.setTop (mkF m 68 #[.val (.int p1), .val (.int p2), .val (.int p3), .val (.int p4), .val (.ref b1), .val (.int st), .val (.int ln), .val (.int ix), .unset, .unset, .unset, .unset] [(.ref b2)]))
  have ge_b2 : n0 ≤ b2 := Nat.le_trans Zz57 (Nat.le_of_eq g58.symm)
  have ne_b1_b2 : b1 ≠ b2 := Nat.ne_of_lt (Nat.lt_of_lt_of_le V_56.lt (Nat.le_of_eq g58.symm))
  have V_59 := V_56.ext E58
  have Zz60 : n0 ≤ h58.size := Nat.le_trans Zz57 E58.1
  have Fb : Fld Z h58 b2 "com/example/gridmargin/gridmargin/csv/ByteText" "bytes" "[B" .null := D58 (Or.inl (hw _ (List.mem_of_getElem? (i := 12) rfl))) (ty := .array .byte) (by decide)
  have Fs : Fld Z h58 b2 "com/example/gridmargin/gridmargin/csv/ByteText" "start" "I" (.int 0) := D58 (Or.inl (hw _ (List.mem_of_getElem? (i := 27) rfl))) (ty := .int) (by decide)
  have Fl : Fld Z h58 b2 "com/example/gridmargin/gridmargin/csv/ByteText" "length" "I" (.int 0) := D58 (Or.inl (hw _ (List.mem_of_getElem? (i := 29) rfl))) (ty := .int) (by decide)
  refine own_st (fun t k => XS.dup X58.here hx rfl (hb hby at_68) rfl rfl k) ?_
  show own_G _ _ _ _ _ _ _ (T58.setTop (mkF m 69 #[.val (.int p1), .val (.int p2), .val (.int p3), .val (.int p4), .val (.ref b1), .val (.int st), .val (.int ln), .val (.int ix), .unset, .unset, .unset, .unset] [(.ref b2), (.ref b2)]))
  obtain ⟨_, _, ⟨T61, L61, k61, n61⟩, -, X61, ⟨Lc61, hQ61, l61, y61, z61⟩, st61⟩ := X58.specialBack hx (y := (⟨"com/example/gridmargin/gridmargin/csv/ByteText", "<init>", "()V"⟩ : MethodName)) rfl hown (mvT hZ (hw _ (List.mem_of_getElem? (i := 5) rfl))) (mvT hZ (hw _ (List.mem_of_getElem? (i := 6) rfl))) (mvT hZ (hw _ (List.mem_of_getElem? (i := 7) rfl))) (by decide) (backOf (W := 1) (own_rm5 l Z a0 hw [] b2 h58 n0 Zz60 A58 Fb Fs Fl ge_b2) hZ (hw _ (List.mem_of_getElem? (i := 7) rfl)) (hw _ (List.mem_of_getElem? (i := 4) rfl)) (by decide) (by decide)) (g := (mkF m 69 #[.val (.int p1), .val (.int p2), .val (.int p3), .val (.int p4), .val (.ref b1), .val (.int st), .val (.int ln), .val (.int ix), .unset, .unset, .unset, .unset] [(.ref b2), (.ref b2)])) rfl (by rw [hml]; rfl) (Steps.refl _) (a := b2) (argsL := []) (rest := [(.ref b2)]) (lenOf own_pd4 rfl) rfl (by show 2 * 0 + _ ≤ _; exact Nat.le_of_eq rfl) (hb hby at_69) (fun _ _ => ⟨rfl, e58, (by decide : 2 + 1 ≤ _), (by decide : 7 + 0 ≤ _)⟩)
  dsimp only [Pt.U, Pt.locs, Pt.cells, Pt.slots] at X61 l61 y61 z61 st61 hQ61
  subst l61 y61 z61
  obtain ⟨rfl, N61q, K61, Ax61, t61, Fb61, Fs61, Fl61⟩ := hQ61
  have N61 := Fr.app N56 N61q
  refine own_st (fun t k => st61.trans k) ?_
  show own_G _ _ _ _ _ _ _ (T61.setTop (mkF m 72 #[.val (.int p1), .val (.int p2), .val (.int p3), .val (.int p4), .val (.ref b1), .val (.int st), .val (.int ln), .val (.int ix), .unset, .unset, .unset, .unset] [(.ref b2)]))
  have V_62 := V_59.keep K61 (ninS ne_b1_b2 nin0)
  have Zz63 : n0 ≤ _ := Nat.le_trans Zz60 K61.1
  refine own_st (fun t k => XS.aload X61.here hx rfl (hb hby at_72) rfl rfl k) ?_
  show own_G _ _ _ _ _ _ _ (T61.setTop (mkF m 74 #[.val (.int p1), .val (.int p2), .val (.int p3), .val (.int p4), .val (.ref b1), .val (.int st), .val (.int ln), .val (.int ix), .unset, .unset, .unset, .unset] [(.ref b1), (.ref b2)]))
  refine own_st (fun t k => XS.iload X61.here hx rfl (hb hby at_74) rfl k) ?_
  show own_G _ _ _ _ _ _ _ (T61.setTop (mkF m 76 #[.val (.int p1), .val (.int p2), .val (.int p3), .val (.int p4), .val (.ref b1), .val (.int st), .val (.int ln), .val (.int ix), .unset, .unset, .unset, .unset] [(.int st), (.ref b1), (.ref b2)]))
  refine own_st (fun t k => XS.iload X61.here hx rfl (hb hby at_76) rfl k) ?_
  show own_G _ _ _ _ _ _ _ (T61.setTop (mkF m 78 #[.val (.int p1), .val (.int p2), .val (.int p3), .val (.int p4), .val (.ref b1), .val (.int st), .val (.int ln), .val (.int ix), .unset, .unset, .unset, .unset] [(.int ln), (.int st), (.ref b1), (.ref b2)]))
  have hi := own_or st ln hst.1 (by omega)
  have hj : ¬ (4 - st) < ln := by rw [Int32.lt_iff_toInt_lt, hl3]; omega
  obtain ⟨cq64, kq64, q64a, q64b, q64c⟩ := isOf hZ rfl Ax61
  obtain ⟨_, _, ⟨T64, L64, k64, n64⟩, -, X64, ⟨Lc64, hQ64, l64, y64, z64⟩, st64⟩ := X61.virtualBack hx (y := (⟨"com/example/gridmargin/gridmargin/csv/ByteText", "of", "([BII)Lcom/example/gridmargin/gridmargin/csv/ByteText;"⟩ : MethodName)) (z := (⟨"com/example/gridmargin/gridmargin/csv/ByteText", "of", "([BII)Lcom/example/gridmargin/gridmargin/csv/ByteText;"⟩ : MethodName)) hown (mvT hZ (hw _ (List.mem_of_getElem? (i := 13) rfl))) (mvT hZ (hw _ (List.mem_of_getElem? (i := 14) rfl))) (notFace_of_selects (args := #[]) (mvT hZ (hw _ (List.mem_of_getElem? (i := 16) rfl)))) (mvT hZ (hw _ (List.mem_of_getElem? (i := 16) rfl))) (mvT hZ (hw _ (List.mem_of_getElem? (i := 15) rfl))) (by decide) (backOf (W := 0) (own_rm6 l Z a0 hw [] b2 b1 st ln t61 k44 _ _ T61.heap n0 Zz63 Ax61 Fb61 Fs61 Fl61 ge_b2 V_62 hi hj) hZ (hw _ (List.mem_of_getElem? (i := 17) rfl)) (hw _ (List.mem_of_getElem? (i := 4) rfl)) (by decide) (by decide)) q64a q64c (g := (mkF m 78 #[.val (.int p1), .val (.int p2), .val (.int p3), .val (.int p4), .val (.ref b1), .val (.int st), .val (.int ln), .val (.int ix), .unset, .unset, .unset, .unset] [(.int ln), (.int st), (.ref b1), (.ref b2)])) rfl (by rw [hml]; rfl) (Steps.refl _) (argsL := [(.ref b1), (.int st), (.int ln)]) (rest := []) (lenOf own_pd5 rfl) rfl (by show 2 * 0 + _ ≤ _; exact Nat.le_of_eq rfl) (hb hby at_78) (fun _ _ => ⟨rfl, rfl, (by decide : 3 + 0 ≤ _), (by decide : 7 + 0 ≤ _)⟩)
  dsimp only [Pt.U, Pt.locs, Pt.cells, Pt.slots] at X64 l64 y64 z64 st64 hQ64
  subst l64 y64 z64
  obtain ⟨rfl, N64q, K64, Fb64, Fs64, Fl64⟩ := hQ64
  have N64 := Fr.app N61 N64q
  refine own_st (fun t k => st64.trans k) ?_
  show own_G _ _ _ _ _ _ _ (T64.setTop (mkF m 81 #[.val (.int p1), .val (.int p2), .val (.int p3), .val (.int p4), .val (.ref b1), .val (.int st), .val (.int ln), .val (.int ix), .unset, .unset, .unset, .unset] [(.ref b2)]))
  have V_65 := V_62.keep K64 (ninS ne_b1_b2 nin0)
  have E_66 := Ax61.keep K64
  have Zz67 : n0 ≤ _ := Nat.le_trans Zz63 K64.1
  refine own_st (fun t k => XS.astore X64.here hx rfl (hb hby at_81) rfl rfl (l' := #[.val (.int p1), .val (.int p2), .val (.int p3), .val (.int p4), .val (.ref b1), .val (.int st), .val (.int ln), .val (.int ix), .val (.ref b2), .unset, .unset, .unset]) rfl k) ?_
  show own_G _ _ _ _ _ _ _ (T64.setTop (mkF m 83 #[.val (.int p1), .val (.int p2), .val (.int p3), .val (.int p4), .val (.ref b1), .val (.int st), .val (.int ln), .val (.int ix), .val (.ref b2), .unset, .unset, .unset] []))
  refine own_st (fun t k => XS.aload X64.here hx rfl (hb hby at_83) rfl rfl k) ?_
  show own_G _ _ _ _ _ _ _ (T64.setTop (mkF m 85 #[.val (.int p1), .val (.int p2), .val (.int p3), .val (.int p4), .val (.ref b1), .val (.int st), .val (.int ln), .val (.int ix), .val (.ref b2), .unset, .unset, .unset] [(.ref b2)]))
  refine own_st (fun t k => XS.iload X64.here hx rfl (hb hby at_85) rfl k) ?_
  show own_G _ _ _ _ _ _ _ (T64.setTop (mkF m 87 #[.val (.int p1), .val (.int p2), .val (.int p3), .val (.int p4), .val (.ref b1), .val (.int st), .val (.int ln), .val (.int ix), .val (.ref b2), .unset, .unset, .unset] [(.int ix), (.ref b2)]))
  obtain ⟨cl68, Ar68, q68, S68, M68, H68, G68⟩ := V_65
  have ha : (st + ix).toInt = st.toInt + ix.toInt := Jvm.Kit.i32_add (by omega) (by omega)
  have h4 := own_four (st + ix) (by omega) (by omega)
  have hin : ¬ (st + ix < 0 ∨ cl68.slots.size ≤ (st + ix).toNatClampNeg) := inb_of S68 (own_rng h4)
  have hat := Has.at H68 hin (own_getx p1 h4)
  have hi2 := own_lt0 hx1
  have hj2 : ix < ln := by rw [Int32.lt_iff_toInt_lt]; omega
  obtain ⟨cq69, kq69, q69a, q69b, q69c⟩ := isOf hZ rfl E_66
  obtain ⟨_, _, ⟨T69, L69, k69, n69⟩, -, X69, ⟨Lc69, hQ69, l69, y69, z69⟩, st69⟩ := X64.virtualBack hx (y := (⟨"com/example/gridmargin/gridmargin/csv/ByteText", "charAt", "(I)C"⟩ : MethodName)) (z := (⟨"com/example/gridmargin/gridmargin/csv/ByteText", "charAt", "(I)C"⟩ : MethodName)) hown (mvT hZ (hw _ (List.mem_of_getElem? (i := 30) rfl))) (mvT hZ (hw _ (List.mem_of_getElem? (i := 31) rfl))) (notFace_of_selects (args := #[]) (mvT hZ (hw _ (List.mem_of_getElem? (i := 33) rfl)))) (mvT hZ (hw _ (List.mem_of_getElem? (i := 33) rfl))) (mvT hZ (hw _ (List.mem_of_getElem? (i := 32) rfl))) (by decide) (backOf (W := 0) (own_rm7 l Z a0 hw [] b2 ix b1 st ln (own_x p1 (st + ix)) cl68 T64.heap n0 Zz67 Fb64 Fs64 Fl64 hi2 hj2 Ar68 hin hat) hZ (hw _ (List.mem_of_getElem? (i := 34) rfl)) (hw _ (List.mem_of_getElem? (i := 4) rfl)) (by decide) (by decide)) q69a q69c (g := (mkF m 87 #[.val (.int p1), .val (.int p2), .val (.int p3), .val (.int p4), .val (.ref b1), .val (.int st), .val (.int ln), .val (.int ix), .val (.ref b2), .unset, .unset, .unset] [(.int ix), (.ref b2)])) rfl (by rw [hml]; rfl) (Steps.refl _) (argsL := [(.int ix)]) (rest := []) (lenOf own_pd6 rfl) rfl (by show 2 * 0 + _ ≤ _; exact Nat.le_of_eq rfl) (hb hby at_87) (fun _ _ => ⟨rfl, rfl, (by decide : 3 + 0 ≤ _), (by decide : 7 + 0 ≤ _)⟩)
  dsimp only [Pt.U, Pt.locs, Pt.cells, Pt.slots] at X69 l69 y69 z69 st69 hQ69
  subst l69 y69 z69
  obtain ⟨rfl, N69q, e69⟩ := hQ69
  have N69 := Fr.app N64 N69q
  refine own_st (fun t k => st69.trans k) ?_
  show own_G _ _ _ _ _ _ _ (T69.setTop (mkF m 90 #[.val (.int p1), .val (.int p2), .val (.int p3), .val (.int p4), .val (.ref b1), .val (.int st), .val (.int ln), .val (.int ix), .val (.ref b2), .unset, .unset, .unset] [(.int (nar .char ((own_x p1 (st + ix) &&& 255).toUInt32.toUInt16.toUInt32.toInt32)))]))
  refine own_st (fun t k => XS.istore X69.here hx rfl (hb hby at_90) rfl (l' := #[.val (.int p1), .val (.int p2), .val (.int p3), .val (.int p4), .val (.ref b1), .val (.int st), .val (.int ln), .val (.int ix), .val (.ref b2), .val (.int (nar .char ((own_x p1 (st + ix) &&& 255).toUInt32.toUInt16.toUInt32.toInt32))), .unset, .unset]) rfl k) ?_
  show own_G _ _ _ _ _ _ _ (T69.setTop (mkF m 92 #[.val (.int p1), .val (.int p2), .val (.int p3), .val (.int p4), .val (.ref b1), .val (.int st), .val (.int ln), .val (.int ix), .val (.ref b2), .val (.int (nar .char ((own_x p1 (st + ix) &&& 255).toUInt32.toUInt16.toUInt32.toInt32))), .unset, .unset] []))
  refine own_st (fun t k => XS.iload X69.here hx rfl (hb hby at_92) rfl k) ?_
  show own_G _ _ _ _ _ _ _ (T69.setTop (mkF m 94 #[.val (.int p1), .val (.int p2), .val (.int p3), .val (.int p4), .val (.ref b1), .val (.int st), .val (.int ln), .val (.int ix), .val (.ref b2), .val (.int (nar .char ((own_x p1 (st + ix) &&& 255).toUInt32.toUInt16.toUInt32.toInt32))), .unset, .unset] [(.int st)]))
  refine own_st (fun t k => XS.iload X69.here hx rfl (hb hby at_94) rfl k) ?_
  show own_G _ _ _ _ _ _ _ (T69.setTop (mkF m 96 #[.val (.int p1), .val (.int p2), .val (.int p3), .val (.int p4), .val (.ref b1), .val (.int st), .val (.int ln), .val (.int ix), .val (.ref b2), .val (.int (nar .char ((own_x p1 (st + ix) &&& 255).toUInt32.toUInt16.toUInt32.toInt32))), .unset, .unset] [(.int ix), (.int st)]))
  refine own_st (fun t k => XS.iadd X69.here hx rfl (hb hby at_96) rfl k) ?_
  show own_G _ _ _ _ _ _ _ (T69.setTop (mkF m 97 #[.val (.int p1), .val (.int p2), .val (.int p3), .val (.int p4), .val (.ref b1), .val (.int st), .val (.int ln), .val (.int ix), .val (.ref b2), .val (.int (nar .char ((own_x p1 (st + ix) &&& 255).toUInt32.toUInt16.toUInt32.toInt32))), .unset, .unset] [(.int (st + ix))]))
  refine own_st (fun t k => XS.istore X69.here hx rfl (hb hby at_97) rfl (l' := #[.val (.int p1), .val (.int p2), .val (.int p3), .val (.int p4), .val (.ref b1), .val (.int st), .val (.int ln), .val (.int ix), .val (.ref b2), .val (.int (nar .char ((own_x p1 (st + ix) &&& 255).toUInt32.toUInt16.toUInt32.toInt32))), .val (.int (st + ix)), .unset]) rfl k) ?_
  show own_G _ _ _ _ _ _ _ (T69.setTop (mkF m 99 #[.val (.int p1), .val (.int p2), .val (.int p3), .val (.int p4), .val (.ref b1), .val (.int st), .val (.int ln), .val (.int ix), .val (.ref b2), .val (.int (nar .char ((own_x p1 (st + ix) &&& 255).toUInt32.toUInt16.toUInt32.toInt32))), .val (.int (st + ix)), .unset] []))
  refine own_st (fun t k => XS.iloadN X69.here hx rfl (hb hby at_99) rfl k) ?_
  show own_G _ _ _ _ _ _ _ (T69.setTop (mkF m 100 #[.val (.int p1), .val (.int p2), .val (.int p3), .val (.int p4), .val (.ref b1), .val (.int st), .val (.int ln), .val (.int ix), .val (.ref b2), .val (.int (nar .char ((own_x p1 (st + ix) &&& 255).toUInt32.toUInt16.toUInt32.toInt32))), .val (.int (st + ix)), .unset] [(.int p1)]))
  refine own_st (fun t k => XS.bipush X69.here hx rfl (hb hby at_100) k) ?_
  show own_G _ _ _ _ _ _ _ (T69.setTop (mkF m 102 #[.val (.int p1), .val (.int p2), .val (.int p3), .val (.int p4), .val (.ref b1), .val (.int st), .val (.int ln), .val (.int ix), .val (.ref b2), .val (.int (nar .char ((own_x p1 (st + ix) &&& 255).toUInt32.toUInt16.toUInt32.toInt32))), .val (.int (st + ix)), .unset] [(.int (8 : Int32)), (.int p1)]))
  refine own_st (fun t k => XS.iload X69.here hx rfl (hb hby at_102) rfl k) ?_
  show own_G _ _ _ _ _ _ _ (T69.setTop (mkF m 104 #[.val (.int p1), .val (.int p2), .val (.int p3), .val (.int p4), .val (.ref b1), .val (.int st), .val (.int ln), .val (.int ix), .val (.ref b2), .val (.int (nar .char ((own_x p1 (st + ix) &&& 255).toUInt32.toUInt16.toUInt32.toInt32))), .val (.int (st + ix)), .unset] [(.int (st + ix)), (.int (8 : Int32)), (.int p1)]))
  refine own_st (fun t k => XS.imul X69.here hx rfl (hb hby at_104) rfl k) ?_
  show own_G _ _ _ _ _ _ _ (T69.setTop (mkF m 105 #[.val (.int p1), .val (.int p2), .val (.int p3), .val (.int p4), .val (.ref b1), .val (.int st), .val (.int ln), .val (.int ix), .val (.ref b2), .val (.int (nar .char ((own_x p1 (st + ix) &&& 255).toUInt32.toUInt16.toUInt32.toInt32))), .val (.int (st + ix)), .unset] [(.int ((8 : Int32) * (st + ix))), (.int p1)]))
  refine own_st (fun t k => XS.iushr X69.here hx rfl (hb hby at_105) rfl k) ?_
  show own_G _ _ _ _ _ _ _ (T69.setTop (mkF m 106 #[.val (.int p1), .val (.int p2), .val (.int p3), .val (.int p4), .val (.ref b1), .val (.int st), .val (.int ln), .val (.int ix), .val (.ref b2), .val (.int (nar .char ((own_x p1 (st + ix) &&& 255).toUInt32.toUInt16.toUInt32.toInt32))), .val (.int (st + ix)), .unset] [(.int ((p1.toUInt32 >>> (((8 : Int32) * (st + ix)) &&& 31).toUInt32).toInt32))]))
  refine own_st (fun t k => XS.sipush X69.here hx rfl (hb hby at_106) k) ?_
  show own_G _ _ _ _ _ _ _ (T69.setTop (mkF m 109 #[.val (.int p1), .val (.int p2), .val (.int p3), .val (.int p4), .val (.ref b1), .val (.int st), .val (.int ln), .val (.int ix), .val (.ref b2), .val (.int (nar .char ((own_x p1 (st + ix) &&& 255).toUInt32.toUInt16.toUInt32.toInt32))), .val (.int (st + ix)), .unset] [(.int (255 : Int32)), (.int ((p1.toUInt32 >>> (((8 : Int32) * (st + ix)) &&& 31).toUInt32).toInt32))]))
  refine own_st (fun t k => XS.iand X69.here hx rfl (hb hby at_109) rfl k) ?_
  show own_G _ _ _ _ _ _ _ (T69.setTop (mkF m 110 #[.val (.int p1), .val (.int p2), .val (.int p3), .val (.int p4), .val (.ref b1), .val (.int st), .val (.int ln), .val (.int ix), .val (.ref b2), .val (.int (nar .char ((own_x p1 (st + ix) &&& 255).toUInt32.toUInt16.toUInt32.toInt32))), .val (.int (st + ix)), .unset] [(.int (((p1.toUInt32 >>> (((8 : Int32) * (st + ix)) &&& 31).toUInt32).toInt32) &&& (255 : Int32)))]))
  refine own_st (fun t k => XS.istore X69.here hx rfl (hb hby at_110) rfl (l' := #[.val (.int p1), .val (.int p2), .val (.int p3), .val (.int p4), .val (.ref b1), .val (.int st), .val (.int ln), .val (.int ix), .val (.ref b2), .val (.int (nar .char ((own_x p1 (st + ix) &&& 255).toUInt32.toUInt16.toUInt32.toInt32))), .val (.int (st + ix)), .val (.int (((p1.toUInt32 >>> (((8 : Int32) * (st + ix)) &&& 31).toUInt32).toInt32) &&& (255 : Int32)))]) rfl k) ?_
  show own_G _ _ _ _ _ _ _ (T69.setTop (mkF m 112 #[.val (.int p1), .val (.int p2), .val (.int p3), .val (.int p4), .val (.ref b1), .val (.int st), .val (.int ln), .val (.int ix), .val (.ref b2), .val (.int (nar .char ((own_x p1 (st + ix) &&& 255).toUInt32.toUInt16.toUInt32.toInt32))), .val (.int (st + ix)), .val (.int (((p1.toUInt32 >>> (((8 : Int32) * (st + ix)) &&& 31).toUInt32).toInt32) &&& (255 : Int32)))] []))
  refine own_st (fun t k => XS.iload X69.here hx rfl (hb hby at_112) rfl k) ?_
  show own_G _ _ _ _ _ _ _ (T69.setTop (mkF m 114 #[.val (.int p1), .val (.int p2), .val (.int p3), .val (.int p4), .val (.ref b1), .val (.int st), .val (.int ln), .val (.int ix), .val (.ref b2), .val (.int (nar .char ((own_x p1 (st + ix) &&& 255).toUInt32.toUInt16.toUInt32.toInt32))), .val (.int (st + ix)), .val (.int (((p1.toUInt32 >>> (((8 : Int32) * (st + ix)) &&& 31).toUInt32).toInt32) &&& (255 : Int32)))] [(.int (nar .char ((own_x p1 (st + ix) &&& 255).toUInt32.toUInt16.toUInt32.toInt32)))]))
  refine own_st (fun t k => XS.iload X69.here hx rfl (hb hby at_114) rfl k) ?_
  show own_G _ _ _ _ _ _ _ (T69.setTop (mkF m 116 #[.val (.int p1), .val (.int p2), .val (.int p3), .val (.int p4), .val (.ref b1), .val (.int st), .val (.int ln), .val (.int ix), .val (.ref b2), .val (.int (nar .char ((own_x p1 (st + ix) &&& 255).toUInt32.toUInt16.toUInt32.toInt32))), .val (.int (st + ix)), .val (.int (((p1.toUInt32 >>> (((8 : Int32) * (st + ix)) &&& 31).toUInt32).toInt32) &&& (255 : Int32)))] [(.int (((p1.toUInt32 >>> (((8 : Int32) * (st + ix)) &&& 31).toUInt32).toInt32) &&& (255 : Int32))), (.int (nar .char ((own_x p1 (st + ix) &&& 255).toUInt32.toUInt16.toUInt32.toInt32)))]))
  refine own_st (fun t k => XS.icmpNo X69.here hx rfl (hb hby at_116) rfl (teq (own_same _)).2 k) ?_
  show own_G _ _ _ _ _ _ _ (T69.setTop (mkF m 119 #[.val (.int p1), .val (.int p2), .val (.int p3), .val (.int p4), .val (.ref b1), .val (.int st), .val (.int ln), .val (.int ix), .val (.ref b2), .val (.int (nar .char ((own_x p1 (st + ix) &&& 255).toUInt32.toUInt16.toUInt32.toInt32))), .val (.int (st + ix)), .val (.int (((p1.toUInt32 >>> (((8 : Int32) * (st + ix)) &&& 31).toUInt32).toInt32) &&& (255 : Int32)))] []))
  refine own_st (fun t k => XS.iconst X69.here hx rfl (hb hby at_119) k) ?_
  show own_G _ _ _ _ _ _ _ (T69.setTop (mkF m 120 #[.val (.int p1), .val (.int p2), .val (.int p3), .val (.int p4), .val (.ref b1), .val (.int st), .val (.int ln), .val (.int ix), .val (.ref b2), .val (.int (nar .char ((own_x p1 (st + ix) &&& 255).toUInt32.toUInt16.toUInt32.toInt32))), .val (.int (st + ix)), .val (.int (((p1.toUInt32 >>> (((8 : Int32) * (st + ix)) &&& 31).toUInt32).toInt32) &&& (255 : Int32)))] [(.int (1 : Int32))]))
  refine own_st (fun t k => XS.goto X69.here hx rfl (pc0 := 120) (pc' := 124) rfl (hb hby at_120) (by decide) (by decide) k) ?_
  show own_G _ _ _ _ _ _ _ (T69.setTop (mkF m 124 #[.val (.int p1), .val (.int p2), .val (.int p3), .val (.int p4), .val (.ref b1), .val (.int st), .val (.int ln), .val (.int ix), .val (.ref b2), .val (.int (nar .char ((own_x p1 (st + ix) &&& 255).toUInt32.toUInt16.toUInt32.toInt32))), .val (.int (st + ix)), .val (.int (((p1.toUInt32 >>> (((8 : Int32) * (st + ix)) &&& 31).toUInt32).toInt32) &&& (255 : Int32)))] [(.int (1 : Int32))]))
  exact own_retN (t := .boolean) (by simp) X69 hx Bd.returns (BodyLoose.notSynchronized Bd) (hb hby at_124) (by decide) (by decide) ⟨rfl, N69⟩
set_option maxRecDepth 65536 in
set_option maxHeartbeats 40000000 in
theorem own_comes {Post : Tables → Env → Array Value → State → Outcome → State → Prop} (hpost : ∀ tb e args s v u, (limb_1_1.after args s (.returned v) u = true ∧ limb_1_2.after args s (.returned v) u = true ∧ True) → FrameEnd s (.returned v) u (Jvm.fieldLocs frame_1_writes args s ++ Jvm.arrayLocs frame_1_arrays args s ++ Jvm.staticLocs frame_1_statics s) 16 128 → Post tb e args s (.returned v) u) :
    ArmFor flags0 classFile x code maxLocals ret World_1 tables_1 room_1 Calls_1 rest_1 Pre_1 Post := by
  intro l hfl _ _ p e ha hc hk s m args below hf hA hF happ hP
  obtain ⟨hcalls, hrest, hpre⟩ := hP
  obtain ⟨-, -, -, hnamed, -, -, -, hat⟩ := (Spec.applies_iff hf).mp happ
  obtain ⟨hg, hn⟩ := and_e (Cond.before_iff.mp (show (Jvm.Cond.and given_1 narrow_1).before args s = true from hpre))
  obtain ⟨gc, ga0⟩ := and_e hg
  obtain ⟨gi0, ga1⟩ := and_e ga0
  obtain ⟨gi1, ga2⟩ := and_e ga1
  obtain ⟨gi2, ga3⟩ := and_e ga2
  obtain ⟨w0, w1, w2, w3, rfl⟩ : ∃ w0 w1 w2 w3 : Value, args = #[w0, w1, w2, w3] := by
    have hs : args.size = 4 := by simpa [Cond.value, given_1] using gc
    obtain ⟨L⟩ := args
    match L, hs with
    | [w0, w1, w2, w3], _ => exact ⟨w0, w1, w2, w3, rfl⟩
  have hw := fun d (hd : d ∈ tables_1) => atoms_spec (ws := Jvm.Cond.code x code maxLocals ret :: tables_1) hat d (List.mem_cons_of_mem _ hd)
  have hfit : Fit s := fun {y c} hc i hi => by
    obtain ⟨ha, rfl⟩ := Array.getElem?_eq_some_iff.mp hc
    have q := List.all_eq_true.mp ((Array.all_eq_true_iff_forall_mem.mp hF) _ (Array.getElem_mem ha)) i (List.mem_range.mpr hi)
    simpa [Array.getElem?_eq_getElem hi] using q
  obtain ⟨i0, ei0⟩ := is_v gi0
  obtain rfl : w0 = (.int i0) := Option.some.inj ei0
  obtain ⟨i1, ei1⟩ := is_v gi1
  obtain rfl : w1 = (.int i1) := Option.some.inj ei1
  obtain ⟨i2, ei2⟩ := is_v gi2
  obtain rfl : w2 = (.int i2) := Option.some.inj ei2
  obtain ⟨i3, ei3⟩ := is_v ga3
  obtain rfl : w3 = (.int i3) := Option.some.inj ei3
  obtain ⟨n, o, h1, h2, h3, _, L, rfl, ⟨rfl, N⟩, hq⟩ := own_rm0 l s _ hw tables_1 i0 i1 i2 i3 s.heap s.heap.size (Nat.le_refl _)  p e ha hc hk s m _ below hf ((Spec.applies_iff_loose hf).mp happ).1 ⟨rfl, State.Warmed39.refl s, rfl⟩ trivial
  refine ⟨n, _, h1, h2, h3, hpost _ _ _ _ _ _ ⟨Cond.after_iff.mpr rfl, Cond.after_iff.mpr (eq_i res_at (Term.int_eval (1)) rfl), trivial⟩ ⟨hq.1, hq.2.1, (hq.2.2.sift fun y hy => Or.inr (N y hy)).mono (by decide) (by decide)⟩⟩
theorem main_1_1 : Claimed_1_1 := own_comes fun _ _ _ _ _ _ h hF => ⟨h.1, hF⟩
theorem main_1_2 : Claimed_1_2 := own_comes fun _ _ _ _ _ _ h hF => ⟨h.2.1, hF⟩
end Jvm.Pilot.@@N@@
namespace Jvm.Pilot.@@N@@
open Jvm Jvm.ClassFile Sem Op Lib Jvm.Free Jvm.Stand Jvm.Pilot.@@N@@.Jvm.D
/-! MADE BY PROGRAM (witnessworld.py) out of the Statement's table words and the real class files: 12 classes; the members and pool entries that the words name. The judged class is class 1, her method 1. -/
namespace start1
open Jvm.ClassFile
def u (s : String) : CpInfo := .utf8 (stringToUtf16 s)
/-- a pool by its gaps: so many unusable entries, then the entry; so many at the end -/
def gap : Nat → List CpInfo → List CpInfo
  | 0, r => r
  | n + 1, r => .unusable :: gap n r
def poolList (es : List (Nat × CpInfo)) (last : Nat) : List CpInfo := es.foldr (fun e r => gap e.1 (e.2 :: r)) (gap last [])
def pool (es : List (Nat × CpInfo)) (last : Nat) : Array CpInfo := ⟨poolList es last⟩
def fileOf (pool : Array CpInfo) (this : Nat) (attrs : Array Attribute := #[]) (ms : Array MethodInfo := #[]) (fl : Nat := 33) (sup : Nat := 0) (ifs : Array Nat := #[]) (fds : Array FieldInfo := #[]) : ClassFile where
  minorVersion := 0
  majorVersion := 65
  constantPool := pool
  accessFlags := fl
  thisClass := this
  superClass := sup
  interfaces := ifs
  fields := fds
  methods := ms
  attributes := attrs
def plain (name : String) (sup : Option ClassId) : Class where
  name := name
  kind := .ordinary
  loader := none
  accessFlags := 33
  super := sup
  interfaces := #[]
  cf := none
  fields := #[]
  methods := #[]
  instanceTypes := #[]
  staticTypes := #[]
  resolved := #[]
  callSites := []
  init := .initialized
  statics := none
  mirror := none

def pool0 : Array CpInfo := pool [(5, u "<init>"), (0, u "()V"), (1, .class_ 10), (1, u "java/lang/Object")] 113

def k0c0 : Code := { maxStack := 0, maxLocals := 1, code := object_method_1_code, exceptionTable := #[], attributes := #[] }
def k0m0 : Method := { name := "<init>", desc := "()V", sig := { parameters := [], returnType := none }, accessFlags := 1, code := some k0c0 }
/-- java/lang/Object -/
def k0 : Class := { plain "java/lang/Object" none with
  accessFlags := 33
  interfaces := #[]
  cf := some (fileOf pool0 8 #[] #[{ accessFlags := 1, nameIndex := 5, descriptorIndex := 6, attributes := #[] }] 33 0 #[] #[])
  fields := #[]
  methods := #[k0m0]
  instanceTypes := #[]
  staticTypes := #[]
  resolved := Array.replicate 124 none
  statics := none }

def pool1 : Array CpInfo := pool [(2, .class_ 4), (0, .nameAndType 5 6), (0, u "java/lang/Object"), (0, u "<init>"), (0, u "()V"), (0, .integer 2147483647), (0, .class_ 9), (0, u "com/example/gridmargin/gridmargin/csv/ByteText"), (0, .methodref 8 3), (0, .methodref 8 12), (0, .nameAndType 13 14), (0, u "of"), (0, u "([BII)Lcom/example/gridmargin/gridmargin/csv/ByteText;"), (0, .methodref 8 16), (0, .nameAndType 17 18), (0, u "charAt"), (0, u "(I)C"), (0, .class_ 20), (0, u "com/example/gridmargin/gridmargin/csv/ByteTextCharAtPinLaw"), (2, u "law"), (0, u "(IIII)Z")] 5

def k1m0 : Method := { name := "<init>", desc := "()V", sig := { parameters := [], returnType := none }, accessFlags := 1, code := none }
def k1c1 : Code := { maxStack := 4, maxLocals := 12, code := code, exceptionTable := #[], attributes := #[] }
def k1m1 : Method := { name := "law", desc := "(IIII)Z", sig := { parameters := [.int, .int, .int, .int], returnType := some .boolean }, accessFlags := 9, code := some k1c1 }
/-- com/example/gridmargin/gridmargin/csv/ByteTextCharAtPinLaw -/
def k1 : Class := { plain "com/example/gridmargin/gridmargin/csv/ByteTextCharAtPinLaw" (some 0) with
  accessFlags := 49
  interfaces := #[]
  cf := some (fileOf pool1 19 #[] #[{ accessFlags := 1, nameIndex := 5, descriptorIndex := 6, attributes := #[] }, { accessFlags := 9, nameIndex := 23, descriptorIndex := 24, attributes := #[] }] 49 2 #[] #[])
  fields := #[]
  methods := #[k1m0, k1m1]
  instanceTypes := #[]
  staticTypes := #[]
  resolved := Array.replicate 30 none
  statics := none }

def pool2 : Array CpInfo := pool [(2, .class_ 4), (1, u "java/lang/CharSequence"), (42, .class_ 48), (0, u "java/lang/CharSequence$1CodePointIterator"), (10, .class_ 60), (0, u "java/lang/CharSequence$1CharIterator"), (5, .class_ 67), (0, u "java/lang/Object")] 63

/-- java/lang/CharSequence -/
def k2 : Class := { plain "java/lang/CharSequence" (some 0) with
  accessFlags := 1537
  interfaces := #[]
  cf := some (fileOf pool2 2 #[.nestMembers #[47, 59]] #[] 1537 66 #[] #[])
  fields := #[]
  methods := #[]
  instanceTypes := #[]
  staticTypes := #[]
  resolved := Array.replicate 131 none
  statics := none }

def pool3 : Array CpInfo := pool [(1, .methodref 2 3), (0, .class_ 4), (0, .nameAndType 5 6), (0, u "java/lang/Object"), (0, u "<init>"), (0, u "()V"), (0, .fieldref 8 9), (0, .class_ 10), (0, .nameAndType 11 12), (0, u "com/example/gridmargin/gridmargin/csv/ByteText"), (0, u "bytes"), (0, u "[B"), (0, .methodref 14 15), (0, .class_ 16), (0, .nameAndType 17 18), (0, u "java/util/Objects"), (0, u "checkFromIndexSize"), (0, u "(III)I"), (0, .fieldref 8 20), (0, .nameAndType 21 22), (0, u "start"), (0, u "I"), (0, .fieldref 8 24), (0, .nameAndType 25 22), (0, u "length"), (0, .methodref 14 27), (0, .nameAndType 28 29), (0, u "checkIndex"), (0, u "(II)I"), (24, .class_ 55), (0, u "java/lang/CharSequence"), (2, u "of"), (0, u "([BII)Lcom/example/gridmargin/gridmargin/csv/ByteText;"), (1, u "charAt"), (0, u "(I)C")] 10

def k3c0 : Code := { maxStack := 2, maxLocals := 1, code := prog_22_method_1_code, exceptionTable := #[], attributes := #[] }
def k3m0 : Method := { name := "<init>", desc := "()V", sig := { parameters := [], returnType := none }, accessFlags := 0, code := some k3c0 }
def k3c1 : Code := { maxStack := 3, maxLocals := 4, code := prog_22_method_2_code, exceptionTable := #[], attributes := #[] }
def k3m1 : Method := { name := "of", desc := "([BII)Lcom/example/gridmargin/gridmargin/csv/ByteText;", sig := { parameters := [(.array .byte), .int, .int], returnType := some (.object "com/example/gridmargin/gridmargin/csv/ByteText") }, accessFlags := 0, code := some k3c1 }
def k3c2 : Code := { maxStack := 3, maxLocals := 2, code := prog_22_method_4_code, exceptionTable := #[], attributes := #[] }
def k3m2 : Method := { name := "charAt", desc := "(I)C", sig := { parameters := [.int], returnType := some .char }, accessFlags := 1, code := some k3c2 }
/-- com/example/gridmargin/gridmargin/csv/ByteText -/
def k3 : Class := { plain "com/example/gridmargin/gridmargin/csv/ByteText" (some 0) with
  accessFlags := 48
  interfaces := #[2]
  cf := some (fileOf pool3 8 #[] #[{ accessFlags := 0, nameIndex := 5, descriptorIndex := 6, attributes := #[] }, { accessFlags := 0, nameIndex := 58, descriptorIndex := 59, attributes := #[] }, { accessFlags := 1, nameIndex := 61, descriptorIndex := 62, attributes := #[] }] 48 2 #[54] #[{ accessFlags := 2, nameIndex := 11, descriptorIndex := 12, attributes := #[] }, { accessFlags := 2, nameIndex := 21, descriptorIndex := 22, attributes := #[] }, { accessFlags := 2, nameIndex := 25, descriptorIndex := 22, attributes := #[] }])
  fields := #[{ name := "bytes", type := (.array .byte), accessFlags := 2, slot := 0, constantValue := 0 }, { name := "start", type := .int, accessFlags := 2, slot := 1, constantValue := 0 }, { name := "length", type := .int, accessFlags := 2, slot := 2, constantValue := 0 }]
  methods := #[k3m0, k3m1, k3m2]
  instanceTypes := #[(.array .byte), .int, .int]
  staticTypes := #[]
  resolved := Array.replicate 73 none
  statics := none }

def pool4 : Array CpInfo := pool [(2, .class_ 4), (1, u "java/lang/Object"), (0, u "<init>"), (0, u "()V"), (35, .class_ 44), (1, u "java/util/Objects"), (60, .methodref 106 107), (0, .class_ 108), (0, .nameAndType 109 110), (0, u "jdk/internal/util/Preconditions"), (0, u "checkIndex"), (0, u "(IILjava/util/function/BiFunction;)I"), (3, u "(IIILjava/util/function/BiFunction;)I"), (0, .methodref 106 116), (0, .nameAndType 117 114), (0, u "checkFromIndexSize"), (53, u "(II)I"), (3, u "(III)I")] 8

def k4m0 : Method := { name := "<init>", desc := "()V", sig := { parameters := [], returnType := none }, accessFlags := 2, code := none }
def k4c1 : Code := { maxStack := 3, maxLocals := 2, code := jdk_31_method_17_code, exceptionTable := #[], attributes := #[] }
def k4m1 : Method := { name := "checkIndex", desc := "(II)I", sig := { parameters := [.int, .int], returnType := some .int }, accessFlags := 9, code := some k4c1 }
def k4c2 : Code := { maxStack := 4, maxLocals := 3, code := jdk_31_method_19_code, exceptionTable := #[], attributes := #[] }
def k4m2 : Method := { name := "checkFromIndexSize", desc := "(III)I", sig := { parameters := [.int, .int, .int], returnType := some .int }, accessFlags := 9, code := some k4c2 }
/-- java/util/Objects -/
def k4 : Class := { plain "java/util/Objects" (some 0) with
  accessFlags := 49
  interfaces := #[]
  cf := some (fileOf pool4 42 #[] #[{ accessFlags := 2, nameIndex := 5, descriptorIndex := 6, attributes := #[] }, { accessFlags := 9, nameIndex := 109, descriptorIndex := 171, attributes := #[] }, { accessFlags := 9, nameIndex := 117, descriptorIndex := 175, attributes := #[] }] 49 2 #[] #[])
  fields := #[]
  methods := #[k4m0, k4m1, k4m2]
  instanceTypes := #[]
  staticTypes := #[]
  resolved := Array.replicate 184 none
  statics := none }

def pool5 : Array CpInfo := pool [(2, .class_ 4), (1, u "java/lang/Object"), (0, u "<init>"), (0, u "()V"), (17, .class_ 26), (1, u "jdk/internal/util/Preconditions"), (6, u "checkIndex"), (15, u "checkFromIndexSize"), (5, .class_ 56), (0, u "jdk/internal/util/Preconditions$4"), (57, .class_ 115), (0, u "jdk/internal/util/Preconditions$1"), (7, u "SIOOBE_FORMATTER"), (0, u "Ljava/util/function/BiFunction;"), (0, .class_ 126), (0, u "jdk/internal/util/Preconditions$2"), (3, u "AIOOBE_FORMATTER"), (0, .class_ 132), (0, u "jdk/internal/util/Preconditions$3"), (3, u "IOOBE_FORMATTER"), (41, u "(IILjava/util/function/BiFunction;)I"), (4, u "(IIILjava/util/function/BiFunction;)I")] 10

def k5m0 : Method := { name := "<init>", desc := "()V", sig := { parameters := [], returnType := none }, accessFlags := 1, code := none }
def k5c1 : Code := { maxStack := 3, maxLocals := 3, code := jdk_41_method_11_code, exceptionTable := #[], attributes := #[] }
def k5m1 : Method := { name := "checkIndex", desc := "(IILjava/util/function/BiFunction;)I", sig := { parameters := [.int, .int, (.object "java/util/function/BiFunction")], returnType := some .int }, accessFlags := 9, code := some k5c1 }
def k5c2 : Code := { maxStack := 4, maxLocals := 4, code := jdk_41_method_13_code, exceptionTable := #[], attributes := #[] }
def k5m2 : Method := { name := "checkFromIndexSize", desc := "(IIILjava/util/function/BiFunction;)I", sig := { parameters := [.int, .int, .int, (.object "java/util/function/BiFunction")], returnType := some .int }, accessFlags := 9, code := some k5c2 }
/-- jdk/internal/util/Preconditions -/
def k5 : Class := { plain "jdk/internal/util/Preconditions" (some 0) with
  accessFlags := 33
  interfaces := #[]
  cf := some (fileOf pool5 24 #[.nestMembers #[55, 131, 125, 114]] #[{ accessFlags := 1, nameIndex := 5, descriptorIndex := 6, attributes := #[] }, { accessFlags := 9, nameIndex := 33, descriptorIndex := 178, attributes := #[] }, { accessFlags := 9, nameIndex := 49, descriptorIndex := 183, attributes := #[] }] 33 2 #[] #[{ accessFlags := 25, nameIndex := 123, descriptorIndex := 124, attributes := #[] }, { accessFlags := 25, nameIndex := 130, descriptorIndex := 124, attributes := #[] }, { accessFlags := 25, nameIndex := 136, descriptorIndex := 124, attributes := #[] }])
  fields := #[{ name := "SIOOBE_FORMATTER", type := (.object "java/util/function/BiFunction"), accessFlags := 25, slot := 0, constantValue := 0 }, { name := "AIOOBE_FORMATTER", type := (.object "java/util/function/BiFunction"), accessFlags := 25, slot := 1, constantValue := 0 }, { name := "IOOBE_FORMATTER", type := (.object "java/util/function/BiFunction"), accessFlags := 25, slot := 2, constantValue := 0 }]
  methods := #[k5m0, k5m1, k5m2]
  instanceTypes := #[]
  staticTypes := #[(.object "java/util/function/BiFunction"), (.object "java/util/function/BiFunction"), (.object "java/util/function/BiFunction")]
  resolved := Array.replicate 194 none
  statics := none }

def pool6 : Array CpInfo := pool [(1, u "java/lang/Cloneable"), (0, .class_ 1), (0, u "java/lang/Object"), (0, .class_ 3)] 3

/-- java/lang/Cloneable -/
def k6 : Class := { plain "java/lang/Cloneable" (some 0) with
  accessFlags := 1537
  interfaces := #[]
  cf := some (fileOf pool6 2 #[] #[] 1537 4 #[] #[])
  fields := #[]
  methods := #[]
  instanceTypes := #[]
  staticTypes := #[]
  resolved := Array.replicate 8 none
  statics := none }

def pool7 : Array CpInfo := pool [(1, u "java/io/Serializable"), (0, .class_ 1), (0, u "java/lang/Object"), (0, .class_ 3)] 3

/-- java/io/Serializable -/
def k7 : Class := { plain "java/io/Serializable" (some 0) with
  accessFlags := 1537
  interfaces := #[]
  cf := some (fileOf pool7 2 #[] #[] 1537 4 #[] #[])
  fields := #[]
  methods := #[]
  instanceTypes := #[]
  staticTypes := #[]
  resolved := Array.replicate 8 none
  statics := none }

/-- the primitive byte -/
def k8 : Class := { plain "byte" none with kind := .primitive 'B', accessFlags := 0x411 }
/-- [B -/
def k9 : Class := { plain "[B" (some 0) with kind := .array 8 .byte, interfaces := #[6, 7], accessFlags := 1041 }

/-- the primitive int -/
def k10 : Class := { plain "int" none with kind := .primitive 'I', accessFlags := 0x411 }
/-- [I -/
def k11 : Class := { plain "[I" (some 0) with kind := .array 10 .int, interfaces := #[6, 7], accessFlags := 1041 }

def heap : Heap := #[]
def classes : Array Class := #[k0, k1, k2, k3, k4, k5, k6, k7, k8, k9, k10, k11]
def interned : List (Array UInt16 × Addr) := []
def slotsUsed : Nat := 0
def theMethod : MethodId := ⟨1, 1⟩
def args0 : Array Value := #[.int 5, .int 7, .int 3, .int 1]
def aboutOver (below : List Frame) : State where
  vm := { classes := classes, interned := interned.toArray }
  heap := heap
  slotsUsed := slotsUsed
  threads := #[{ frames := .invoking theMethod args0 :: below }]
def below0 : List Frame := [.native { method := ⟨0, 0⟩, args := #[] }]
def about1 : State := aboutOver below0
def p0 : Program := .bare "" "" ""
def e0 : Env := launch0.env 0 0 0
theorem w_frames : about1.frames = Frame.invoking theMethod args0 :: below0 := rfl
set_option maxRecDepth 65536 in
theorem w_args : argsFit about1.vm theMethod args0 = true := by decide +kernel
set_option maxRecDepth 65536 in
theorem w_heap : heapFits about1 = true := by decide +kernel
set_option maxRecDepth 65536 in
theorem w_runnable : about1.curStatus? = some .runnable := by decide +kernel
set_option maxRecDepth 65536 in
theorem w_alone : about1.alone = true := by decide +kernel
set_option maxRecDepth 65536 in
theorem w_named : about1.methodNamed? x = some theMethod := by decide +kernel
set_option maxRecDepth 65536 in
theorem w_hears : about1.hears theMethod below0 = true := by decide +kernel
set_option maxRecDepth 65536 in
theorem w_ripe : about1.ripe theMethod args0 below0 = true := by decide +kernel
theorem w_running : about1.status = .running := rfl
set_option maxRecDepth 65536 in
theorem w_room : about1.hasRoom e0.platform room_1 = true :=
  launch0.hasRoom_least _ room_1 (by decide +kernel) (by decide +kernel) (by decide +kernel) (by decide +kernel) (by decide +kernel) (by decide +kernel)
theorem allAtoms_all (ts : List Jvm.Cond) (a : Array Jvm.Value) (st : Jvm.State) : (allAtoms ts).before a st = ts.all (fun c => c.before a st) := by
  induction ts with
  | nil => rfl
  | cons c t ih =>
    show (Jvm.Cond.and c (allAtoms t)).before a st = _
    rw [Jvm.Cond.before_and, ih, List.all_cons]
def words1 : List Jvm.Cond := Jvm.Cond.code x code maxLocals ret :: tables_1
/-- a 'code' word, met by the world's own term for the bytes: nothing is compared byte by byte -/
theorem code_word {y : MethodName} {bytes : ByteArray} {mx : Nat} {rt : Option FieldType} {a : Array Value} {s : State} {m : MethodId} {meth : Method} {c : Code} (h1 : s.methodNamed? y = some m) (h2 : s.vm.method? m = some meth) (h3 : meth.code = some c) (h4 : c.code = bytes)
    (h5 : (c.maxLocals == mx && c.exceptionTable.isEmpty && decide (c.maxStack ≤ mostOperands) && decide (meth.sig.returnType = rt) && !meth.locks && decide (parseMethodDescriptor y.desc = some meth.sig)) = true) : (Jvm.Cond.code y bytes mx rt).before a s = true := by
  simp only [Bool.and_eq_true, beq_iff_eq, Bool.not_eq_true', decide_eq_true_eq] at h5
  obtain ⟨⟨⟨⟨⟨g1, g2⟩, g3⟩, g4⟩, g5⟩, g6⟩ := h5
  simp [Cond.before, Cond.holds, Cond.value, h1, h2, h3, h4, g1, g2, g3, g4, g5, g6]
def isCode : Jvm.Cond → Bool
  | .code _ _ _ _ => true
  | _ => false
theorem all_split {L : List Jvm.Cond} {P : Jvm.Cond → Bool} (h1 : L.all (fun c => isCode c || P c) = true) (h2 : ∀ c ∈ L.filter isCode, P c = true) : L.all P = true := by
  refine List.all_eq_true.mpr fun c hc => ?_
  have h := List.all_eq_true.mp h1 c hc
  rcases Bool.eq_false_or_eq_true (isCode c) with hi | hi
  · exact h2 c (List.mem_filter.mpr ⟨hc, hi⟩)
  · simpa [hi] using h
set_option maxRecDepth 65536 in
theorem w_c0 : (Jvm.Cond.code x code maxLocals ret).before args0 about1 = true := code_word (m := ⟨1, 1⟩) (meth := k1m1) (c := k1c1) (by decide +kernel) rfl rfl rfl (by decide +kernel)
set_option maxRecDepth 65536 in
theorem w_c1 : (Jvm.Cond.code ({ cls := "com/example/gridmargin/gridmargin/csv/ByteText", name := "<init>", desc := "()V" } : Jvm.MethodName) prog_22_method_1_code (1 : Nat) (Option.none : Option Jvm.ClassFile.FieldType)).before args0 about1 = true := code_word (m := ⟨3, 0⟩) (meth := k3m0) (c := k3c0) (by decide +kernel) rfl rfl rfl (by decide +kernel)
set_option maxRecDepth 65536 in
theorem w_c2 : (Jvm.Cond.code ({ cls := "java/lang/Object", name := "<init>", desc := "()V" } : Jvm.MethodName) object_method_1_code (1 : Nat) (Option.none : Option Jvm.ClassFile.FieldType)).before args0 about1 = true := code_word (m := ⟨0, 0⟩) (meth := k0m0) (c := k0c0) (by decide +kernel) rfl rfl rfl (by decide +kernel)
set_option maxRecDepth 65536 in
theorem w_c3 : (Jvm.Cond.code ({ cls := "com/example/gridmargin/gridmargin/csv/ByteText", name := "of", desc := "([BII)Lcom/example/gridmargin/gridmargin/csv/ByteText;" } : Jvm.MethodName) prog_22_method_2_code (4 : Nat) (Option.some (Jvm.ClassFile.FieldType.object "com/example/gridmargin/gridmargin/csv/ByteText"))).before args0 about1 = true := code_word (m := ⟨3, 1⟩) (meth := k3m1) (c := k3c1) (by decide +kernel) rfl rfl rfl (by decide +kernel)
set_option maxRecDepth 65536 in
theorem w_c4 : (Jvm.Cond.code ({ cls := "java/util/Objects", name := "checkFromIndexSize", desc := "(III)I" } : Jvm.MethodName) jdk_31_method_19_code (3 : Nat) (Option.some Jvm.ClassFile.FieldType.int)).before args0 about1 = true := code_word (m := ⟨4, 2⟩) (meth := k4m2) (c := k4c2) (by decide +kernel) rfl rfl rfl (by decide +kernel)
set_option maxRecDepth 65536 in
theorem w_c5 : (Jvm.Cond.code ({ cls := "jdk/internal/util/Preconditions", name := "checkFromIndexSize", desc := "(IIILjava/util/function/BiFunction;)I" } : Jvm.MethodName) jdk_41_method_13_code (4 : Nat) (Option.some Jvm.ClassFile.FieldType.int)).before args0 about1 = true := code_word (m := ⟨5, 2⟩) (meth := k5m2) (c := k5c2) (by decide +kernel) rfl rfl rfl (by decide +kernel)
set_option maxRecDepth 65536 in
theorem w_c6 : (Jvm.Cond.code ({ cls := "com/example/gridmargin/gridmargin/csv/ByteText", name := "charAt", desc := "(I)C" } : Jvm.MethodName) prog_22_method_4_code (2 : Nat) (Option.some Jvm.ClassFile.FieldType.char)).before args0 about1 = true := code_word (m := ⟨3, 2⟩) (meth := k3m2) (c := k3c2) (by decide +kernel) rfl rfl rfl (by decide +kernel)
set_option maxRecDepth 65536 in
theorem w_c7 : (Jvm.Cond.code ({ cls := "java/util/Objects", name := "checkIndex", desc := "(II)I" } : Jvm.MethodName) jdk_31_method_17_code (2 : Nat) (Option.some Jvm.ClassFile.FieldType.int)).before args0 about1 = true := code_word (m := ⟨4, 1⟩) (meth := k4m1) (c := k4c1) (by decide +kernel) rfl rfl rfl (by decide +kernel)
set_option maxRecDepth 65536 in
theorem w_c8 : (Jvm.Cond.code ({ cls := "jdk/internal/util/Preconditions", name := "checkIndex", desc := "(IILjava/util/function/BiFunction;)I" } : Jvm.MethodName) jdk_41_method_11_code (3 : Nat) (Option.some Jvm.ClassFile.FieldType.int)).before args0 about1 = true := code_word (m := ⟨5, 1⟩) (meth := k5m1) (c := k5c1) (by decide +kernel) rfl rfl rfl (by decide +kernel)
def codes1 : List Jvm.Cond := [Jvm.Cond.code x code maxLocals ret, Jvm.Cond.code ({ cls := "com/example/gridmargin/gridmargin/csv/ByteText", name := "<init>", desc := "()V" } : Jvm.MethodName) prog_22_method_1_code (1 : Nat) (Option.none : Option Jvm.ClassFile.FieldType), Jvm.Cond.code ({ cls := "java/lang/Object", name := "<init>", desc := "()V" } : Jvm.MethodName) object_method_1_code (1 : Nat) (Option.none : Option Jvm.ClassFile.FieldType), Jvm.Cond.code ({ cls := "com/example/gridmargin/gridmargin/csv/ByteText", name := "of", desc := "([BII)Lcom/example/gridmargin/gridmargin/csv/ByteText;" } : Jvm.MethodName) prog_22_method_2_code (4 : Nat) (Option.some (Jvm.ClassFile.FieldType.object "com/example/gridmargin/gridmargin/csv/ByteText")), Jvm.Cond.code ({ cls := "java/util/Objects", name := "checkFromIndexSize", desc := "(III)I" } : Jvm.MethodName) jdk_31_method_19_code (3 : Nat) (Option.some Jvm.ClassFile.FieldType.int), Jvm.Cond.code ({ cls := "jdk/internal/util/Preconditions", name := "checkFromIndexSize", desc := "(IIILjava/util/function/BiFunction;)I" } : Jvm.MethodName) jdk_41_method_13_code (4 : Nat) (Option.some Jvm.ClassFile.FieldType.int), Jvm.Cond.code ({ cls := "com/example/gridmargin/gridmargin/csv/ByteText", name := "charAt", desc := "(I)C" } : Jvm.MethodName) prog_22_method_4_code (2 : Nat) (Option.some Jvm.ClassFile.FieldType.char), Jvm.Cond.code ({ cls := "java/util/Objects", name := "checkIndex", desc := "(II)I" } : Jvm.MethodName) jdk_31_method_17_code (2 : Nat) (Option.some Jvm.ClassFile.FieldType.int), Jvm.Cond.code ({ cls := "jdk/internal/util/Preconditions", name := "checkIndex", desc := "(IILjava/util/function/BiFunction;)I" } : Jvm.MethodName) jdk_41_method_11_code (3 : Nat) (Option.some Jvm.ClassFile.FieldType.int)]
set_option maxRecDepth 65536 in
theorem codes_eq : words1.filter isCode = codes1 := rfl
theorem w_codes : ∀ c ∈ words1.filter isCode, c.before args0 about1 = true := by
  rw [codes_eq]
  intro c hc
  simp only [codes1, List.mem_cons, List.not_mem_nil, or_false] at hc
  rcases hc with rfl | rfl | rfl | rfl | rfl | rfl | rfl | rfl | rfl
  · exact w_c0
  · exact w_c1
  · exact w_c2
  · exact w_c3
  · exact w_c4
  · exact w_c5
  · exact w_c6
  · exact w_c7
  · exact w_c8
set_option maxRecDepth 65536 in
theorem w_t1 : (words1.take 24).all (fun c => isCode c || c.before args0 about1) = true := by decide +kernel
set_option maxRecDepth 65536 in
theorem w_t2 : (words1.drop 24).all (fun c => isCode c || c.before args0 about1) = true := by decide +kernel
theorem w_tables : (allAtoms (Jvm.Cond.code x code maxLocals ret :: tables_1)).before args0 about1 = true := by
  rw [allAtoms_all]
  show words1.all (fun c => c.before args0 about1) = true
  refine all_split ?_ w_codes
  rw [← List.take_append_drop 24 words1, List.all_append, w_t1, w_t2]
  rfl
set_option maxRecDepth 65536 in
theorem w_case : (Jvm.Cond.and given_1 narrow_1).before args0 about1 = true := by decide +kernel
theorem w_applies : (headSpec (Jvm.Cond.code x code maxLocals ret :: tables_1) room_1).applies x e0.platform about1 = true :=
  (Spec.applies_iff w_frames).mpr ⟨w_running, w_runnable, w_alone, w_named, w_hears, w_ripe, w_room, w_tables⟩
theorem atStart : AtStart classFile x code maxLocals ret World_1 tables_1 room_1 Calls_1 rest_1 Pre_1 launch0 p0 e0 about1 theMethod args0 below0 :=
  ⟨lists_1, trivial, launch0.admits_env _ _ _, launch0.least_env, fairChoices_fair.cas, fairChoices_fair.clock, w_frames, w_args, w_heap, w_applies, trivial, trivial, w_case⟩
end start1
theorem witness_1 : WitnessClaimed_1 := ⟨start1.p0, start1.e0, start1.about1, start1.theMethod, start1.args0, start1.below0, start1.atStart⟩
end Jvm.Pilot.@@N@@
