import JvmDerived
import JvmDerived.Pilot.@@N@@Statement
import JvmDerived.Pilot.@@N@@Code
set_option linter.unusedVariables false
set_option linter.unusedSimpArgs false
@@BLOCK:NumsL.lean.txt@@
namespace Jvm.Pilot.@@N@@
open Jvm Jvm.ClassFile Sem Op Lib Jvm.Free Jvm.Stand Jvm.LawKit Jvm.RoadKit Bundle Jvm.Pilot.@@N@@.Jvm.D
/-! the goal that a walk carries along: from this state the run comes to the method's end, and Q holds there -/
def own_G (tb : Tables) (e : Env) (below : List Frame) (s : State) (Q : Option Value → Heap → List Loc → Prop) (kc ks : Nat) (st : State) : Prop :=
  ∃ u o, Steps tb e below st u ∧ u.status = .running ∧ Ended u below o ∧ ∃ v L, o = .returned v ∧ Q v u.heap L ∧ FrameEnd s o u L kc ks
theorem own_in {tb : Tables} {e : Env} {below : List Frame} {s : State} {Q : Option Value → Heap → List Loc → Prop} {kc ks : Nat} {st : State} (h : own_G tb e below s Q kc ks st) :
    ∃ u o, Steps tb e below st u ∧ u.status = .running ∧ Ended u below o ∧ ∃ v L, o = .returned v ∧ Q v u.heap L ∧ FrameEnd s o u L kc ks := h
theorem own_st {tb : Tables} {e : Env} {below : List Frame} {s : State} {Q : Option Value → Heap → List Loc → Prop} {kc ks : Nat} {a b : State} (k : ∀ t, Steps tb e below b t → Steps tb e below a t) (h : own_G tb e below s Q kc ks b) : own_G tb e below s Q kc ks a := by
  obtain ⟨u, o, h1, h2⟩ := h; exact ⟨u, o, k u h1, h2⟩
section OwnRet
variable {p : Program} {l : Launch} {e : Env} {R : Room} {s : State} {m : MethodId} {args : Array Value} {below : List Frame} {meth : Method} {c : Code} {T : State} {locs : List Loc} {cells slots : Nat} {Q : Option Value → Heap → List Loc → Prop} {kc ks : Nat} {pc : Nat} {Ls : Array Slot} {rest : List Value}
theorem own_ret (X : Stand p l e R s m args below meth c T locs cells slots) {v : Option Value} (hv : meth.sig.returnType = none → v = none) (hlk : meth.locks = false) (hc : cells ≤ kc) (hs : slots ≤ ks) (hQ : Q v T.heap locs) {st : State}
    (step : ∀ fs, (∀ (f : JFrame) (acts : List Action), f.method = m → f.locked = none → f.entered = [] → (doReturn e (T.setTop f) acts v).1 = T.setFrames fs) → Steps p.tables e below st (T.setFrames fs)) : own_G p.tables e below s Q kc ks st := by
  obtain ⟨fs, hr, hrun, hended, hW, hsame⟩ := X.leave (v := v) hv hlk
  exact ⟨_, _, step fs hr, hrun, hended, _, _, rfl, hQ, ⟨_, rfl⟩, hW, hsame.mono hc hs⟩
theorem own_retV (X : Stand p l e R s m args below meth c T locs cells slots) (hx : p.tables.exec = Jvm.exec) (hret : meth.sig.returnType = none) (hlk : meth.locks = false) (hd : decode c.code pc = .ok (.return_, 1)) (hc : cells ≤ kc) (hs : slots ≤ ks) (hQ : Q none T.heap locs) : own_G p.tables e below s Q kc ks (T.setTop (mkF m pc Ls [])) :=
  own_ret X (v := none) (fun _ => rfl) hlk hc hs hQ fun _ hr => X.returnOut hx hret hd hr
theorem own_retI {z : Int32} (X : Stand p l e R s m args below meth c T locs cells slots) (hx : p.tables.exec = Jvm.exec) (hret : meth.sig.returnType = some .int) (hlk : meth.locks = false) (hd : decode c.code pc = .ok (.ireturn, 1)) (hc : cells ≤ kc) (hs : slots ≤ ks) (hQ : Q (some (.int z)) T.heap locs) : own_G p.tables e below s Q kc ks (T.setTop (mkF m pc Ls (.int z :: rest))) :=
  own_ret X (v := some (.int z)) (fun h => by rw [hret] at h; cases h) hlk hc hs hQ fun _ hr => retOut X hx hret rfl (Or.inl ⟨rfl, Or.inl rfl, z, rfl⟩) hd hr
theorem own_retJ {z : Int64} (X : Stand p l e R s m args below meth c T locs cells slots) (hx : p.tables.exec = Jvm.exec) (hret : meth.sig.returnType = some .long) (hlk : meth.locks = false) (hd : decode c.code pc = .ok (.lreturn, 1)) (hc : cells ≤ kc) (hs : slots ≤ ks) (hQ : Q (some (.long z)) T.heap locs) : own_G p.tables e below s Q kc ks (T.setTop (mkF m pc Ls (.long z :: rest))) :=
  own_ret X (v := some (.long z)) (fun h => by rw [hret] at h; cases h) hlk hc hs hQ fun _ hr => retOut X hx hret rfl (Or.inr (Or.inl ⟨rfl, rfl, z, rfl⟩)) hd hr
theorem own_retA {ft : FieldType} {w : Value} (ht : ft.isReference = true) (hw : w.isRef = true) (X : Stand p l e R s m args below meth c T locs cells slots) (hx : p.tables.exec = Jvm.exec) (hret : meth.sig.returnType = some ft) (hlk : meth.locks = false) (hd : decode c.code pc = .ok (.areturn, 1)) (hc : cells ≤ kc) (hs : slots ≤ ks) (hQ : Q (some w) T.heap locs) : own_G p.tables e below s Q kc ks (T.setTop (mkF m pc Ls (w :: rest))) :=
  own_ret X (v := some w) (fun h => by rw [hret] at h; cases h) hlk hc hs hQ fun _ hr => retOut X hx hret (by cases ft <;> first | (cases ht; done) | (cases w <;> first | rfl | cases hw)) (Or.inr (Or.inr (Or.inr (Or.inr ⟨rfl, ht, hw⟩)))) hd hr
theorem own_retN {t : FieldType} {z : Int32} (ht : t = .boolean ∨ t = .byte ∨ t = .char ∨ t = .short) (X : Stand p l e R s m args below meth c T locs cells slots) (hx : p.tables.exec = Jvm.exec) (hret : meth.sig.returnType = some t) (hlk : meth.locks = false) (hd : decode c.code pc = .ok (.ireturn, 1)) (hc : cells ≤ kc) (hs : slots ≤ ks) (hQ : Q (some (.int (nar t z))) T.heap locs) : own_G p.tables e below s Q kc ks (T.setTop (mkF m pc Ls (.int z :: rest))) :=
  own_ret X (v := some (.int (nar t z))) (fun h => by rw [hret] at h; cases h) hlk hc hs hQ fun _ hr => retN X hx hret ht hd hr
end OwnRet
def own_b (P : Prop) [Decidable P] : Int32 := if P then 1 else 0
theorem own_bT {P : Prop} [Decidable P] (h : P) : some (Value.int (nar .boolean (1 : Int32))) = some (Value.int (own_b P)) := by rw [own_b, if_pos h]; rfl
theorem own_bF {P : Prop} [Decidable P] (h : ¬ P) : some (Value.int (nar .boolean (0 : Int32))) = some (Value.int (own_b P)) := by rw [own_b, if_neg h]; rfl
theorem own_bEq {P P' : Prop} [Decidable P] [Decidable P'] (h : P ↔ P') : own_b P = own_b P' := by simp only [own_b, h]
/-- a body that writes nothing: what it returns, the heap as it was -/
def own_Qp (r : Option Value) (h0 : Heap) (n0 : Nat) (v : Option Value) (h : Heap) (L : List Loc) : Prop := v = r ∧ Fr n0 L ∧ h = h0
/-- the law's own end: it returns 1, nothing old is written -/
def own_Q0 (n0 : Nat) (v : Option Value) (h : Heap) (L : List Loc) : Prop := v = some (.int 1) ∧ Fr n0 L
theorem own_ord {s : State} {args : Array Value} {t : Term} {a : Addr} {C n d : String} {k : Int32} (ev : t.eval args s none [] s = some (.ref a)) (h : (Jvm.Cond.eq (Term.field t C n d) (Term.int k)).value args s none s [] = some true) : Fld s s.heap a C n d (.int k) := by
  obtain ⟨x, y, e1, e2, -, k2⟩ := cmp_v (Or.inl h)
  obtain rfl : Value.int k = y := Option.some.inj e2
  obtain ⟨z, rfl⟩ := k2
  have q : z = k := by simpa [Jvm.Cond.value, e1, e2] using h
  subst q
  exact Fld.start ((fld_at ev).symm.trans e1)
theorem own_len {s : State} {args : Array Value} {t : Term} {a : Addr} {c : Cell} {ty : FieldType} {n : Int32} (ev : t.eval args s none [] s = some (.ref a)) (A : Arr s s.heap a c ty) (h : (Jvm.Cond.eq (Term.length t) (Term.int n)).value args s none s [] = some true) : c.slots.size < 2 ^ 31 ∧ c.slots.size.toInt32 = n := by
  have q := eqv_i (Term.int_eval n) h
  have f := A.fin (Vm.Alike.refl _)
  have z : c.slots.size < 2147483648 ∧ c.slots.size.toInt32 = n := by simpa [Term.eval, ev, f] using q
  exact z
theorem own_eqr {s : State} {args : Array Value} {X F : Term} {y : Addr} (hF : F.eval args s none [] s = some (.ref y)) (h : (Jvm.Cond.eq X F).value args s none s [] = some true) : X.eval args s none [] s = some (.ref y) := by
  obtain ⟨x, y', e1, e2, k1, k2⟩ := cmp_v (Or.inl h)
  cases hF.symm.trans e2
  have hx : x.isRef = true := k2.2
  have q := gotT (eq_R e1 hF hx rfl) h
  rw [q] at e1; exact e1
theorem own_el {s : State} {args : Array Value} {t : Term} {a : Addr} {c : Cell} {ty : FieldType} {j : Int32} {v : Value} (ev : t.eval args s none [] s = some (.ref a)) (A : Arr s s.heap a c ty) (h : (Term.elem t (Term.int j)).eval args s none [] s = some v) : c.slots[j.toNatClampNeg]? = some v := (elem_in h ev (Term.int_eval j) A.1).2
theorem own_nea {Z : State} {h : Heap} {a b : Addr} {C : String} {a0 : Array Value} {k : Nat} {kc : ClassId} {ty : FieldType} {z : Int32} {vs : List Value} {d : Value} (F : Exa Z h a C) (wi : (Jvm.Cond.instantiable C k).before a0 Z = true) (V : Arv Z h b kc ty z vs d) : a ≠ b := by
  obtain ⟨c, A, -⟩ := V; exact ne_arr F wi A
theorem own_pd0 : parseMethodDescriptor "([BIJ)V" = some ⟨[(.array .byte), .int, .long], none⟩ := by decide +kernel
theorem own_pd1 : parseMethodDescriptor "([BI)J" = some ⟨[(.array .byte), .int], some .long⟩ := by decide +kernel
theorem own_pd2 : parseMethodDescriptor "([B)Lcom/example/tessera/tessera/tokenhash/TokenHash;" = some ⟨[(.array .byte)], some (.object "com/example/tessera/tessera/tokenhash/TokenHash")⟩ := by decide +kernel
theorem own_pd3 : parseMethodDescriptor "([B)V" = some ⟨[(.array .byte)], none⟩ := by decide +kernel
theorem own_pd4 : parseMethodDescriptor "()[B" = some ⟨[], some (.array .byte)⟩ := by decide +kernel
/-- one byte more at the end -/
def own_cat (r : Int64) (x : Int32) : Int64 := (r <<< ((8 : Int32) &&& 0x3f).toInt64) ||| (x.toInt64 &&& 255)
theorem own_cat_eq (r : Int64) (x : Int32) (y : Int) (h0 : 0 ≤ y) (h1 : y < 18446744073709551616) (hr : r.toInt % 18446744073709551616 = y / 256) (hx : x.toInt % 256 = y % 256) : (own_cat r x).toInt % 18446744073709551616 = y := by
  have a := c_lshl r 8 8 (by decide)
  have b : (x.toInt64 &&& 255).toInt = x.toInt % 256 := by
    rw [Jvm.Kit.i64_mask x.toInt64 255 (k := 8) (by decide) (by decide), Jvm.Kit.i64_of_i32]; rfl
  have c := c_orL (r <<< ((8 : Int32) &&& 0x3f).toInt64) (x.toInt64 &&& 255) 8 (by decide) 256 (by decide)
  unfold own_cat
  generalize (r <<< ((8 : Int32) &&& 0x3f).toInt64) = u at *
  generalize (x.toInt64 &&& 255) = w at *
  have c' := c (by omega) (by omega) (by omega)
  omega
theorem own_byte (v : Int64) (q : Int32) (k : Nat) (hk : q.toBitVec.toNat % 64 = k) (h0 : 0 < k) : (nar .byte (((v.toUInt64 >>> (q &&& 0x3f).toInt64.toUInt64).toInt64).toInt32.toInt8.toInt32)).toInt % 256 = (v.toInt % 18446744073709551616) / (2 ^ k : Nat) % 256 := by
  have a := c_lushr v q k hk h0
  generalize (v.toUInt64 >>> (q &&& 0x3f).toInt64.toUInt64).toInt64 = u at *
  have b := c_l2i u
  generalize u.toInt32 = z at *
  have c := c_i2b z
  generalize z.toInt8.toInt32 = t at *
  have d := (c_i2b t).1
  show (t.toInt8.toInt32).toInt % 256 = _
  rw [← a]
  omega
theorem own_byte0 (v : Int64) : (nar .byte (v.toInt32.toInt8.toInt32)).toInt % 256 = (v.toInt % 18446744073709551616) % 256 := by
  have b := c_l2i v
  generalize v.toInt32 = z at *
  have c := c_i2b z
  generalize z.toInt8.toInt32 = t at *
  have d := (c_i2b t).1
  show (t.toInt8.toInt32).toInt % 256 = _
  omega
def own_by (v : Int64) (q : Int32) : Int32 := nar .byte (((v.toUInt64 >>> (q &&& 0x3f).toInt64.toUInt64).toInt64).toInt32.toInt8.toInt32)
def own_by0 (v : Int64) : Int32 := nar .byte (v.toInt32.toInt8.toInt32)
def own_get (x0 x1 x2 x3 x4 x5 x6 x7 : Int32) : Int64 := own_cat (own_cat (own_cat (own_cat (own_cat (own_cat (own_cat (own_cat 0 x0) x1) x2) x3) x4) x5) x6) x7
theorem own_round (v : Int64) : own_get (own_by v 56) (own_by v 48) (own_by v 40) (own_by v 32) (own_by v 24) (own_by v 16) (own_by v 8) (own_by0 v) = v := by
  have r := rng64 v
  have e0 : (0 : Int64).toInt = 0 := by decide
  generalize hu : v.toInt % 18446744073709551616 = U
  have u0 : 0 ≤ U := by omega
  have u1 : U < 18446744073709551616 := by omega
  have w0 : 0 = U / 72057594037927936 / 256 := by omega
  have w1 : U / 72057594037927936 = U / 281474976710656 / 256 := by omega
  have w2 : U / 281474976710656 = U / 1099511627776 / 256 := by omega
  have w3 : U / 1099511627776 = U / 4294967296 / 256 := by omega
  have w4 : U / 4294967296 = U / 16777216 / 256 := by omega
  have w5 : U / 16777216 = U / 65536 / 256 := by omega
  have w6 : U / 65536 = U / 256 / 256 := by omega
  have y0 : 0 ≤ U / 72057594037927936 ∧ U / 72057594037927936 < 18446744073709551616 := by omega
  have y1 : 0 ≤ U / 281474976710656 ∧ U / 281474976710656 < 18446744073709551616 := by omega
  have y2 : 0 ≤ U / 1099511627776 ∧ U / 1099511627776 < 18446744073709551616 := by omega
  have y3 : 0 ≤ U / 4294967296 ∧ U / 4294967296 < 18446744073709551616 := by omega
  have y4 : 0 ≤ U / 16777216 ∧ U / 16777216 < 18446744073709551616 := by omega
  have y5 : 0 ≤ U / 65536 ∧ U / 65536 < 18446744073709551616 := by omega
  have y6 : 0 ≤ U / 256 ∧ U / 256 < 18446744073709551616 := by omega
  have b0 : (own_by v 56).toInt % 256 = U / 72057594037927936 % 256 := by rw [← hu]; exact own_byte v 56 56 (by decide) (by decide)
  have b1 : (own_by v 48).toInt % 256 = U / 281474976710656 % 256 := by rw [← hu]; exact own_byte v 48 48 (by decide) (by decide)
  have b2 : (own_by v 40).toInt % 256 = U / 1099511627776 % 256 := by rw [← hu]; exact own_byte v 40 40 (by decide) (by decide)
  have b3 : (own_by v 32).toInt % 256 = U / 4294967296 % 256 := by rw [← hu]; exact own_byte v 32 32 (by decide) (by decide)
  have b4 : (own_by v 24).toInt % 256 = U / 16777216 % 256 := by rw [← hu]; exact own_byte v 24 24 (by decide) (by decide)
  have b5 : (own_by v 16).toInt % 256 = U / 65536 % 256 := by rw [← hu]; exact own_byte v 16 16 (by decide) (by decide)
  have b6 : (own_by v 8).toInt % 256 = U / 256 % 256 := by rw [← hu]; exact own_byte v 8 8 (by decide) (by decide)
  have b7 : (own_by0 v).toInt % 256 = U % 256 := by rw [← hu]; exact own_byte0 v
  have s0 := own_cat_eq 0 _ (U / 72057594037927936) y0.1 y0.2 (by rw [e0]; exact w0) b0
  have s1 := own_cat_eq _ _ (U / 281474976710656) y1.1 y1.2 (by rw [s0]; exact w1) b1
  have s2 := own_cat_eq _ _ (U / 1099511627776) y2.1 y2.2 (by rw [s1]; exact w2) b2
  have s3 := own_cat_eq _ _ (U / 4294967296) y3.1 y3.2 (by rw [s2]; exact w3) b3
  have s4 := own_cat_eq _ _ (U / 16777216) y4.1 y4.2 (by rw [s3]; exact w4) b4
  have s5 := own_cat_eq _ _ (U / 65536) y5.1 y5.2 (by rw [s4]; exact w5) b5
  have s6 := own_cat_eq _ _ (U / 256) y6.1 y6.2 (by rw [s5]; exact w6) b6
  have s7 := own_cat_eq _ _ U u0 u1 (by rw [s6]) b7
  rw [← Int64.toInt_inj]
  have r2 := rng64 (own_get (own_by v 56) (own_by v 48) (own_by v 40) (own_by v 32) (own_by v 24) (own_by v 16) (own_by v 8) (own_by0 v))
  have s8 : (own_get (own_by v 56) (own_by v 48) (own_by v 40) (own_by v 32) (own_by v 24) (own_by v 16) (own_by v 8) (own_by0 v)).toInt % 18446744073709551616 = U := s7
  clear s0 s1 s2 s3 s4 s5 s6 s7 b0 b1 b2 b3 b4 b5 b6 b7 w0 w1 w2 w3 w4 w5 w6 y0 y1 y2 y3 y4 y5 y6
  omega
theorem own_place (o : Int32) (k i : Nat) (j : Int32) (ho : o.toInt = k) (hj : j.toInt = i) (hk : k + i < 33) : (¬ o + j < 0 ∧ o + j < 33) ∧ (o + j).toNatClampNeg = k + i := by
  have e : (o + j).toInt = (k + i : Nat) := by rw [Jvm.Kit.i32_add] <;> omega
  refine ⟨⟨?_, ?_⟩, ?_⟩
  · rw [Int32.lt_iff_toInt_lt, e, show (0 : Int32).toInt = 0 from by decide]; omega
  · rw [Int32.lt_iff_toInt_lt, e, show (33 : Int32).toInt = 33 from by decide]; omega
  · show (o + j).toInt.toNat = _; rw [e]; rfl
theorem own_place0 (o : Int32) (k : Nat) (ho : o.toInt = k) (hk : k < 33) : (¬ o < 0 ∧ o < 33) ∧ o.toNatClampNeg = k := by
  refine ⟨⟨?_, ?_⟩, ?_⟩
  · rw [Int32.lt_iff_toInt_lt, ho, show (0 : Int32).toInt = 0 from by decide]; omega
  · rw [Int32.lt_iff_toInt_lt, ho, show (33 : Int32).toInt = 33 from by decide]; omega
  · show o.toInt.toNat = _; rw [ho]; rfl
theorem own_p (m : Int32) : ¬ ((m &&& 2147483647) % 33) < 0 ∧ ((m &&& 2147483647) % 33) < 33 := by
  have h : 0 ≤ (m &&& 2147483647).toInt := by rw [Jvm.Kit.i32_mask m 2147483647 (k := 31) (by decide) (by decide)]; omega
  have e : (33 : Int32).toInt = 33 := by decide
  rw [Int32.lt_iff_toInt_lt, Int32.lt_iff_toInt_lt, Jvm.Kit.i32_rem_nonneg h, e, show (0 : Int32).toInt = 0 from by decide]
  omega
def own_setl (vs : List Value) (kk : Nat) (v : Int64) : List Value := ((((((((vs.set kk (.int (own_by v 56))).set (kk + 1) (.int (own_by v 48))).set (kk + 2) (.int (own_by v 40))).set (kk + 3) (.int (own_by v 32))).set (kk + 4) (.int (own_by v 24))).set (kk + 5) (.int (own_by v 16))).set (kk + 6) (.int (own_by v 8))).set (kk + 7) (.int (own_by0 v)))
theorem own_setl_len (vs : List Value) (kk : Nat) (v : Int64) : (own_setl vs kk v).length = vs.length := by simp only [own_setl, List.length_set]
theorem own_n1 : nar .byte (1 : Int32) = 1 := by decide
theorem own_miss (vs : List Value) (kk : Nat) (v : Int64) (j : Nat) (d : Value) (h : j < kk ∨ kk + 8 ≤ j) : (own_setl vs kk v).getD j d = vs.getD j d := by
  simp only [own_setl, List.getD_eq_getElem?_getD]
  rw [List.getElem?_set_ne (by omega), List.getElem?_set_ne (by omega), List.getElem?_set_ne (by omega), List.getElem?_set_ne (by omega), List.getElem?_set_ne (by omega), List.getElem?_set_ne (by omega), List.getElem?_set_ne (by omega), List.getElem?_set_ne (by omega)]
theorem own_hit0 (vs : List Value) (kk : Nat) (v : Int64) (d : Value) (h : kk + 8 ≤ vs.length) : (own_setl vs kk v).getD kk d = .int (own_by v 56) := by
  simp only [own_setl, List.getD_eq_getElem?_getD]
  rw [List.getElem?_set_ne (by omega), List.getElem?_set_ne (by omega), List.getElem?_set_ne (by omega), List.getElem?_set_ne (by omega), List.getElem?_set_ne (by omega), List.getElem?_set_ne (by omega), List.getElem?_set_ne (by omega), List.getElem?_set_self (by (try simp only [List.length_set]); omega)]; rfl
theorem own_hit1 (vs : List Value) (kk : Nat) (v : Int64) (d : Value) (h : kk + 8 ≤ vs.length) : (own_setl vs kk v).getD (kk + 1) d = .int (own_by v 48) := by
  simp only [own_setl, List.getD_eq_getElem?_getD]
  rw [List.getElem?_set_ne (by omega), List.getElem?_set_ne (by omega), List.getElem?_set_ne (by omega), List.getElem?_set_ne (by omega), List.getElem?_set_ne (by omega), List.getElem?_set_ne (by omega), List.getElem?_set_self (by (try simp only [List.length_set]); omega)]; rfl
theorem own_hit2 (vs : List Value) (kk : Nat) (v : Int64) (d : Value) (h : kk + 8 ≤ vs.length) : (own_setl vs kk v).getD (kk + 2) d = .int (own_by v 40) := by
  simp only [own_setl, List.getD_eq_getElem?_getD]
  rw [List.getElem?_set_ne (by omega), List.getElem?_set_ne (by omega), List.getElem?_set_ne (by omega), List.getElem?_set_ne (by omega), List.getElem?_set_ne (by omega), List.getElem?_set_self (by (try simp only [List.length_set]); omega)]; rfl
theorem own_hit3 (vs : List Value) (kk : Nat) (v : Int64) (d : Value) (h : kk + 8 ≤ vs.length) : (own_setl vs kk v).getD (kk + 3) d = .int (own_by v 32) := by
  simp only [own_setl, List.getD_eq_getElem?_getD]
  rw [List.getElem?_set_ne (by omega), List.getElem?_set_ne (by omega), List.getElem?_set_ne (by omega), List.getElem?_set_ne (by omega), List.getElem?_set_self (by (try simp only [List.length_set]); omega)]; rfl
theorem own_hit4 (vs : List Value) (kk : Nat) (v : Int64) (d : Value) (h : kk + 8 ≤ vs.length) : (own_setl vs kk v).getD (kk + 4) d = .int (own_by v 24) := by
  simp only [own_setl, List.getD_eq_getElem?_getD]
  rw [List.getElem?_set_ne (by omega), List.getElem?_set_ne (by omega), List.getElem?_set_ne (by omega), List.getElem?_set_self (by (try simp only [List.length_set]); omega)]; rfl
theorem own_hit5 (vs : List Value) (kk : Nat) (v : Int64) (d : Value) (h : kk + 8 ≤ vs.length) : (own_setl vs kk v).getD (kk + 5) d = .int (own_by v 16) := by
  simp only [own_setl, List.getD_eq_getElem?_getD]
  rw [List.getElem?_set_ne (by omega), List.getElem?_set_ne (by omega), List.getElem?_set_self (by (try simp only [List.length_set]); omega)]; rfl
theorem own_hit6 (vs : List Value) (kk : Nat) (v : Int64) (d : Value) (h : kk + 8 ≤ vs.length) : (own_setl vs kk v).getD (kk + 6) d = .int (own_by v 8) := by
  simp only [own_setl, List.getD_eq_getElem?_getD]
  rw [List.getElem?_set_ne (by omega), List.getElem?_set_self (by (try simp only [List.length_set]); omega)]; rfl
theorem own_hit7 (vs : List Value) (kk : Nat) (v : Int64) (d : Value) (h : kk + 8 ≤ vs.length) : (own_setl vs kk v).getD (kk + 7) d = .int (own_by0 v) := by
  simp only [own_setl, List.getD_eq_getElem?_getD]
  rw [List.getElem?_set_self (by (try simp only [List.length_set]); omega)]; rfl
def own_Q1 (Z : State) (b1 : Addr) (v1 : Int64) (kk : Nat) (kc : ClassId) (vs : List Value) (h0 : Heap) (n0 : Nat) (v : Option Value) (h : Heap) (L : List Loc) : Prop := v = none ∧ Fr n0 L ∧ Keep h0 h [b1] ∧ Arv Z h b1 kc .byte 33 (own_setl vs kk v1) (.int 0)
theorem own_pn0 : plainName "com/example/tessera/tessera/tokenhash/TokenHashFromBytesPinLaw" = true := by first | (simp [plainName, overriddenIn]; done) | decide +kernel
theorem own_d1_0 : decode method_2_code 0 = .ok (.aload_n 0, 1) := by decide +kernel
theorem own_d1_1 : decode method_2_code 1 = .ok (.iload_n 1, 1) := by decide +kernel
theorem own_d1_2 : decode method_2_code 2 = .ok (.lload_n 2, 1) := by decide +kernel
theorem own_d1_3 : decode method_2_code 3 = .ok (.bipush 56, 2) := by decide +kernel
theorem own_d1_5 : decode method_2_code 5 = .ok (.lushr, 1) := by decide +kernel
theorem own_d1_6 : decode method_2_code 6 = .ok (.l2i, 1) := by decide +kernel
theorem own_d1_7 : decode method_2_code 7 = .ok (.i2b, 1) := by decide +kernel
theorem own_d1_8 : decode method_2_code 8 = .ok (.bastore, 1) := by decide +kernel
theorem own_d1_9 : decode method_2_code 9 = .ok (.aload_n 0, 1) := by decide +kernel
theorem own_d1_10 : decode method_2_code 10 = .ok (.iload_n 1, 1) := by decide +kernel
theorem own_d1_11 : decode method_2_code 11 = .ok (.iconst 1, 1) := by decide +kernel
theorem own_d1_12 : decode method_2_code 12 = .ok (.iadd, 1) := by decide +kernel
theorem own_d1_13 : decode method_2_code 13 = .ok (.lload_n 2, 1) := by decide +kernel
theorem own_d1_14 : decode method_2_code 14 = .ok (.bipush 48, 2) := by decide +kernel
theorem own_d1_16 : decode method_2_code 16 = .ok (.lushr, 1) := by decide +kernel
theorem own_d1_17 : decode method_2_code 17 = .ok (.l2i, 1) := by decide +kernel
theorem own_d1_18 : decode method_2_code 18 = .ok (.i2b, 1) := by decide +kernel
theorem own_d1_19 : decode method_2_code 19 = .ok (.bastore, 1) := by decide +kernel
theorem own_d1_20 : decode method_2_code 20 = .ok (.aload_n 0, 1) := by decide +kernel
theorem own_d1_21 : decode method_2_code 21 = .ok (.iload_n 1, 1) := by decide +kernel
theorem own_d1_22 : decode method_2_code 22 = .ok (.iconst 2, 1) := by decide +kernel
theorem own_d1_23 : decode method_2_code 23 = .ok (.iadd, 1) := by decide +kernel
theorem own_d1_24 : decode method_2_code 24 = .ok (.lload_n 2, 1) := by decide +kernel
theorem own_d1_25 : decode method_2_code 25 = .ok (.bipush 40, 2) := by decide +kernel
theorem own_d1_27 : decode method_2_code 27 = .ok (.lushr, 1) := by decide +kernel
theorem own_d1_28 : decode method_2_code 28 = .ok (.l2i, 1) := by decide +kernel
theorem own_d1_29 : decode method_2_code 29 = .ok (.i2b, 1) := by decide +kernel
theorem own_d1_30 : decode method_2_code 30 = .ok (.bastore, 1) := by decide +kernel
theorem own_d1_31 : decode method_2_code 31 = .ok (.aload_n 0, 1) := by decide +kernel
theorem own_d1_32 : decode method_2_code 32 = .ok (.iload_n 1, 1) := by decide +kernel
theorem own_d1_33 : decode method_2_code 33 = .ok (.iconst 3, 1) := by decide +kernel
theorem own_d1_34 : decode method_2_code 34 = .ok (.iadd, 1) := by decide +kernel
theorem own_d1_35 : decode method_2_code 35 = .ok (.lload_n 2, 1) := by decide +kernel
theorem own_d1_36 : decode method_2_code 36 = .ok (.bipush 32, 2) := by decide +kernel
theorem own_d1_38 : decode method_2_code 38 = .ok (.lushr, 1) := by decide +kernel
theorem own_d1_39 : decode method_2_code 39 = .ok (.l2i, 1) := by decide +kernel
theorem own_d1_40 : decode method_2_code 40 = .ok (.i2b, 1) := by decide +kernel
theorem own_d1_41 : decode method_2_code 41 = .ok (.bastore, 1) := by decide +kernel
theorem own_d1_42 : decode method_2_code 42 = .ok (.aload_n 0, 1) := by decide +kernel
theorem own_d1_43 : decode method_2_code 43 = .ok (.iload_n 1, 1) := by decide +kernel
theorem own_d1_44 : decode method_2_code 44 = .ok (.iconst 4, 1) := by decide +kernel
theorem own_d1_45 : decode method_2_code 45 = .ok (.iadd, 1) := by decide +kernel
theorem own_d1_46 : decode method_2_code 46 = .ok (.lload_n 2, 1) := by decide +kernel
theorem own_d1_47 : decode method_2_code 47 = .ok (.bipush 24, 2) := by decide +kernel
theorem own_d1_49 : decode method_2_code 49 = .ok (.lushr, 1) := by decide +kernel
theorem own_d1_50 : decode method_2_code 50 = .ok (.l2i, 1) := by decide +kernel
theorem own_d1_51 : decode method_2_code 51 = .ok (.i2b, 1) := by decide +kernel
theorem own_d1_52 : decode method_2_code 52 = .ok (.bastore, 1) := by decide +kernel
theorem own_d1_53 : decode method_2_code 53 = .ok (.aload_n 0, 1) := by decide +kernel
theorem own_d1_54 : decode method_2_code 54 = .ok (.iload_n 1, 1) := by decide +kernel
theorem own_d1_55 : decode method_2_code 55 = .ok (.iconst 5, 1) := by decide +kernel
theorem own_d1_56 : decode method_2_code 56 = .ok (.iadd, 1) := by decide +kernel
theorem own_d1_57 : decode method_2_code 57 = .ok (.lload_n 2, 1) := by decide +kernel
theorem own_d1_58 : decode method_2_code 58 = .ok (.bipush 16, 2) := by decide +kernel
theorem own_d1_60 : decode method_2_code 60 = .ok (.lushr, 1) := by decide +kernel
theorem own_d1_61 : decode method_2_code 61 = .ok (.l2i, 1) := by decide +kernel
theorem own_d1_62 : decode method_2_code 62 = .ok (.i2b, 1) := by decide +kernel
theorem own_d1_63 : decode method_2_code 63 = .ok (.bastore, 1) := by decide +kernel
theorem own_d1_64 : decode method_2_code 64 = .ok (.aload_n 0, 1) := by decide +kernel
theorem own_d1_65 : decode method_2_code 65 = .ok (.iload_n 1, 1) := by decide +kernel
theorem own_d1_66 : decode method_2_code 66 = .ok (.bipush 6, 2) := by decide +kernel
theorem own_d1_68 : decode method_2_code 68 = .ok (.iadd, 1) := by decide +kernel
theorem own_d1_69 : decode method_2_code 69 = .ok (.lload_n 2, 1) := by decide +kernel
theorem own_d1_70 : decode method_2_code 70 = .ok (.bipush 8, 2) := by decide +kernel
theorem own_d1_72 : decode method_2_code 72 = .ok (.lushr, 1) := by decide +kernel
theorem own_d1_73 : decode method_2_code 73 = .ok (.l2i, 1) := by decide +kernel
theorem own_d1_74 : decode method_2_code 74 = .ok (.i2b, 1) := by decide +kernel
theorem own_d1_75 : decode method_2_code 75 = .ok (.bastore, 1) := by decide +kernel
theorem own_d1_76 : decode method_2_code 76 = .ok (.aload_n 0, 1) := by decide +kernel
theorem own_d1_77 : decode method_2_code 77 = .ok (.iload_n 1, 1) := by decide +kernel
theorem own_d1_78 : decode method_2_code 78 = .ok (.bipush 7, 2) := by decide +kernel
theorem own_d1_80 : decode method_2_code 80 = .ok (.iadd, 1) := by decide +kernel
theorem own_d1_81 : decode method_2_code 81 = .ok (.lload_n 2, 1) := by decide +kernel
theorem own_d1_82 : decode method_2_code 82 = .ok (.l2i, 1) := by decide +kernel
theorem own_d1_83 : decode method_2_code 83 = .ok (.i2b, 1) := by decide +kernel
theorem own_d1_84 : decode method_2_code 84 = .ok (.bastore, 1) := by decide +kernel
theorem own_d1_85 : decode method_2_code 85 = .ok (.return_, 1) := by decide +kernel
theorem own_ef1 (m : MethodId) (b1 : Addr) (o : Int32) (v1 : Int64) : entryFrame m #[(.ref b1), (.int o), (.long v1)] 4 = mkF m 0 #[.val (.ref b1), .val (.int o), .val (.long v1), .second] [] := by first | (simp [entryFrame, mkF, argsToLocals, Value.category]; done) | rfl
set_option maxRecDepth 65536 in
set_option maxHeartbeats 40000000 in
theorem own_rm1 (l : Launch) (Z : State) (a0 : Array Value) (hw : ∀ d ∈ tables_1, d.before a0 Z = true) (ws : List Jvm.Cond) (b1 : Addr) (o : Int32) (v1 : Int64) (kk : Nat) (kc : ClassId) (vs : List Value) (h0 : Heap) (n0 : Nat) (Z0 : n0 ≤ h0.size) (Vb : Arv Z h0 b1 kc .byte 33 vs (.int 0)) (hl : vs.length = 33) (ho : o.toInt = kk) (hk : kk + 8 ≤ 33) (g1 : n0 ≤ b1) :
    MetFree l (⟨"com/example/tessera/tessera/tokenhash/TokenHashFromBytesPinLaw", "put", "([BIJ)V"⟩ : MethodName) (head1 (Jvm.Cond.code (⟨"com/example/tessera/tessera/tokenhash/TokenHashFromBytesPinLaw", "put", "([BIJ)V"⟩ : MethodName) method_2_code 4 none :: ws) ({ frames := 0, cells := 0, slots := 0, locals := 0 } : Room)) (fun a U => a = #[(.ref b1), (.int o), (.long v1)] ∧ Z.Warmed39 U.vm ∧ U.heap = h0) (fun _ _ _ _ _ => True) (fun _ U o U' => ∃ v L, o = .returned v ∧ own_Q1 Z b1 v1 kk kc vs h0 n0 v U'.heap L ∧ FrameEnd U o U' L ({ frames := 0, cells := 0, slots := 0, locals := 0 } : Room).cells ({ frames := 0, cells := 0, slots := 0, locals := 0 } : Room).slots) := by
  refine MetFree.of_bodySF (plainFor_of_name own_pn0) hisR ?_
  intro p e s m args below meth c s₁ Bd hml0 hP hK
  obtain ⟨rfl, hZ, hh⟩ := hP
  have hx := Bd.exec
  have hby := Bd.bytes
  have hml : c.maxLocals = 4 := hml0
  have hown : s.vm.findClass "com/example/tessera/tessera/tokenhash/TokenHashFromBytesPinLaw" = some m.cls := findClass_of_methodNamed Bd.named
  have hnm := (name_of_methodNamed Bd.named Bd.method).1
  have X0 : Stand p l e ({ frames := 0, cells := 0, slots := 0, locals := 0 } : Room) s m #[(.ref b1), (.int o), (.long v1)] below meth c s₁ [] 0 0 := Stand.of_body Bd
  have e0 : s₁.heap = h0 := by rw [← hh, Bd.state]; rfl
  have N0 := Fr.nil n0
  refine own_in (Q := own_Q1 Z b1 v1 kk kc vs h0 n0) ?_
  rw [own_ef1]
  show own_G _ _ _ _ _ _ _ (s₁.setTop (mkF m 0 #[.val (.ref b1), .val (.int o), .val (.long v1), .second] []))
  refine own_st (fun t k => XS.aloadN X0.here hx rfl (hb hby own_d1_0) rfl rfl k) ?_
  show own_G _ _ _ _ _ _ _ (s₁.setTop (mkF m 1 #[.val (.ref b1), .val (.int o), .val (.long v1), .second] [(.ref b1)]))
  refine own_st (fun t k => XS.iloadN X0.here hx rfl (hb hby own_d1_1) rfl k) ?_
  show own_G _ _ _ _ _ _ _ (s₁.setTop (mkF m 2 #[.val (.ref b1), .val (.int o), .val (.long v1), .second] [(.int o), (.ref b1)]))
  refine own_st (fun t k => XS.lloadN X0.here hx rfl (hb hby own_d1_2) rfl k) ?_
  show own_G _ _ _ _ _ _ _ (s₁.setTop (mkF m 3 #[.val (.ref b1), .val (.int o), .val (.long v1), .second] [(.long v1), (.int o), (.ref b1)]))
  refine own_st (fun t k => XS.bipush X0.here hx rfl (hb hby own_d1_3) k) ?_
  show own_G _ _ _ _ _ _ _ (s₁.setTop (mkF m 5 #[.val (.ref b1), .val (.int o), .val (.long v1), .second] [(.int (56 : Int32)), (.long v1), (.int o), (.ref b1)]))
  refine own_st (fun t k => XS.lushr X0.here hx rfl (hb hby own_d1_5) rfl k) ?_
  show own_G _ _ _ _ _ _ _ (s₁.setTop (mkF m 6 #[.val (.ref b1), .val (.int o), .val (.long v1), .second] [(.long ((v1.toUInt64 >>> ((56 : Int32) &&& 0x3f).toInt64.toUInt64).toInt64)), (.int o), (.ref b1)]))
  refine own_st (fun t k => XS.l2i X0.here hx rfl (hb hby own_d1_6) rfl k) ?_
  show own_G _ _ _ _ _ _ _ (s₁.setTop (mkF m 7 #[.val (.ref b1), .val (.int o), .val (.long v1), .second] [(.int (((v1.toUInt64 >>> ((56 : Int32) &&& 0x3f).toInt64.toUInt64).toInt64).toInt32)), (.int o), (.ref b1)]))
  refine own_st (fun t k => XS.i2b X0.here hx rfl (hb hby own_d1_7) rfl k) ?_
  show own_G _ _ _ _ _ _ _ (s₁.setTop (mkF m 8 #[.val (.ref b1), .val (.int o), .val (.long v1), .second] [(.int ((((v1.toUInt64 >>> ((56 : Int32) &&& 0x3f).toInt64.toUInt64).toInt64).toInt32).toInt8.toInt32)), (.int o), (.ref b1)]))
  obtain ⟨cl1, Ar1, q1, S1, M1, H1, G1⟩ := Vb
  have pl0 := own_place0 o kk ho (by omega)
  have hin1 : ¬ (o < 0 ∨ cl1.slots.size ≤ (o).toNatClampNeg) := inb_of S1 pl0.1
  obtain ⟨T2, h2, X2, e2, W2, st2⟩ := Jvm.RoadKit.stB X0 hx hZ e0 Ar1 (j := o) hin1 (g := (mkF m 8 #[.val (.ref b1), .val (.int o), .val (.long v1), .second] [(.int ((((v1.toUInt64 >>> ((56 : Int32) &&& 0x3f).toInt64.toUInt64).toInt64).toInt32).toInt8.toInt32)), (.int o), (.ref b1)])) rfl rfl (hb hby own_d1_8)
  have N2 := Fr.snoc X2 N0 g1
  refine own_st (fun t k => st2 t k) ?_
  show own_G _ _ _ _ _ _ _ (T2.setTop (mkF m 9 #[.val (.ref b1), .val (.int o), .val (.long v1), .second] []))
  have V0 : Arv Z h2 b1 kc .byte 33 (vs.set kk (.int (own_by v1 56))) (.int 0) := Arv.set Ar1 q1 S1 M1 H1 G1 (fits_nar_byte _) W2 kk pl0.2 (by simp only [List.length_set, hl]; omega)
  have Zz3 : n0 ≤ h2.size := Nat.le_trans Z0 (Keep.of_wr W2).1
  have Kk4 := (Keep.refl h0 [b1]).wr W2 (Or.inl (List.mem_of_getElem? (i := 0) rfl))
  refine own_st (fun t k => XS.aloadN X2.here hx rfl (hb hby own_d1_9) rfl rfl k) ?_
  show own_G _ _ _ _ _ _ _ (T2.setTop (mkF m 10 #[.val (.ref b1), .val (.int o), .val (.long v1), .second] [(.ref b1)]))
  refine own_st (fun t k => XS.iloadN X2.here hx rfl (hb hby own_d1_10) rfl k) ?_
  show own_G _ _ _ _ _ _ _ (T2.setTop (mkF m 11 #[.val (.ref b1), .val (.int o), .val (.long v1), .second] [(.int o), (.ref b1)]))
  refine own_st (fun t k => XS.iconst X2.here hx rfl (hb hby own_d1_11) k) ?_
  show own_G _ _ _ _ _ _ _ (T2.setTop (mkF m 12 #[.val (.ref b1), .val (.int o), .val (.long v1), .second] [(.int (1 : Int32)), (.int o), (.ref b1)]))
  refine own_st (fun t k => XS.iadd X2.here hx rfl (hb hby own_d1_12) rfl k) ?_
  show own_G _ _ _ _ _ _ _ (T2.setTop (mkF m 13 #[.val (.ref b1), .val (.int o), .val (.long v1), .second] [(.int (o + (1 : Int32))), (.ref b1)]))
  refine own_st (fun t k => XS.lloadN X2.here hx rfl (hb hby own_d1_13) rfl k) ?_
  show own_G _ _ _ _ _ _ _ (T2.setTop (mkF m 14 #[.val (.ref b1), .val (.int o), .val (.long v1), .second] [(.long v1), (.int (o + (1 : Int32))), (.ref b1)]))
  refine own_st (fun t k => XS.bipush X2.here hx rfl (hb hby own_d1_14) k) ?_
  show own_G _ _ _ _ _ _ _ (T2.setTop (mkF m 16 #[.val (.ref b1), .val (.int o), .val (.long v1), .second] [(.int (48 : Int32)), (.long v1), (.int (o + (1 : Int32))), (.ref b1)]))
  refine own_st (fun t k => XS.lushr X2.here hx rfl (hb hby own_d1_16) rfl k) ?_
  show own_G _ _ _ _ _ _ _ (T2.setTop (mkF m 17 #[.val (.ref b1), .val (.int o), .val (.long v1), .second] [(.long ((v1.toUInt64 >>> ((48 : Int32) &&& 0x3f).toInt64.toUInt64).toInt64)), (.int (o + (1 : Int32))), (.ref b1)]))
  refine own_st (fun t k => XS.l2i X2.here hx rfl (hb hby own_d1_17) rfl k) ?_
  show own_G _ _ _ _ _ _ _ (T2.setTop (mkF m 18 #[.val (.ref b1), .val (.int o), .val (.long v1), .second] [(.int (((v1.toUInt64 >>> ((48 : Int32) &&& 0x3f).toInt64.toUInt64).toInt64).toInt32)), (.int (o + (1 : Int32))), (.ref b1)]))
  refine own_st (fun t k => XS.i2b X2.here hx rfl (hb hby own_d1_18) rfl k) ?_
  show own_G _ _ _ _ _ _ _ (T2.setTop (mkF m 19 #[.val (.ref b1), .val (.int o), .val (.long v1), .second] [(.int ((((v1.toUInt64 >>> ((48 : Int32) &&& 0x3f).toInt64.toUInt64).toInt64).toInt32).toInt8.toInt32)), (.int (o + (1 : Int32))), (.ref b1)]))
  obtain ⟨cl5, Ar5, q5, S5, M5, H5, G5⟩ := V0
  have pl1 := own_place o kk 1 1 ho (by decide) (by omega)
  have hin5 : ¬ ((o + (1 : Int32)) < 0 ∨ cl5.slots.size ≤ ((o + (1 : Int32))).toNatClampNeg) := inb_of S5 pl1.1
  obtain ⟨T6, h6, X6, e6, W6, st6⟩ := Jvm.RoadKit.stB X2 hx hZ e2 Ar5 (j := (o + (1 : Int32))) hin5 (g := (mkF m 19 #[.val (.ref b1), .val (.int o), .val (.long v1), .second] [(.int ((((v1.toUInt64 >>> ((48 : Int32) &&& 0x3f).toInt64.toUInt64).toInt64).toInt32).toInt8.toInt32)), (.int (o + (1 : Int32))), (.ref b1)])) rfl rfl (hb hby own_d1_19)
  have N6 := Fr.snoc X6 N2 g1
  refine own_st (fun t k => st6 t k) ?_
  show own_G _ _ _ _ _ _ _ (T6.setTop (mkF m 20 #[.val (.ref b1), .val (.int o), .val (.long v1), .second] []))
  have V1 : Arv Z h6 b1 kc .byte 33 ((vs.set kk (.int (own_by v1 56))).set (kk + 1) (.int (own_by v1 48))) (.int 0) := Arv.set Ar5 q5 S5 M5 H5 G5 (fits_nar_byte _) W6 (kk + 1) pl1.2 (by simp only [List.length_set, hl]; omega)
  have Zz7 : n0 ≤ h6.size := Nat.le_trans Zz3 (Keep.of_wr W6).1
  have Kk8 := Kk4.wr W6 (Or.inl (List.mem_of_getElem? (i := 0) rfl))
  refine own_st (fun t k => XS.aloadN X6.here hx rfl (hb hby own_d1_20) rfl rfl k) ?_
  show own_G _ _ _ _ _ _ _ (T6.setTop (mkF m 21 #[.val (.ref b1), .val (.int o), .val (.long v1), .second] [(.ref b1)]))
  refine own_st (fun t k => XS.iloadN X6.here hx rfl (hb hby own_d1_21) rfl k) ?_
  show own_G _ _ _ _ _ _ _ (T6.setTop (mkF m 22 #[.val (.ref b1), .val (.int o), .val (.long v1), .second] [(.int o), (.ref b1)]))
  refine own_st (fun t k => XS.iconst X6.here hx rfl (hb hby own_d1_22) k) ?_
  show own_G _ _ _ _ _ _ _ (T6.setTop (mkF m 23 #[.val (.ref b1), .val (.int o), .val (.long v1), .second] [(.int (2 : Int32)), (.int o), (.ref b1)]))
  refine own_st (fun t k => XS.iadd X6.here hx rfl (hb hby own_d1_23) rfl k) ?_
  show own_G _ _ _ _ _ _ _ (T6.setTop (mkF m 24 #[.val (.ref b1), .val (.int o), .val (.long v1), .second] [(.int (o + (2 : Int32))), (.ref b1)]))
  refine own_st (fun t k => XS.lloadN X6.here hx rfl (hb hby own_d1_24) rfl k) ?_
  show own_G _ _ _ _ _ _ _ (T6.setTop (mkF m 25 #[.val (.ref b1), .val (.int o), .val (.long v1), .second] [(.long v1), (.int (o + (2 : Int32))), (.ref b1)]))
  refine own_st (fun t k => XS.bipush X6.here hx rfl (hb hby own_d1_25) k) ?_
  show own_G _ _ _ _ _ _ _ (T6.setTop (mkF m 27 #[.val (.ref b1), .val (.int o), .val (.long v1), .second] [(.int (40 : Int32)), (.long v1), (.int (o + (2 : Int32))), (.ref b1)]))
  refine own_st (fun t k => XS.lushr X6.here hx rfl (hb hby own_d1_27) rfl k) ?_
  show own_G _ _ _ _ _ _ _ (T6.setTop (mkF m 28 #[.val (.ref b1), .val (.int o), .val (.long v1), .second] [(.long ((v1.toUInt64 >>> ((40 : Int32) &&& 0x3f).toInt64.toUInt64).toInt64)), (.int (o + (2 : Int32))), (.ref b1)]))
  refine own_st (fun t k => XS.l2i X6.here hx rfl (hb hby own_d1_28) rfl k) ?_
  show own_G _ _ _ _ _ _ _ (T6.setTop (mkF m 29 #[.val (.ref b1), .val (.int o), .val (.long v1), .second] [(.int (((v1.toUInt64 >>> ((40 : Int32) &&& 0x3f).toInt64.toUInt64).toInt64).toInt32)), (.int (o + (2 : Int32))), (.ref b1)]))
  refine own_st (fun t k => XS.i2b X6.here hx rfl (hb hby own_d1_29) rfl k) ?_
  show own_G _ _ _ _ _ _ _ (T6.setTop (mkF m 30 #[.val (.ref b1), .val (.int o), .val (.long v1), .second] [(.int ((((v1.toUInt64 >>> ((40 : Int32) &&& 0x3f).toInt64.toUInt64).toInt64).toInt32).toInt8.toInt32)), (.int (o + (2 : Int32))), (.ref b1)]))
  obtain ⟨cl9, Ar9, q9, S9, M9, H9, G9⟩ := V1
  have pl2 := own_place o kk 2 2 ho (by decide) (by omega)
  have hin9 : ¬ ((o + (2 : Int32)) < 0 ∨ cl9.slots.size ≤ ((o + (2 : Int32))).toNatClampNeg) := inb_of S9 pl2.1
  obtain ⟨T10, h10, X10, e10, W10, st10⟩ := Jvm.RoadKit.stB X6 hx hZ e6 Ar9 (j := (o + (2 : Int32))) hin9 (g := (mkF m 30 #[.val (.ref b1), .val (.int o), .val (.long v1), .second] [(.int ((((v1.toUInt64 >>> ((40 : Int32) &&& 0x3f).toInt64.toUInt64).toInt64).toInt32).toInt8.toInt32)), (.int (o + (2 : Int32))), (.ref b1)])) rfl rfl (hb hby own_d1_30)
  have N10 := Fr.snoc X10 N6 g1
  refine own_st (fun t k => st10 t k) ?_
  show own_G _ _ _ _ _ _ _ (T10.setTop (mkF m 31 #[.val (.ref b1), .val (.int o), .val (.long v1), .second] []))
  have V2 : Arv Z h10 b1 kc .byte 33 (((vs.set kk (.int (own_by v1 56))).set (kk + 1) (.int (own_by v1 48))).set (kk + 2) (.int (own_by v1 40))) (.int 0) := Arv.set Ar9 q9 S9 M9 H9 G9 (fits_nar_byte _) W10 (kk + 2) pl2.2 (by simp only [List.length_set, hl]; omega)
  have Zz11 : n0 ≤ h10.size := Nat.le_trans Zz7 (Keep.of_wr W10).1
  have Kk12 := Kk8.wr W10 (Or.inl (List.mem_of_getElem? (i := 0) rfl))
  refine own_st (fun t k => XS.aloadN X10.here hx rfl (hb hby own_d1_31) rfl rfl k) ?_
  show own_G _ _ _ _ _ _ _ (T10.setTop (mkF m 32 #[.val (.ref b1), .val (.int o), .val (.long v1), .second] [(.ref b1)]))
  refine own_st (fun t k => XS.iloadN X10.here hx rfl (hb hby own_d1_32) rfl k) ?_
  show own_G _ _ _ _ _ _ _ (T10.setTop (mkF m 33 #[.val (.ref b1), .val (.int o), .val (.long v1), .second] [(.int o), (.ref b1)]))
  refine own_st (fun t k => XS.iconst X10.here hx rfl (hb hby own_d1_33) k) ?_
  show own_G _ _ _ _ _ _ _ (T10.setTop (mkF m 34 #[.val (.ref b1), .val (.int o), .val (.long v1), .second] [(.int (3 : Int32)), (.int o), (.ref b1)]))
  refine own_st (fun t k => XS.iadd X10.here hx rfl (hb hby own_d1_34) rfl k) ?_
  show own_G _ _ _ _ _ _ _ (T10.setTop (mkF m 35 #[.val (.ref b1), .val (.int o), .val (.long v1), .second] [(.int (o + (3 : Int32))), (.ref b1)]))
  refine own_st (fun t k => XS.lloadN X10.here hx rfl (hb hby own_d1_35) rfl k) ?_
  show own_G _ _ _ _ _ _ _ (T10.setTop (mkF m 36 #[.val (.ref b1), .val (.int o), .val (.long v1), .second] [(.long v1), (.int (o + (3 : Int32))), (.ref b1)]))
  refine own_st (fun t k => XS.bipush X10.here hx rfl (hb hby own_d1_36) k) ?_
  show own_G _ _ _ _ _ _ _ (T10.setTop (mkF m 38 #[.val (.ref b1), .val (.int o), .val (.long v1), .second] [(.int (32 : Int32)), (.long v1), (.int (o + (3 : Int32))), (.ref b1)]))
  refine own_st (fun t k => XS.lushr X10.here hx rfl (hb hby own_d1_38) rfl k) ?_
  show own_G _ _ _ _ _ _ _ (T10.setTop (mkF m 39 #[.val (.ref b1), .val (.int o), .val (.long v1), .second] [(.long ((v1.toUInt64 >>> ((32 : Int32) &&& 0x3f).toInt64.toUInt64).toInt64)), (.int (o + (3 : Int32))), (.ref b1)]))
  refine own_st (fun t k => XS.l2i X10.here hx rfl (hb hby own_d1_39) rfl k) ?_
  show own_G _ _ _ _ _ _ _ (T10.setTop (mkF m 40 #[.val (.ref b1), .val (.int o), .val (.long v1), .second] [(.int (((v1.toUInt64 >>> ((32 : Int32) &&& 0x3f).toInt64.toUInt64).toInt64).toInt32)), (.int (o + (3 : Int32))), (.ref b1)]))
  refine own_st (fun t k => XS.i2b X10.here hx rfl (hb hby own_d1_40) rfl k) ?_
  show own_G _ _ _ _ _ _ _ (T10.setTop (mkF m 41 #[.val (.ref b1), .val (.int o), .val (.long v1), .second] [(.int ((((v1.toUInt64 >>> ((32 : Int32) &&& 0x3f).toInt64.toUInt64).toInt64).toInt32).toInt8.toInt32)), (.int (o + (3 : Int32))), (.ref b1)]))
  obtain ⟨cl13, Ar13, q13, S13, M13, H13, G13⟩ := V2
  have pl3 := own_place o kk 3 3 ho (by decide) (by omega)
  have hin13 : ¬ ((o + (3 : Int32)) < 0 ∨ cl13.slots.size ≤ ((o + (3 : Int32))).toNatClampNeg) := inb_of S13 pl3.1
  obtain ⟨T14, h14, X14, e14, W14, st14⟩ := Jvm.RoadKit.stB X10 hx hZ e10 Ar13 (j := (o + (3 : Int32))) hin13 (g := (mkF m 41 #[.val (.ref b1), .val (.int o), .val (.long v1), .second] [(.int ((((v1.toUInt64 >>> ((32 : Int32) &&& 0x3f).toInt64.toUInt64).toInt64).toInt32).toInt8.toInt32)), (.int (o + (3 : Int32))), (.ref b1)])) rfl rfl (hb hby own_d1_41)
  have N14 := Fr.snoc X14 N10 g1
  refine own_st (fun t k => st14 t k) ?_
  show own_G _ _ _ _ _ _ _ (T14.setTop (mkF m 42 #[.val (.ref b1), .val (.int o), .val (.long v1), .second] []))
  have V3 : Arv Z h14 b1 kc .byte 33 ((((vs.set kk (.int (own_by v1 56))).set (kk + 1) (.int (own_by v1 48))).set (kk + 2) (.int (own_by v1 40))).set (kk + 3) (.int (own_by v1 32))) (.int 0) := Arv.set Ar13 q13 S13 M13 H13 G13 (fits_nar_byte _) W14 (kk + 3) pl3.2 (by simp only [List.length_set, hl]; omega)
  have Zz15 : n0 ≤ h14.size := Nat.le_trans Zz11 (Keep.of_wr W14).1
  have Kk16 := Kk12.wr W14 (Or.inl (List.mem_of_getElem? (i := 0) rfl))
  refine own_st (fun t k => XS.aloadN X14.here hx rfl (hb hby own_d1_42) rfl rfl k) ?_
  show own_G _ _ _ _ _ _ _ (T14.setTop (mkF m 43 #[.val (.ref b1), .val (.int o), .val (.long v1), .second] [(.ref b1)]))
  refine own_st (fun t k => XS.iloadN X14.here hx rfl (hb hby own_d1_43) rfl k) ?_
  show own_G _ _ _ _ _ _ _ (T14.setTop (mkF m 44 #[.val (.ref b1), .val (.int o), .val (.long v1), .second] [(.int o), (.ref b1)]))
  refine own_st (fun t k => XS.iconst X14.here hx rfl (hb hby own_d1_44) k) ?_
  show own_G _ _ _ _ _ _ _ (T14.setTop (mkF m 45 #[.val (.ref b1), .val (.int o), .val (.long v1), .second] [(.int (4 : Int32)), (.int o), (.ref b1)]))
  refine own_st (fun t k => XS.iadd X14.here hx rfl (hb hby own_d1_45) rfl k) ?_
  show own_G _ _ _ _ _ _ _ (T14.setTop (mkF m 46 #[.val (.ref b1), .val (.int o), .val (.long v1), .second] [(.int (o + (4 : Int32))), (.ref b1)]))
  refine own_st (fun t k => XS.lloadN X14.here hx rfl (hb hby own_d1_46) rfl k) ?_
  show own_G _ _ _ _ _ _ _ (T14.setTop (mkF m 47 #[.val (.ref b1), .val (.int o), .val (.long v1), .second] [(.long v1), (.int (o + (4 : Int32))), (.ref b1)]))
  refine own_st (fun t k => XS.bipush X14.here hx rfl (hb hby own_d1_47) k) ?_
  show own_G _ _ _ _ _ _ _ (T14.setTop (mkF m 49 #[.val (.ref b1), .val (.int o), .val (.long v1), .second] [(.int (24 : Int32)), (.long v1), (.int (o + (4 : Int32))), (.ref b1)]))
  refine own_st (fun t k => XS.lushr X14.here hx rfl (hb hby own_d1_49) rfl k) ?_
  show own_G _ _ _ _ _ _ _ (T14.setTop (mkF m 50 #[.val (.ref b1), .val (.int o), .val (.long v1), .second] [(.long ((v1.toUInt64 >>> ((24 : Int32) &&& 0x3f).toInt64.toUInt64).toInt64)), (.int (o + (4 : Int32))), (.ref b1)]))
  refine own_st (fun t k => XS.l2i X14.here hx rfl (hb hby own_d1_50) rfl k) ?_
  show own_G _ _ _ _ _ _ _ (T14.setTop (mkF m 51 #[.val (.ref b1), .val (.int o), .val (.long v1), .second] [(.int (((v1.toUInt64 >>> ((24 : Int32) &&& 0x3f).toInt64.toUInt64).toInt64).toInt32)), (.int (o + (4 : Int32))), (.ref b1)]))
  refine own_st (fun t k => XS.i2b X14.here hx rfl (hb hby own_d1_51) rfl k) ?_
  show own_G _ _ _ _ _ _ _ (T14.setTop (mkF m 52 #[.val (.ref b1), .val (.int o), .val (.long v1), .second] [(.int ((((v1.toUInt64 >>> ((24 : Int32) &&& 0x3f).toInt64.toUInt64).toInt64).toInt32).toInt8.toInt32)), (.int (o + (4 : Int32))), (.ref b1)]))
  obtain ⟨cl17, Ar17, q17, S17, M17, H17, G17⟩ := V3
  have pl4 := own_place o kk 4 4 ho (by decide) (by omega)
  have hin17 : ¬ ((o + (4 : Int32)) < 0 ∨ cl17.slots.size ≤ ((o + (4 : Int32))).toNatClampNeg) := inb_of S17 pl4.1
  obtain ⟨T18, h18, X18, e18, W18, st18⟩ := Jvm.RoadKit.stB X14 hx hZ e14 Ar17 (j := (o + (4 : Int32))) hin17 (g := (mkF m 52 #[.val (.ref b1), .val (.int o), .val (.long v1), .second] [(.int ((((v1.toUInt64 >>> ((24 : Int32) &&& 0x3f).toInt64.toUInt64).toInt64).toInt32).toInt8.toInt32)), (.int (o + (4 : Int32))), (.ref b1)])) rfl rfl (hb hby own_d1_52)
  have N18 := Fr.snoc X18 N14 g1
  refine own_st (fun t k => st18 t k) ?_
  show own_G _ _ _ _ _ _ _ (T18.setTop (mkF m 53 #[.val (.ref b1), .val (.int o), .val (.long v1), .second] []))
  have V4 : Arv Z h18 b1 kc .byte 33 (((((vs.set kk (.int (own_by v1 56))).set (kk + 1) (.int (own_by v1 48))).set (kk + 2) (.int (own_by v1 40))).set (kk + 3) (.int (own_by v1 32))).set (kk + 4) (.int (own_by v1 24))) (.int 0) := Arv.set Ar17 q17 S17 M17 H17 G17 (fits_nar_byte _) W18 (kk + 4) pl4.2 (by simp only [List.length_set, hl]; omega)
  have Zz19 : n0 ≤ h18.size := Nat.le_trans Zz15 (Keep.of_wr W18).1
  have Kk20 := Kk16.wr W18 (Or.inl (List.mem_of_getElem? (i := 0) rfl))
  refine own_st (fun t k => XS.aloadN X18.here hx rfl (hb hby own_d1_53) rfl rfl k) ?_
  show own_G _ _ _ _ _ _ _ (T18.setTop (mkF m 54 #[.val (.ref b1), .val (.int o), .val (.long v1), .second] [(.ref b1)]))
  refine own_st (fun t k => XS.iloadN X18.here hx rfl (hb hby own_d1_54) rfl k) ?_
  show own_G _ _ _ _ _ _ _ (T18.setTop (mkF m 55 #[.val (.ref b1), .val (.int o), .val (.long v1), .second] [(.int o), (.ref b1)]))
  refine own_st (fun t k => XS.iconst X18.here hx rfl (hb hby own_d1_55) k) ?_
  show own_G _ _ _ _ _ _ _ (T18.setTop (mkF m 56 #[.val (.ref b1), .val (.int o), .val (.long v1), .second] [(.int (5 : Int32)), (.int o), (.ref b1)]))
  refine own_st (fun t k => XS.iadd X18.here hx rfl (hb hby own_d1_56) rfl k) ?_
  show own_G _ _ _ _ _ _ _ (T18.setTop (mkF m 57 #[.val (.ref b1), .val (.int o), .val (.long v1), .second] [(.int (o + (5 : Int32))), (.ref b1)]))
  refine own_st (fun t k => XS.lloadN X18.here hx rfl (hb hby own_d1_57) rfl k) ?_
  show own_G _ _ _ _ _ _ _ (T18.setTop (mkF m 58 #[.val (.ref b1), .val (.int o), .val (.long v1), .second] [(.long v1), (.int (o + (5 : Int32))), (.ref b1)]))
  refine own_st (fun t k => XS.bipush X18.here hx rfl (hb hby own_d1_58) k) ?_
  show own_G _ _ _ _ _ _ _ (T18.setTop (mkF m 60 #[.val (.ref b1), .val (.int o), .val (.long v1), .second] [(.int (16 : Int32)), (.long v1), (.int (o + (5 : Int32))), (.ref b1)]))
  refine own_st (fun t k => XS.lushr X18.here hx rfl (hb hby own_d1_60) rfl k) ?_
  show own_G _ _ _ _ _ _ _ (T18.setTop (mkF m 61 #[.val (.ref b1), .val (.int o), .val (.long v1), .second] [(.long ((v1.toUInt64 >>> ((16 : Int32) &&& 0x3f).toInt64.toUInt64).toInt64)), (.int (o + (5 : Int32))), (.ref b1)]))
  refine own_st (fun t k => XS.l2i X18.here hx rfl (hb hby own_d1_61) rfl k) ?_
  show own_G _ _ _ _ _ _ _ (T18.setTop (mkF m 62 #[.val (.ref b1), .val (.int o), .val (.long v1), .second] [(.int (((v1.toUInt64 >>> ((16 : Int32) &&& 0x3f).toInt64.toUInt64).toInt64).toInt32)), (.int (o + (5 : Int32))), (.ref b1)]))
  refine own_st (fun t k => XS.i2b X18.here hx rfl (hb hby own_d1_62) rfl k) ?_
  show own_G _ _ _ _ _ _ _ (T18.setTop (mkF m 63 #[.val (.ref b1), .val (.int o), .val (.long v1), .second] [(.int ((((v1.toUInt64 >>> ((16 : Int32) &&& 0x3f).toInt64.toUInt64).toInt64).toInt32).toInt8.toInt32)), (.int (o + (5 : Int32))), (.ref b1)]))
  obtain ⟨cl21, Ar21, q21, S21, M21, H21, G21⟩ := V4
  have pl5 := own_place o kk 5 5 ho (by decide) (by omega)
  have hin21 : ¬ ((o + (5 : Int32)) < 0 ∨ cl21.slots.size ≤ ((o + (5 : Int32))).toNatClampNeg) := inb_of S21 pl5.1
  obtain ⟨T22, h22, X22, e22, W22, st22⟩ := Jvm.RoadKit.stB X18 hx hZ e18 Ar21 (j := (o + (5 : Int32))) hin21 (g := (mkF m 63 #[.val (.ref b1), .val (.int o), .val (.long v1), .second] [(.int ((((v1.toUInt64 >>> ((16 : Int32) &&& 0x3f).toInt64.toUInt64).toInt64).toInt32).toInt8.toInt32)), (.int (o + (5 : Int32))), (.ref b1)])) rfl rfl (hb hby own_d1_63)
  have N22 := Fr.snoc X22 N18 g1
  refine own_st (fun t k => st22 t k) ?_
  show own_G _ _ _ _ _ _ _ (T22.setTop (mkF m 64 #[.val (.ref b1), .val (.int o), .val (.long v1), .second] []))
  have V5 : Arv Z h22 b1 kc .byte 33 ((((((vs.set kk (.int (own_by v1 56))).set (kk + 1) (.int (own_by v1 48))).set (kk + 2) (.int (own_by v1 40))).set (kk + 3) (.int (own_by v1 32))).set (kk + 4) (.int (own_by v1 24))).set (kk + 5) (.int (own_by v1 16))) (.int 0) := Arv.set Ar21 q21 S21 M21 H21 G21 (fits_nar_byte _) W22 (kk + 5) pl5.2 (by simp only [List.length_set, hl]; omega)
  have Zz23 : n0 ≤ h22.size := Nat.le_trans Zz19 (Keep.of_wr W22).1
  have Kk24 := Kk20.wr W22 (Or.inl (List.mem_of_getElem? (i := 0) rfl))
  refine own_st (fun t k => XS.aloadN X22.here hx rfl (hb hby own_d1_64) rfl rfl k) ?_
  show own_G _ _ _ _ _ _ _ (T22.setTop (mkF m 65 #[.val (.ref b1), .val (.int o), .val (.long v1), .second] [(.ref b1)]))
  refine own_st (fun t k => XS.iloadN X22.here hx rfl (hb hby own_d1_65) rfl k) ?_
  show own_G _ _ _ _ _ _ _ (T22.setTop (mkF m 66 #[.val (.ref b1), .val (.int o), .val (.long v1), .second] [(.int o), (.ref b1)]))
  refine own_st (fun t k => XS.bipush X22.here hx rfl (hb hby own_d1_66) k) ?_
  show own_G _ _ _ _ _ _ _ (T22.setTop (mkF m 68 #[.val (.ref b1), .val (.int o), .val (.long v1), .second] [(.int (6 : Int32)), (.int o), (.ref b1)]))
  refine own_st (fun t k => XS.iadd X22.here hx rfl (hb hby own_d1_68) rfl k) ?_
  show own_G _ _ _ _ _ _ _ (T22.setTop (mkF m 69 #[.val (.ref b1), .val (.int o), .val (.long v1), .second] [(.int (o + (6 : Int32))), (.ref b1)]))
  refine own_st (fun t k => XS.lloadN X22.here hx rfl (hb hby own_d1_69) rfl k) ?_
  show own_G _ _ _ _ _ _ _ (T22.setTop (mkF m 70 #[.val (.ref b1), .val (.int o), .val (.long v1), .second] [(.long v1), (.int (o + (6 : Int32))), (.ref b1)]))
  refine own_st (fun t k => XS.bipush X22.here hx rfl (hb hby own_d1_70) k) ?_
  show own_G _ _ _ _ _ _ _ (T22.setTop (mkF m 72 #[.val (.ref b1), .val (.int o), .val (.long v1), .second] [(.int (8 : Int32)), (.long v1), (.int (o + (6 : Int32))), (.ref b1)]))
  refine own_st (fun t k => XS.lushr X22.here hx rfl (hb hby own_d1_72) rfl k) ?_
  show own_G _ _ _ _ _ _ _ (T22.setTop (mkF m 73 #[.val (.ref b1), .val (.int o), .val (.long v1), .second] [(.long ((v1.toUInt64 >>> ((8 : Int32) &&& 0x3f).toInt64.toUInt64).toInt64)), (.int (o + (6 : Int32))), (.ref b1)]))
  refine own_st (fun t k => XS.l2i X22.here hx rfl (hb hby own_d1_73) rfl k) ?_
  show own_G _ _ _ _ _ _ _ (T22.setTop (mkF m 74 #[.val (.ref b1), .val (.int o), .val (.long v1), .second] [(.int (((v1.toUInt64 >>> ((8 : Int32) &&& 0x3f).toInt64.toUInt64).toInt64).toInt32)), (.int (o + (6 : Int32))), (.ref b1)]))
  refine own_st (fun t k => XS.i2b X22.here hx rfl (hb hby own_d1_74) rfl k) ?_
  show own_G _ _ _ _ _ _ _ (T22.setTop (mkF m 75 #[.val (.ref b1), .val (.int o), .val (.long v1), .second] [(.int ((((v1.toUInt64 >>> ((8 : Int32) &&& 0x3f).toInt64.toUInt64).toInt64).toInt32).toInt8.toInt32)), (.int (o + (6 : Int32))), (.ref b1)]))
  obtain ⟨cl25, Ar25, q25, S25, M25, H25, G25⟩ := V5
  have pl6 := own_place o kk 6 6 ho (by decide) (by omega)
  have hin25 : ¬ ((o + (6 : Int32)) < 0 ∨ cl25.slots.size ≤ ((o + (6 : Int32))).toNatClampNeg) := inb_of S25 pl6.1
  obtain ⟨T26, h26, X26, e26, W26, st26⟩ := Jvm.RoadKit.stB X22 hx hZ e22 Ar25 (j := (o + (6 : Int32))) hin25 (g := (mkF m 75 #[.val (.ref b1), .val (.int o), .val (.long v1), .second] [(.int ((((v1.toUInt64 >>> ((8 : Int32) &&& 0x3f).toInt64.toUInt64).toInt64).toInt32).toInt8.toInt32)), (.int (o + (6 : Int32))), (.ref b1)])) rfl rfl (hb hby own_d1_75)
  have N26 := Fr.snoc X26 N22 g1
  refine own_st (fun t k => st26 t k) ?_
  show own_G _ _ _ _ _ _ _ (T26.setTop (mkF m 76 #[.val (.ref b1), .val (.int o), .val (.long v1), .second] []))
  have V6 : Arv Z h26 b1 kc .byte 33 (((((((vs.set kk (.int (own_by v1 56))).set (kk + 1) (.int (own_by v1 48))).set (kk + 2) (.int (own_by v1 40))).set (kk + 3) (.int (own_by v1 32))).set (kk + 4) (.int (own_by v1 24))).set (kk + 5) (.int (own_by v1 16))).set (kk + 6) (.int (own_by v1 8))) (.int 0) := Arv.set Ar25 q25 S25 M25 H25 G25 (fits_nar_byte _) W26 (kk + 6) pl6.2 (by simp only [List.length_set, hl]; omega)
  have Zz27 : n0 ≤ h26.size := Nat.le_trans Zz23 (Keep.of_wr W26).1
  have Kk28 := Kk24.wr W26 (Or.inl (List.mem_of_getElem? (i := 0) rfl))
  refine own_st (fun t k => XS.aloadN X26.here hx rfl (hb hby own_d1_76) rfl rfl k) ?_
  show own_G _ _ _ _ _ _ _ (T26.setTop (mkF m 77 #[.val (.ref b1), .val (.int o), .val (.long v1), .second] [(.ref b1)]))
  refine own_st (fun t k => XS.iloadN X26.here hx rfl (hb hby own_d1_77) rfl k) ?_
  show own_G _ _ _ _ _ _ _ (T26.setTop (mkF m 78 #[.val (.ref b1), .val (.int o), .val (.long v1), .second] [(.int o), (.ref b1)]))
  refine own_st (fun t k => XS.bipush X26.here hx rfl (hb hby own_d1_78) k) ?_
  show own_G _ _ _ _ _ _ _ (T26.setTop (mkF m 80 #[.val (.ref b1), .val (.int o), .val (.long v1), .second] [(.int (7 : Int32)), (.int o), (.ref b1)]))
  refine own_st (fun t k => XS.iadd X26.here hx rfl (hb hby own_d1_80) rfl k) ?_
  show own_G _ _ _ _ _ _ _ (T26.setTop (mkF m 81 #[.val (.ref b1), .val (.int o), .val (.long v1), .second] [(.int (o + (7 : Int32))), (.ref b1)]))
  refine own_st (fun t k => XS.lloadN X26.here hx rfl (hb hby own_d1_81) rfl k) ?_
  show own_G _ _ _ _ _ _ _ (T26.setTop (mkF m 82 #[.val (.ref b1), .val (.int o), .val (.long v1), .second] [(.long v1), (.int (o + (7 : Int32))), (.ref b1)]))
  refine own_st (fun t k => XS.l2i X26.here hx rfl (hb hby own_d1_82) rfl k) ?_
  show own_G _ _ _ _ _ _ _ (T26.setTop (mkF m 83 #[.val (.ref b1), .val (.int o), .val (.long v1), .second] [(.int (v1.toInt32)), (.int (o + (7 : Int32))), (.ref b1)]))
  refine own_st (fun t k => XS.i2b X26.here hx rfl (hb hby own_d1_83) rfl k) ?_
  show own_G _ _ _ _ _ _ _ (T26.setTop (mkF m 84 #[.val (.ref b1), .val (.int o), .val (.long v1), .second] [(.int ((v1.toInt32).toInt8.toInt32)), (.int (o + (7 : Int32))), (.ref b1)]))
  obtain ⟨cl29, Ar29, q29, S29, M29, H29, G29⟩ := V6
  have pl7 := own_place o kk 7 7 ho (by decide) (by omega)
  have hin29 : ¬ ((o + (7 : Int32)) < 0 ∨ cl29.slots.size ≤ ((o + (7 : Int32))).toNatClampNeg) := inb_of S29 pl7.1
  obtain ⟨T30, h30, X30, e30, W30, st30⟩ := Jvm.RoadKit.stB X26 hx hZ e26 Ar29 (j := (o + (7 : Int32))) hin29 (g := (mkF m 84 #[.val (.ref b1), .val (.int o), .val (.long v1), .second] [(.int ((v1.toInt32).toInt8.toInt32)), (.int (o + (7 : Int32))), (.ref b1)])) rfl rfl (hb hby own_d1_84)
  have N30 := Fr.snoc X30 N26 g1
  refine own_st (fun t k => st30 t k) ?_
  show own_G _ _ _ _ _ _ _ (T30.setTop (mkF m 85 #[.val (.ref b1), .val (.int o), .val (.long v1), .second] []))
  have V7 : Arv Z h30 b1 kc .byte 33 ((((((((vs.set kk (.int (own_by v1 56))).set (kk + 1) (.int (own_by v1 48))).set (kk + 2) (.int (own_by v1 40))).set (kk + 3) (.int (own_by v1 32))).set (kk + 4) (.int (own_by v1 24))).set (kk + 5) (.int (own_by v1 16))).set (kk + 6) (.int (own_by v1 8))).set (kk + 7) (.int (own_by0 v1))) (.int 0) := Arv.set Ar29 q29 S29 M29 H29 G29 (fits_nar_byte _) W30 (kk + 7) pl7.2 (by simp only [List.length_set, hl]; omega)
  have Zz31 : n0 ≤ h30.size := Nat.le_trans Zz27 (Keep.of_wr W30).1
  have Kk32 := Kk28.wr W30 (Or.inl (List.mem_of_getElem? (i := 0) rfl))
  subst e30
  exact own_retV X30 hx Bd.returns (BodyLoose.notSynchronized Bd) (hb hby own_d1_85) (by decide) (by decide) ⟨rfl, N30, Kk32, V7⟩
theorem own_d2_0 : decode method_3_code 0 = .ok (.lconst 0, 1) := by decide +kernel
theorem own_d2_1 : decode method_3_code 1 = .ok (.lstore_n 2, 1) := by decide +kernel
theorem own_d2_2 : decode method_3_code 2 = .ok (.lload_n 2, 1) := by decide +kernel
theorem own_d2_3 : decode method_3_code 3 = .ok (.bipush 8, 2) := by decide +kernel
theorem own_d2_5 : decode method_3_code 5 = .ok (.lshl, 1) := by decide +kernel
theorem own_d2_6 : decode method_3_code 6 = .ok (.aload_n 0, 1) := by decide +kernel
theorem own_d2_7 : decode method_3_code 7 = .ok (.iload_n 1, 1) := by decide +kernel
theorem own_d2_8 : decode method_3_code 8 = .ok (.baload, 1) := by decide +kernel
theorem own_d2_9 : decode method_3_code 9 = .ok (.i2l, 1) := by decide +kernel
theorem own_d2_10 : decode method_3_code 10 = .ok (.ldc2_w 7, 3) := by decide +kernel
theorem own_d2_13 : decode method_3_code 13 = .ok (.land, 1) := by decide +kernel
theorem own_d2_14 : decode method_3_code 14 = .ok (.lor, 1) := by decide +kernel
theorem own_d2_15 : decode method_3_code 15 = .ok (.lstore_n 2, 1) := by decide +kernel
theorem own_d2_16 : decode method_3_code 16 = .ok (.lload_n 2, 1) := by decide +kernel
theorem own_d2_17 : decode method_3_code 17 = .ok (.bipush 8, 2) := by decide +kernel
theorem own_d2_19 : decode method_3_code 19 = .ok (.lshl, 1) := by decide +kernel
theorem own_d2_20 : decode method_3_code 20 = .ok (.aload_n 0, 1) := by decide +kernel
theorem own_d2_21 : decode method_3_code 21 = .ok (.iload_n 1, 1) := by decide +kernel
theorem own_d2_22 : decode method_3_code 22 = .ok (.iconst 1, 1) := by decide +kernel
theorem own_d2_23 : decode method_3_code 23 = .ok (.iadd, 1) := by decide +kernel
theorem own_d2_24 : decode method_3_code 24 = .ok (.baload, 1) := by decide +kernel
theorem own_d2_25 : decode method_3_code 25 = .ok (.i2l, 1) := by decide +kernel
theorem own_d2_26 : decode method_3_code 26 = .ok (.ldc2_w 7, 3) := by decide +kernel
theorem own_d2_29 : decode method_3_code 29 = .ok (.land, 1) := by decide +kernel
theorem own_d2_30 : decode method_3_code 30 = .ok (.lor, 1) := by decide +kernel
theorem own_d2_31 : decode method_3_code 31 = .ok (.lstore_n 2, 1) := by decide +kernel
theorem own_d2_32 : decode method_3_code 32 = .ok (.lload_n 2, 1) := by decide +kernel
theorem own_d2_33 : decode method_3_code 33 = .ok (.bipush 8, 2) := by decide +kernel
theorem own_d2_35 : decode method_3_code 35 = .ok (.lshl, 1) := by decide +kernel
theorem own_d2_36 : decode method_3_code 36 = .ok (.aload_n 0, 1) := by decide +kernel
theorem own_d2_37 : decode method_3_code 37 = .ok (.iload_n 1, 1) := by decide +kernel
theorem own_d2_38 : decode method_3_code 38 = .ok (.iconst 2, 1) := by decide +kernel
theorem own_d2_39 : decode method_3_code 39 = .ok (.iadd, 1) := by decide +kernel
theorem own_d2_40 : decode method_3_code 40 = .ok (.baload, 1) := by decide +kernel
theorem own_d2_41 : decode method_3_code 41 = .ok (.i2l, 1) := by decide +kernel
theorem own_d2_42 : decode method_3_code 42 = .ok (.ldc2_w 7, 3) := by decide +kernel
theorem own_d2_45 : decode method_3_code 45 = .ok (.land, 1) := by decide +kernel
theorem own_d2_46 : decode method_3_code 46 = .ok (.lor, 1) := by decide +kernel
theorem own_d2_47 : decode method_3_code 47 = .ok (.lstore_n 2, 1) := by decide +kernel
theorem own_d2_48 : decode method_3_code 48 = .ok (.lload_n 2, 1) := by decide +kernel
theorem own_d2_49 : decode method_3_code 49 = .ok (.bipush 8, 2) := by decide +kernel
theorem own_d2_51 : decode method_3_code 51 = .ok (.lshl, 1) := by decide +kernel
theorem own_d2_52 : decode method_3_code 52 = .ok (.aload_n 0, 1) := by decide +kernel
theorem own_d2_53 : decode method_3_code 53 = .ok (.iload_n 1, 1) := by decide +kernel
theorem own_d2_54 : decode method_3_code 54 = .ok (.iconst 3, 1) := by decide +kernel
theorem own_d2_55 : decode method_3_code 55 = .ok (.iadd, 1) := by decide +kernel
theorem own_d2_56 : decode method_3_code 56 = .ok (.baload, 1) := by decide +kernel
theorem own_d2_57 : decode method_3_code 57 = .ok (.i2l, 1) := by decide +kernel
theorem own_d2_58 : decode method_3_code 58 = .ok (.ldc2_w 7, 3) := by decide +kernel
theorem own_d2_61 : decode method_3_code 61 = .ok (.land, 1) := by decide +kernel
theorem own_d2_62 : decode method_3_code 62 = .ok (.lor, 1) := by decide +kernel
theorem own_d2_63 : decode method_3_code 63 = .ok (.lstore_n 2, 1) := by decide +kernel
theorem own_d2_64 : decode method_3_code 64 = .ok (.lload_n 2, 1) := by decide +kernel
theorem own_d2_65 : decode method_3_code 65 = .ok (.bipush 8, 2) := by decide +kernel
theorem own_d2_67 : decode method_3_code 67 = .ok (.lshl, 1) := by decide +kernel
theorem own_d2_68 : decode method_3_code 68 = .ok (.aload_n 0, 1) := by decide +kernel
theorem own_d2_69 : decode method_3_code 69 = .ok (.iload_n 1, 1) := by decide +kernel
theorem own_d2_70 : decode method_3_code 70 = .ok (.iconst 4, 1) := by decide +kernel
theorem own_d2_71 : decode method_3_code 71 = .ok (.iadd, 1) := by decide +kernel
theorem own_d2_72 : decode method_3_code 72 = .ok (.baload, 1) := by decide +kernel
theorem own_d2_73 : decode method_3_code 73 = .ok (.i2l, 1) := by decide +kernel
theorem own_d2_74 : decode method_3_code 74 = .ok (.ldc2_w 7, 3) := by decide +kernel
theorem own_d2_77 : decode method_3_code 77 = .ok (.land, 1) := by decide +kernel
theorem own_d2_78 : decode method_3_code 78 = .ok (.lor, 1) := by decide +kernel
theorem own_d2_79 : decode method_3_code 79 = .ok (.lstore_n 2, 1) := by decide +kernel
theorem own_d2_80 : decode method_3_code 80 = .ok (.lload_n 2, 1) := by decide +kernel
theorem own_d2_81 : decode method_3_code 81 = .ok (.bipush 8, 2) := by decide +kernel
theorem own_d2_83 : decode method_3_code 83 = .ok (.lshl, 1) := by decide +kernel
theorem own_d2_84 : decode method_3_code 84 = .ok (.aload_n 0, 1) := by decide +kernel
theorem own_d2_85 : decode method_3_code 85 = .ok (.iload_n 1, 1) := by decide +kernel
theorem own_d2_86 : decode method_3_code 86 = .ok (.iconst 5, 1) := by decide +kernel
theorem own_d2_87 : decode method_3_code 87 = .ok (.iadd, 1) := by decide +kernel
theorem own_d2_88 : decode method_3_code 88 = .ok (.baload, 1) := by decide +kernel
theorem own_d2_89 : decode method_3_code 89 = .ok (.i2l, 1) := by decide +kernel
theorem own_d2_90 : decode method_3_code 90 = .ok (.ldc2_w 7, 3) := by decide +kernel
theorem own_d2_93 : decode method_3_code 93 = .ok (.land, 1) := by decide +kernel
theorem own_d2_94 : decode method_3_code 94 = .ok (.lor, 1) := by decide +kernel
theorem own_d2_95 : decode method_3_code 95 = .ok (.lstore_n 2, 1) := by decide +kernel
theorem own_d2_96 : decode method_3_code 96 = .ok (.lload_n 2, 1) := by decide +kernel
theorem own_d2_97 : decode method_3_code 97 = .ok (.bipush 8, 2) := by decide +kernel
theorem own_d2_99 : decode method_3_code 99 = .ok (.lshl, 1) := by decide +kernel
theorem own_d2_100 : decode method_3_code 100 = .ok (.aload_n 0, 1) := by decide +kernel
theorem own_d2_101 : decode method_3_code 101 = .ok (.iload_n 1, 1) := by decide +kernel
theorem own_d2_102 : decode method_3_code 102 = .ok (.bipush 6, 2) := by decide +kernel
theorem own_d2_104 : decode method_3_code 104 = .ok (.iadd, 1) := by decide +kernel
theorem own_d2_105 : decode method_3_code 105 = .ok (.baload, 1) := by decide +kernel
theorem own_d2_106 : decode method_3_code 106 = .ok (.i2l, 1) := by decide +kernel
theorem own_d2_107 : decode method_3_code 107 = .ok (.ldc2_w 7, 3) := by decide +kernel
theorem own_d2_110 : decode method_3_code 110 = .ok (.land, 1) := by decide +kernel
theorem own_d2_111 : decode method_3_code 111 = .ok (.lor, 1) := by decide +kernel
theorem own_d2_112 : decode method_3_code 112 = .ok (.lstore_n 2, 1) := by decide +kernel
theorem own_d2_113 : decode method_3_code 113 = .ok (.lload_n 2, 1) := by decide +kernel
theorem own_d2_114 : decode method_3_code 114 = .ok (.bipush 8, 2) := by decide +kernel
theorem own_d2_116 : decode method_3_code 116 = .ok (.lshl, 1) := by decide +kernel
theorem own_d2_117 : decode method_3_code 117 = .ok (.aload_n 0, 1) := by decide +kernel
theorem own_d2_118 : decode method_3_code 118 = .ok (.iload_n 1, 1) := by decide +kernel
theorem own_d2_119 : decode method_3_code 119 = .ok (.bipush 7, 2) := by decide +kernel
theorem own_d2_121 : decode method_3_code 121 = .ok (.iadd, 1) := by decide +kernel
theorem own_d2_122 : decode method_3_code 122 = .ok (.baload, 1) := by decide +kernel
theorem own_d2_123 : decode method_3_code 123 = .ok (.i2l, 1) := by decide +kernel
theorem own_d2_124 : decode method_3_code 124 = .ok (.ldc2_w 7, 3) := by decide +kernel
theorem own_d2_127 : decode method_3_code 127 = .ok (.land, 1) := by decide +kernel
theorem own_d2_128 : decode method_3_code 128 = .ok (.lor, 1) := by decide +kernel
theorem own_d2_129 : decode method_3_code 129 = .ok (.lstore_n 2, 1) := by decide +kernel
theorem own_d2_130 : decode method_3_code 130 = .ok (.lload_n 2, 1) := by decide +kernel
theorem own_d2_131 : decode method_3_code 131 = .ok (.lreturn, 1) := by decide +kernel
theorem own_ef2 (m : MethodId) (b1 : Addr) (o : Int32) : entryFrame m #[(.ref b1), (.int o)] 4 = mkF m 0 #[.val (.ref b1), .val (.int o), .unset, .unset] [] := by first | (simp [entryFrame, mkF, argsToLocals, Value.category]; done) | rfl
set_option maxRecDepth 65536 in
set_option maxHeartbeats 40000000 in
theorem own_rm2 (l : Launch) (Z : State) (a0 : Array Value) (hw : ∀ d ∈ tables_1, d.before a0 Z = true) (ws : List Jvm.Cond) (b1 : Addr) (o : Int32) (kk : Nat) (kc : ClassId) (vs : List Value) (x0 x1 x2 x3 x4 x5 x6 x7 : Int32) (h0 : Heap) (n0 : Nat) (Z0 : n0 ≤ h0.size) (Vb : Arv Z h0 b1 kc .byte 33 vs (.int 0)) (ho : o.toInt = kk) (hk : kk + 8 ≤ 33) (hx0 : vs.getD kk (.int 0) = .int x0) (hx1 : vs.getD (kk + 1) (.int 0) = .int x1) (hx2 : vs.getD (kk + 2) (.int 0) = .int x2) (hx3 : vs.getD (kk + 3) (.int 0) = .int x3) (hx4 : vs.getD (kk + 4) (.int 0) = .int x4) (hx5 : vs.getD (kk + 5) (.int 0) = .int x5) (hx6 : vs.getD (kk + 6) (.int 0) = .int x6) (hx7 : vs.getD (kk + 7) (.int 0) = .int x7) :
    MetFree l (⟨"com/example/tessera/tessera/tokenhash/TokenHashFromBytesPinLaw", "get", "([BI)J"⟩ : MethodName) (head1 (Jvm.Cond.code (⟨"com/example/tessera/tessera/tokenhash/TokenHashFromBytesPinLaw", "get", "([BI)J"⟩ : MethodName) method_3_code 4 (some .long) :: ws) ({ frames := 0, cells := 0, slots := 0, locals := 0 } : Room)) (fun a U => a = #[(.ref b1), (.int o)] ∧ Z.Warmed39 U.vm ∧ U.heap = h0) (fun _ _ _ _ _ => True) (fun _ U o U' => ∃ v L, o = .returned v ∧ own_Qp (some (.long (own_get x0 x1 x2 x3 x4 x5 x6 x7))) h0 n0 v U'.heap L ∧ FrameEnd U o U' L ({ frames := 0, cells := 0, slots := 0, locals := 0 } : Room).cells ({ frames := 0, cells := 0, slots := 0, locals := 0 } : Room).slots) := by
  refine MetFree.of_bodySF (plainFor_of_name own_pn0) hisR ?_
  intro p e s m args below meth c s₁ Bd hml0 hP hK
  obtain ⟨rfl, hZ, hh⟩ := hP
  have hx := Bd.exec
  have hby := Bd.bytes
  have hml : c.maxLocals = 4 := hml0
  have hown : s.vm.findClass "com/example/tessera/tessera/tokenhash/TokenHashFromBytesPinLaw" = some m.cls := findClass_of_methodNamed Bd.named
  have hnm := (name_of_methodNamed Bd.named Bd.method).1
  have X0 : Stand p l e ({ frames := 0, cells := 0, slots := 0, locals := 0 } : Room) s m #[(.ref b1), (.int o)] below meth c s₁ [] 0 0 := Stand.of_body Bd
  have e0 : s₁.heap = h0 := by rw [← hh, Bd.state]; rfl
  have N0 := Fr.nil n0
  refine own_in (Q := own_Qp (some (.long (own_get x0 x1 x2 x3 x4 x5 x6 x7))) h0 n0) ?_
  rw [own_ef2]
  show own_G _ _ _ _ _ _ _ (s₁.setTop (mkF m 0 #[.val (.ref b1), .val (.int o), .unset, .unset] []))
  obtain ⟨cl33, Ar33, q33, S33, M33, H33, G33⟩ := Vb
  refine own_st (fun t k => XS.lconst X0.here hx rfl (hb hby own_d2_0) k) ?_
  show own_G _ _ _ _ _ _ _ (s₁.setTop (mkF m 1 #[.val (.ref b1), .val (.int o), .unset, .unset] [(.long (0 : Int64))]))
  refine own_st (fun t k => XS.lstoreN X0.here hx rfl (hb hby own_d2_1) rfl (l' := #[.val (.ref b1), .val (.int o), .val (.long (0 : Int64)), .second]) rfl k) ?_
  show own_G _ _ _ _ _ _ _ (s₁.setTop (mkF m 2 #[.val (.ref b1), .val (.int o), .val (.long (0 : Int64)), .second] []))
  refine own_st (fun t k => XS.lloadN X0.here hx rfl (hb hby own_d2_2) rfl k) ?_
  show own_G _ _ _ _ _ _ _ (s₁.setTop (mkF m 3 #[.val (.ref b1), .val (.int o), .val (.long (0 : Int64)), .second] [(.long (0 : Int64))]))
  refine own_st (fun t k => XS.bipush X0.here hx rfl (hb hby own_d2_3) k) ?_
  show own_G _ _ _ _ _ _ _ (s₁.setTop (mkF m 5 #[.val (.ref b1), .val (.int o), .val (.long (0 : Int64)), .second] [(.int (8 : Int32)), (.long (0 : Int64))]))
  refine own_st (fun t k => XS.lshl X0.here hx rfl (hb hby own_d2_5) rfl k) ?_
  show own_G _ _ _ _ _ _ _ (s₁.setTop (mkF m 6 #[.val (.ref b1), .val (.int o), .val (.long (0 : Int64)), .second] [(.long ((0 : Int64) <<< ((8 : Int32) &&& 0x3f).toInt64))]))
  refine own_st (fun t k => XS.aloadN X0.here hx rfl (hb hby own_d2_6) rfl rfl k) ?_
  show own_G _ _ _ _ _ _ _ (s₁.setTop (mkF m 7 #[.val (.ref b1), .val (.int o), .val (.long (0 : Int64)), .second] [(.ref b1), (.long ((0 : Int64) <<< ((8 : Int32) &&& 0x3f).toInt64))]))
  refine own_st (fun t k => XS.iloadN X0.here hx rfl (hb hby own_d2_7) rfl k) ?_
  show own_G _ _ _ _ _ _ _ (s₁.setTop (mkF m 8 #[.val (.ref b1), .val (.int o), .val (.long (0 : Int64)), .second] [(.int o), (.ref b1), (.long ((0 : Int64) <<< ((8 : Int32) &&& 0x3f).toInt64))]))
  have pl0 := own_place0 o kk ho (by omega)
  have hin0 : ¬ (o < 0 ∨ cl33.slots.size ≤ (o).toNatClampNeg) := inb_of S33 pl0.1
  have hat0 : cl33.slots[(o).toNatClampNeg]? = some (.int x0) := Has.at H33 hin0 (by rw [pl0.2]; exact hx0)
  refine own_st (fun t k => X0.baloadBytes hx (j := o) (v := (.int x0)) (by rw [e0]; exact Ar33.1) (State.isArrayOf_alike hZ.alike Ar33.2.1) Ar33.2.2 hin0 hat0 (g := (mkF m 8 #[.val (.ref b1), .val (.int o), .val (.long (0 : Int64)), .second] [(.int o), (.ref b1), (.long ((0 : Int64) <<< ((8 : Int32) &&& 0x3f).toInt64))])) rfl rfl (hb hby own_d2_8) t k) ?_
  show own_G _ _ _ _ _ _ _ (s₁.setTop (mkF m 9 #[.val (.ref b1), .val (.int o), .val (.long (0 : Int64)), .second] [(.int x0), (.long ((0 : Int64) <<< ((8 : Int32) &&& 0x3f).toInt64))]))
  refine own_st (fun t k => XS.i2l X0.here hx rfl (hb hby own_d2_9) rfl k) ?_
  show own_G _ _ _ _ _ _ _ (s₁.setTop (mkF m 10 #[.val (.ref b1), .val (.int o), .val (.long (0 : Int64)), .second] [(.long (x0.toInt64)), (.long ((0 : Int64) <<< ((8 : Int32) &&& 0x3f).toInt64))]))
  refine own_st (fun t k => X0.ldc2Long hx hown (mvT hZ (hw _ (List.mem_of_getElem? (i := 37) rfl))) (g := (mkF m 10 #[.val (.ref b1), .val (.int o), .val (.long (0 : Int64)), .second] [(.long (x0.toInt64)), (.long ((0 : Int64) <<< ((8 : Int32) &&& 0x3f).toInt64))])) rfl (hb hby own_d2_10) t k) ?_
  show own_G _ _ _ _ _ _ _ (s₁.setTop (mkF m 13 #[.val (.ref b1), .val (.int o), .val (.long (0 : Int64)), .second] [(.long (255 : Int64)), (.long (x0.toInt64)), (.long ((0 : Int64) <<< ((8 : Int32) &&& 0x3f).toInt64))]))
  refine own_st (fun t k => XS.land X0.here hx rfl (hb hby own_d2_13) rfl k) ?_
  show own_G _ _ _ _ _ _ _ (s₁.setTop (mkF m 14 #[.val (.ref b1), .val (.int o), .val (.long (0 : Int64)), .second] [(.long ((x0.toInt64) &&& (255 : Int64))), (.long ((0 : Int64) <<< ((8 : Int32) &&& 0x3f).toInt64))]))
  refine own_st (fun t k => XS.lor X0.here hx rfl (hb hby own_d2_14) rfl k) ?_
  show own_G _ _ _ _ _ _ _ (s₁.setTop (mkF m 15 #[.val (.ref b1), .val (.int o), .val (.long (0 : Int64)), .second] [(.long (((0 : Int64) <<< ((8 : Int32) &&& 0x3f).toInt64) ||| ((x0.toInt64) &&& (255 : Int64))))]))
  show own_G _ _ _ _ _ _ _ (s₁.setTop (mkF m 15 #[.val (.ref b1), .val (.int o), .val (.long (0 : Int64)), .second] [(.long (own_cat (0 : Int64) x0))]))
  refine own_st (fun t k => XS.lstoreN X0.here hx rfl (hb hby own_d2_15) rfl (l' := #[.val (.ref b1), .val (.int o), .val (.long (own_cat (0 : Int64) x0)), .second]) rfl k) ?_
  show own_G _ _ _ _ _ _ _ (s₁.setTop (mkF m 16 #[.val (.ref b1), .val (.int o), .val (.long (own_cat (0 : Int64) x0)), .second] []))
  refine own_st (fun t k => XS.lloadN X0.here hx rfl (hb hby own_d2_16) rfl k) ?_
  show own_G _ _ _ _ _ _ _ (s₁.setTop (mkF m 17 #[.val (.ref b1), .val (.int o), .val (.long (own_cat (0 : Int64) x0)), .second] [(.long (own_cat (0 : Int64) x0))]))
  refine own_st (fun t k => XS.bipush X0.here hx rfl (hb hby own_d2_17) k) ?_
  show own_G _ _ _ _ _ _ _ (s₁.setTop (mkF m 19 #[.val (.ref b1), .val (.int o), .val (.long (own_cat (0 : Int64) x0)), .second] [(.int (8 : Int32)), (.long (own_cat (0 : Int64) x0))]))
  refine own_st (fun t k => XS.lshl X0.here hx rfl (hb hby own_d2_19) rfl k) ?_
  show own_G _ _ _ _ _ _ _ (s₁.setTop (mkF m 20 #[.val (.ref b1), .val (.int o), .val (.long (own_cat (0 : Int64) x0)), .second] [(.long ((own_cat (0 : Int64) x0) <<< ((8 : Int32) &&& 0x3f).toInt64))]))
  refine own_st (fun t k => XS.aloadN X0.here hx rfl (hb hby own_d2_20) rfl rfl k) ?_
  show own_G _ _ _ _ _ _ _ (s₁.setTop (mkF m 21 #[.val (.ref b1), .val (.int o), .val (.long (own_cat (0 : Int64) x0)), .second] [(.ref b1), (.long ((own_cat (0 : Int64) x0) <<< ((8 : Int32) &&& 0x3f).toInt64))]))
  refine own_st (fun t k => XS.iloadN X0.here hx rfl (hb hby own_d2_21) rfl k) ?_
  show own_G _ _ _ _ _ _ _ (s₁.setTop (mkF m 22 #[.val (.ref b1), .val (.int o), .val (.long (own_cat (0 : Int64) x0)), .second] [(.int o), (.ref b1), (.long ((own_cat (0 : Int64) x0) <<< ((8 : Int32) &&& 0x3f).toInt64))]))
  refine own_st (fun t k => XS.iconst X0.here hx rfl (hb hby own_d2_22) k) ?_
  show own_G _ _ _ _ _ _ _ (s₁.setTop (mkF m 23 #[.val (.ref b1), .val (.int o), .val (.long (own_cat (0 : Int64) x0)), .second] [(.int (1 : Int32)), (.int o), (.ref b1), (.long ((own_cat (0 : Int64) x0) <<< ((8 : Int32) &&& 0x3f).toInt64))]))
  refine own_st (fun t k => XS.iadd X0.here hx rfl (hb hby own_d2_23) rfl k) ?_
  show own_G _ _ _ _ _ _ _ (s₁.setTop (mkF m 24 #[.val (.ref b1), .val (.int o), .val (.long (own_cat (0 : Int64) x0)), .second] [(.int (o + (1 : Int32))), (.ref b1), (.long ((own_cat (0 : Int64) x0) <<< ((8 : Int32) &&& 0x3f).toInt64))]))
  have pl1 := own_place o kk 1 1 ho (by decide) (by omega)
  have hin1 : ¬ ((o + (1 : Int32)) < 0 ∨ cl33.slots.size ≤ ((o + (1 : Int32))).toNatClampNeg) := inb_of S33 pl1.1
  have hat1 : cl33.slots[((o + (1 : Int32))).toNatClampNeg]? = some (.int x1) := Has.at H33 hin1 (by rw [pl1.2]; exact hx1)
  refine own_st (fun t k => X0.baloadBytes hx (j := (o + (1 : Int32))) (v := (.int x1)) (by rw [e0]; exact Ar33.1) (State.isArrayOf_alike hZ.alike Ar33.2.1) Ar33.2.2 hin1 hat1 (g := (mkF m 24 #[.val (.ref b1), .val (.int o), .val (.long (own_cat (0 : Int64) x0)), .second] [(.int (o + (1 : Int32))), (.ref b1), (.long ((own_cat (0 : Int64) x0) <<< ((8 : Int32) &&& 0x3f).toInt64))])) rfl rfl (hb hby own_d2_24) t k) ?_
  show own_G _ _ _ _ _ _ _ (s₁.setTop (mkF m 25 #[.val (.ref b1), .val (.int o), .val (.long (own_cat (0 : Int64) x0)), .second] [(.int x1), (.long ((own_cat (0 : Int64) x0) <<< ((8 : Int32) &&& 0x3f).toInt64))]))
  refine own_st (fun t k => XS.i2l X0.here hx rfl (hb hby own_d2_25) rfl k) ?_
  show own_G _ _ _ _ _ _ _ (s₁.setTop (mkF m 26 #[.val (.ref b1), .val (.int o), .val (.long (own_cat (0 : Int64) x0)), .second] [(.long (x1.toInt64)), (.long ((own_cat (0 : Int64) x0) <<< ((8 : Int32) &&& 0x3f).toInt64))]))
  refine own_st (fun t k => X0.ldc2Long hx hown (mvT hZ (hw _ (List.mem_of_getElem? (i := 37) rfl))) (g := (mkF m 26 #[.val (.ref b1), .val (.int o), .val (.long (own_cat (0 : Int64) x0)), .second] [(.long (x1.toInt64)), (.long ((own_cat (0 : Int64) x0) <<< ((8 : Int32) &&& 0x3f).toInt64))])) rfl (hb hby own_d2_26) t k) ?_
  show own_G _ _ _ _ _ _ _ (s₁.setTop (mkF m 29 #[.val (.ref b1), .val (.int o), .val (.long (own_cat (0 : Int64) x0)), .second] [(.long (255 : Int64)), (.long (x1.toInt64)), (.long ((own_cat (0 : Int64) x0) <<< ((8 : Int32) &&& 0x3f).toInt64))]))
  refine own_st (fun t k => XS.land X0.here hx rfl (hb hby own_d2_29) rfl k) ?_
  show own_G _ _ _ _ _ _ _ (s₁.setTop (mkF m 30 #[.val (.ref b1), .val (.int o), .val (.long (own_cat (0 : Int64) x0)), .second] [(.long ((x1.toInt64) &&& (255 : Int64))), (.long ((own_cat (0 : Int64) x0) <<< ((8 : Int32) &&& 0x3f).toInt64))]))
  refine own_st (fun t k => XS.lor X0.here hx rfl (hb hby own_d2_30) rfl k) ?_
  show own_G _ _ _ _ _ _ _ (s₁.setTop (mkF m 31 #[.val (.ref b1), .val (.int o), .val (.long (own_cat (0 : Int64) x0)), .second] [(.long (((own_cat (0 : Int64) x0) <<< ((8 : Int32) &&& 0x3f).toInt64) ||| ((x1.toInt64) &&& (255 : Int64))))]))
  show own_G _ _ _ _ _ _ _ (s₁.setTop (mkF m 31 #[.val (.ref b1), .val (.int o), .val (.long (own_cat (0 : Int64) x0)), .second] [(.long (own_cat (own_cat (0 : Int64) x0) x1))]))
  refine own_st (fun t k => XS.lstoreN X0.here hx rfl (hb hby own_d2_31) rfl (l' := #[.val (.ref b1), .val (.int o), .val (.long (own_cat (own_cat (0 : Int64) x0) x1)), .second]) rfl k) ?_
  show own_G _ _ _ _ _ _ _ (s₁.setTop (mkF m 32 #[.val (.ref b1), .val (.int o), .val (.long (own_cat (own_cat (0 : Int64) x0) x1)), .second] []))
  refine own_st (fun t k => XS.lloadN X0.here hx rfl (hb hby own_d2_32) rfl k) ?_
  show own_G _ _ _ _ _ _ _ (s₁.setTop (mkF m 33 #[.val (.ref b1), .val (.int o), .val (.long (own_cat (own_cat (0 : Int64) x0) x1)), .second] [(.long (own_cat (own_cat (0 : Int64) x0) x1))]))
  refine own_st (fun t k => XS.bipush X0.here hx rfl (hb hby own_d2_33) k) ?_
  show own_G _ _ _ _ _ _ _ (s₁.setTop (mkF m 35 #[.val (.ref b1), .val (.int o), .val (.long (own_cat (own_cat (0 : Int64) x0) x1)), .second] [(.int (8 : Int32)), (.long (own_cat (own_cat (0 : Int64) x0) x1))]))
  refine own_st (fun t k => XS.lshl X0.here hx rfl (hb hby own_d2_35) rfl k) ?_
  show own_G _ _ _ _ _ _ _ (s₁.setTop (mkF m 36 #[.val (.ref b1), .val (.int o), .val (.long (own_cat (own_cat (0 : Int64) x0) x1)), .second] [(.long ((own_cat (own_cat (0 : Int64) x0) x1) <<< ((8 : Int32) &&& 0x3f).toInt64))]))
  refine own_st (fun t k => XS.aloadN X0.here hx rfl (hb hby own_d2_36) rfl rfl k) ?_
  show own_G _ _ _ _ _ _ _ (s₁.setTop (mkF m 37 #[.val (.ref b1), .val (.int o), .val (.long (own_cat (own_cat (0 : Int64) x0) x1)), .second] [(.ref b1), (.long ((own_cat (own_cat (0 : Int64) x0) x1) <<< ((8 : Int32) &&& 0x3f).toInt64))]))
  refine own_st (fun t k => XS.iloadN X0.here hx rfl (hb hby own_d2_37) rfl k) ?_
  show own_G _ _ _ _ _ _ _ (s₁.setTop (mkF m 38 #[.val (.ref b1), .val (.int o), .val (.long (own_cat (own_cat (0 : Int64) x0) x1)), .second] [(.int o), (.ref b1), (.long ((own_cat (own_cat (0 : Int64) x0) x1) <<< ((8 : Int32) &&& 0x3f).toInt64))]))
  refine own_st (fun t k => XS.iconst X0.here hx rfl (hb hby own_d2_38) k) ?_
  show own_G _ _ _ _ _ _ _ (s₁.setTop (mkF m 39 #[.val (.ref b1), .val (.int o), .val (.long (own_cat (own_cat (0 : Int64) x0) x1)), .second] [(.int (2 : Int32)), (.int o), (.ref b1), (.long ((own_cat (own_cat (0 : Int64) x0) x1) <<< ((8 : Int32) &&& 0x3f).toInt64))]))
  refine own_st (fun t k => XS.iadd X0.here hx rfl (hb hby own_d2_39) rfl k) ?_
  show own_G _ _ _ _ _ _ _ (s₁.setTop (mkF m 40 #[.val (.ref b1), .val (.int o), .val (.long (own_cat (own_cat (0 : Int64) x0) x1)), .second] [(.int (o + (2 : Int32))), (.ref b1), (.long ((own_cat (own_cat (0 : Int64) x0) x1) <<< ((8 : Int32) &&& 0x3f).toInt64))]))
  have pl2 := own_place o kk 2 2 ho (by decide) (by omega)
  have hin2 : ¬ ((o + (2 : Int32)) < 0 ∨ cl33.slots.size ≤ ((o + (2 : Int32))).toNatClampNeg) := inb_of S33 pl2.1
  have hat2 : cl33.slots[((o + (2 : Int32))).toNatClampNeg]? = some (.int x2) := Has.at H33 hin2 (by rw [pl2.2]; exact hx2)
  refine own_st (fun t k => X0.baloadBytes hx (j := (o + (2 : Int32))) (v := (.int x2)) (by rw [e0]; exact Ar33.1) (State.isArrayOf_alike hZ.alike Ar33.2.1) Ar33.2.2 hin2 hat2 (g := (mkF m 40 #[.val (.ref b1), .val (.int o), .val (.long (own_cat (own_cat (0 : Int64) x0) x1)), .second] [(.int (o + (2 : Int32))), (.ref b1), (.long ((own_cat (own_cat (0 : Int64) x0) x1) <<< ((8 : Int32) &&& 0x3f).toInt64))])) rfl rfl (hb hby own_d2_40) t k) ?_
  show own_G _ _ _ _ _ _ _ (s₁.setTop (mkF m 41 #[.val (.ref b1), .val (.int o), .val (.long (own_cat (own_cat (0 : Int64) x0) x1)), .second] [(.int x2), (.long ((own_cat (own_cat (0 : Int64) x0) x1) <<< ((8 : Int32) &&& 0x3f).toInt64))]))
  refine own_st (fun t k => XS.i2l X0.here hx rfl (hb hby own_d2_41) rfl k) ?_
  show own_G _ _ _ _ _ _ _ (s₁.setTop (mkF m 42 #[.val (.ref b1), .val (.int o), .val (.long (own_cat (own_cat (0 : Int64) x0) x1)), .second] [(.long (x2.toInt64)), (.long ((own_cat (own_cat (0 : Int64) x0) x1) <<< ((8 : Int32) &&& 0x3f).toInt64))]))
  refine own_st (fun t k => X0.ldc2Long hx hown (mvT hZ (hw _ (List.mem_of_getElem? (i := 37) rfl))) (g := (mkF m 42 #[.val (.ref b1), .val (.int o), .val (.long (own_cat (own_cat (0 : Int64) x0) x1)), .second] [(.long (x2.toInt64)), (.long ((own_cat (own_cat (0 : Int64) x0) x1) <<< ((8 : Int32) &&& 0x3f).toInt64))])) rfl (hb hby own_d2_42) t k) ?_
  show own_G _ _ _ _ _ _ _ (s₁.setTop (mkF m 45 #[.val (.ref b1), .val (.int o), .val (.long (own_cat (own_cat (0 : Int64) x0) x1)), .second] [(.long (255 : Int64)), (.long (x2.toInt64)), (.long ((own_cat (own_cat (0 : Int64) x0) x1) <<< ((8 : Int32) &&& 0x3f).toInt64))]))
  refine own_st (fun t k => XS.land X0.here hx rfl (hb hby own_d2_45) rfl k) ?_
  show own_G _ _ _ _ _ _ _ (s₁.setTop (mkF m 46 #[.val (.ref b1), .val (.int o), .val (.long (own_cat (own_cat (0 : Int64) x0) x1)), .second] [(.long ((x2.toInt64) &&& (255 : Int64))), (.long ((own_cat (own_cat (0 : Int64) x0) x1) <<< ((8 : Int32) &&& 0x3f).toInt64))]))
  refine own_st (fun t k => XS.lor X0.here hx rfl (hb hby own_d2_46) rfl k) ?_
  show own_G _ _ _ _ _ _ _ (s₁.setTop (mkF m 47 #[.val (.ref b1), .val (.int o), .val (.long (own_cat (own_cat (0 : Int64) x0) x1)), .second] [(.long (((own_cat (own_cat (0 : Int64) x0) x1) <<< ((8 : Int32) &&& 0x3f).toInt64) ||| ((x2.toInt64) &&& (255 : Int64))))]))
  show own_G _ _ _ _ _ _ _ (s₁.setTop (mkF m 47 #[.val (.ref b1), .val (.int o), .val (.long (own_cat (own_cat (0 : Int64) x0) x1)), .second] [(.long (own_cat (own_cat (own_cat (0 : Int64) x0) x1) x2))]))
  refine own_st (fun t k => XS.lstoreN X0.here hx rfl (hb hby own_d2_47) rfl (l' := #[.val (.ref b1), .val (.int o), .val (.long (own_cat (own_cat (own_cat (0 : Int64) x0) x1) x2)), .second]) rfl k) ?_
  show own_G _ _ _ _ _ _ _ (s₁.setTop (mkF m 48 #[.val (.ref b1), .val (.int o), .val (.long (own_cat (own_cat (own_cat (0 : Int64) x0) x1) x2)), .second] []))
  refine own_st (fun t k => XS.lloadN X0.here hx rfl (hb hby own_d2_48) rfl k) ?_
  show own_G _ _ _ _ _ _ _ (s₁.setTop (mkF m 49 #[.val (.ref b1), .val (.int o), .val (.long (own_cat (own_cat (own_cat (0 : Int64) x0) x1) x2)), .second] [(.long (own_cat (own_cat (own_cat (0 : Int64) x0) x1) x2))]))
  refine own_st (fun t k => XS.bipush X0.here hx rfl (hb hby own_d2_49) k) ?_
  show own_G _ _ _ _ _ _ _ (s₁.setTop (mkF m 51 #[.val (.ref b1), .val (.int o), .val (.long (own_cat (own_cat (own_cat (0 : Int64) x0) x1) x2)), .second] [(.int (8 : Int32)), (.long (own_cat (own_cat (own_cat (0 : Int64) x0) x1) x2))]))
  refine own_st (fun t k => XS.lshl X0.here hx rfl (hb hby own_d2_51) rfl k) ?_
  show own_G _ _ _ _ _ _ _ (s₁.setTop (mkF m 52 #[.val (.ref b1), .val (.int o), .val (.long (own_cat (own_cat (own_cat (0 : Int64) x0) x1) x2)), .second] [(.long ((own_cat (own_cat (own_cat (0 : Int64) x0) x1) x2) <<< ((8 : Int32) &&& 0x3f).toInt64))]))
  refine own_st (fun t k => XS.aloadN X0.here hx rfl (hb hby own_d2_52) rfl rfl k) ?_
  show own_G _ _ _ _ _ _ _ (s₁.setTop (mkF m 53 #[.val (.ref b1), .val (.int o), .val (.long (own_cat (own_cat (own_cat (0 : Int64) x0) x1) x2)), .second] [(.ref b1), (.long ((own_cat (own_cat (own_cat (0 : Int64) x0) x1) x2) <<< ((8 : Int32) &&& 0x3f).toInt64))]))
  refine own_st (fun t k => XS.iloadN X0.here hx rfl (hb hby own_d2_53) rfl k) ?_
  show own_G _ _ _ _ _ _ _ (s₁.setTop (mkF m 54 #[.val (.ref b1), .val (.int o), .val (.long (own_cat (own_cat (own_cat (0 : Int64) x0) x1) x2)), .second] [(.int o), (.ref b1), (.long ((own_cat (own_cat (own_cat (0 : Int64) x0) x1) x2) <<< ((8 : Int32) &&& 0x3f).toInt64))]))
  refine own_st (fun t k => XS.iconst X0.here hx rfl (hb hby own_d2_54) k) ?_
  show own_G _ _ _ _ _ _ _ (s₁.setTop (mkF m 55 #[.val (.ref b1), .val (.int o), .val (.long (own_cat (own_cat (own_cat (0 : Int64) x0) x1) x2)), .second] [(.int (3 : Int32)), (.int o), (.ref b1), (.long ((own_cat (own_cat (own_cat (0 : Int64) x0) x1) x2) <<< ((8 : Int32) &&& 0x3f).toInt64))]))
  refine own_st (fun t k => XS.iadd X0.here hx rfl (hb hby own_d2_55) rfl k) ?_
  show own_G _ _ _ _ _ _ _ (s₁.setTop (mkF m 56 #[.val (.ref b1), .val (.int o), .val (.long (own_cat (own_cat (own_cat (0 : Int64) x0) x1) x2)), .second] [(.int (o + (3 : Int32))), (.ref b1), (.long ((own_cat (own_cat (own_cat (0 : Int64) x0) x1) x2) <<< ((8 : Int32) &&& 0x3f).toInt64))]))
  have pl3 := own_place o kk 3 3 ho (by decide) (by omega)
  have hin3 : ¬ ((o + (3 : Int32)) < 0 ∨ cl33.slots.size ≤ ((o + (3 : Int32))).toNatClampNeg) := inb_of S33 pl3.1
  have hat3 : cl33.slots[((o + (3 : Int32))).toNatClampNeg]? = some (.int x3) := Has.at H33 hin3 (by rw [pl3.2]; exact hx3)
  refine own_st (fun t k => X0.baloadBytes hx (j := (o + (3 : Int32))) (v := (.int x3)) (by rw [e0]; exact Ar33.1) (State.isArrayOf_alike hZ.alike Ar33.2.1) Ar33.2.2 hin3 hat3 (g := (mkF m 56 #[.val (.ref b1), .val (.int o), .val (.long (own_cat (own_cat (own_cat (0 : Int64) x0) x1) x2)), .second] [(.int (o + (3 : Int32))), (.ref b1), (.long ((own_cat (own_cat (own_cat (0 : Int64) x0) x1) x2) <<< ((8 : Int32) &&& 0x3f).toInt64))])) rfl rfl (hb hby own_d2_56) t k) ?_
  show own_G _ _ _ _ _ _ _ (s₁.setTop (mkF m 57 #[.val (.ref b1), .val (.int o), .val (.long (own_cat (own_cat (own_cat (0 : Int64) x0) x1) x2)), .second] [(.int x3), (.long ((own_cat (own_cat (own_cat (0 : Int64) x0) x1) x2) <<< ((8 : Int32) &&& 0x3f).toInt64))]))
  refine own_st (fun t k => XS.i2l X0.here hx rfl (hb hby own_d2_57) rfl k) ?_
  show own_G _ _ _ _ _ _ _ (s₁.setTop (mkF m 58 #[.val (.ref b1), .val (.int o), .val (.long (own_cat (own_cat (own_cat (0 : Int64) x0) x1) x2)), .second] [(.long (x3.toInt64)), (.long ((own_cat (own_cat (own_cat (0 : Int64) x0) x1) x2) <<< ((8 : Int32) &&& 0x3f).toInt64))]))
  refine own_st (fun t k => X0.ldc2Long hx hown (mvT hZ (hw _ (List.mem_of_getElem? (i := 37) rfl))) (g := (mkF m 58 #[.val (.ref b1), .val (.int o), .val (.long (own_cat (own_cat (own_cat (0 : Int64) x0) x1) x2)), .second] [(.long (x3.toInt64)), (.long ((own_cat (own_cat (own_cat (0 : Int64) x0) x1) x2) <<< ((8 : Int32) &&& 0x3f).toInt64))])) rfl (hb hby own_d2_58) t k) ?_
  show own_G _ _ _ _ _ _ _ (s₁.setTop (mkF m 61 #[.val (.ref b1), .val (.int o), .val (.long (own_cat (own_cat (own_cat (0 : Int64) x0) x1) x2)), .second] [(.long (255 : Int64)), (.long (x3.toInt64)), (.long ((own_cat (own_cat (own_cat (0 : Int64) x0) x1) x2) <<< ((8 : Int32) &&& 0x3f).toInt64))]))
  refine own_st (fun t k => XS.land X0.here hx rfl (hb hby own_d2_61) rfl k) ?_
  show own_G _ _ _ _ _ _ _ (s₁.setTop (mkF m 62 #[.val (.ref b1), .val (.int o), .val (.long (own_cat (own_cat (own_cat (0 : Int64) x0) x1) x2)), .second] [(.long ((x3.toInt64) &&& (255 : Int64))), (.long ((own_cat (own_cat (own_cat (0 : Int64) x0) x1) x2) <<< ((8 : Int32) &&& 0x3f).toInt64))]))
  refine own_st (fun t k => XS.lor X0.here hx rfl (hb hby own_d2_62) rfl k) ?_
  show own_G _ _ _ _ _ _ _ (s₁.setTop (mkF m 63 #[.val (.ref b1), .val (.int o), .val (.long (own_cat (own_cat (own_cat (0 : Int64) x0) x1) x2)), .second] [(.long (((own_cat (own_cat (own_cat (0 : Int64) x0) x1) x2) <<< ((8 : Int32) &&& 0x3f).toInt64) ||| ((x3.toInt64) &&& (255 : Int64))))]))
  show own_G _ _ _ _ _ _ _ (s₁.setTop (mkF m 63 #[.val (.ref b1), .val (.int o), .val (.long (own_cat (own_cat (own_cat (0 : Int64) x0) x1) x2)), .second] [(.long (own_cat (own_cat (own_cat (own_cat (0 : Int64) x0) x1) x2) x3))]))
  refine own_st (fun t k => XS.lstoreN X0.here hx rfl (hb hby own_d2_63) rfl (l' := #[.val (.ref b1), .val (.int o), .val (.long (own_cat (own_cat (own_cat (own_cat (0 : Int64) x0) x1) x2) x3)), .second]) rfl k) ?_
  show own_G _ _ _ _ _ _ _ (s₁.setTop (mkF m 64 #[.val (.ref b1), .val (.int o), .val (.long (own_cat (own_cat (own_cat (own_cat (0 : Int64) x0) x1) x2) x3)), .second] []))
  refine own_st (fun t k => XS.lloadN X0.here hx rfl (hb hby own_d2_64) rfl k) ?_
  show own_G _ _ _ _ _ _ _ (s₁.setTop (mkF m 65 #[.val (.ref b1), .val (.int o), .val (.long (own_cat (own_cat (own_cat (own_cat (0 : Int64) x0) x1) x2) x3)), .second] [(.long (own_cat (own_cat (own_cat (own_cat (0 : Int64) x0) x1) x2) x3))]))
  refine own_st (fun t k => XS.bipush X0.here hx rfl (hb hby own_d2_65) k) ?_
  show own_G _ _ _ _ _ _ _ (s₁.setTop (mkF m 67 #[.val (.ref b1), .val (.int o), .val (.long (own_cat (own_cat (own_cat (own_cat (0 : Int64) x0) x1) x2) x3)), .second] [(.int (8 : Int32)), (.long (own_cat (own_cat (own_cat (own_cat (0 : Int64) x0) x1) x2) x3))]))
  refine own_st (fun t k => XS.lshl X0.here hx rfl (hb hby own_d2_67) rfl k) ?_
  show own_G _ _ _ _ _ _ _ (s₁.setTop (mkF m 68 #[.val (.ref b1), .val (.int o), .val (.long (own_cat (own_cat (own_cat (own_cat (0 : Int64) x0) x1) x2) x3)), .second] [(.long ((own_cat (own_cat (own_cat (own_cat (0 : Int64) x0) x1) x2) x3) <<< ((8 : Int32) &&& 0x3f).toInt64))]))
  refine own_st (fun t k => XS.aloadN X0.here hx rfl (hb hby own_d2_68) rfl rfl k) ?_
  show own_G _ _ _ _ _ _ _ (s₁.setTop (mkF m 69 #[.val (.ref b1), .val (.int o), .val (.long (own_cat (own_cat (own_cat (own_cat (0 : Int64) x0) x1) x2) x3)), .second] [(.ref b1), (.long ((own_cat (own_cat (own_cat (own_cat (0 : Int64) x0) x1) x2) x3) <<< ((8 : Int32) &&& 0x3f).toInt64))]))
  refine own_st (fun t k => XS.iloadN X0.here hx rfl (hb hby own_d2_69) rfl k) ?_
  show own_G _ _ _ _ _ _ _ (s₁.setTop (mkF m 70 #[.val (.ref b1), .val (.int o), .val (.long (own_cat (own_cat (own_cat (own_cat (0 : Int64) x0) x1) x2) x3)), .second] [(.int o), (.ref b1), (.long ((own_cat (own_cat (own_cat (own_cat (0 : Int64) x0) x1) x2) x3) <<< ((8 : Int32) &&& 0x3f).toInt64))]))
  refine own_st (fun t k => XS.iconst X0.here hx rfl (hb hby own_d2_70) k) ?_
  show own_G _ _ _ _ _ _ _ (s₁.setTop (mkF m 71 #[.val (.ref b1), .val (.int o), .val (.long (own_cat (own_cat (own_cat (own_cat (0 : Int64) x0) x1) x2) x3)), .second] [(.int (4 : Int32)), (.int o), (.ref b1), (.long ((own_cat (own_cat (own_cat (own_cat (0 : Int64) x0) x1) x2) x3) <<< ((8 : Int32) &&& 0x3f).toInt64))]))
  refine own_st (fun t k => XS.iadd X0.here hx rfl (hb hby own_d2_71) rfl k) ?_
  show own_G _ _ _ _ _ _ _ (s₁.setTop (mkF m 72 #[.val (.ref b1), .val (.int o), .val (.long (own_cat (own_cat (own_cat (own_cat (0 : Int64) x0) x1) x2) x3)), .second] [(.int (o + (4 : Int32))), (.ref b1), (.long ((own_cat (own_cat (own_cat (own_cat (0 : Int64) x0) x1) x2) x3) <<< ((8 : Int32) &&& 0x3f).toInt64))]))
  have pl4 := own_place o kk 4 4 ho (by decide) (by omega)
  have hin4 : ¬ ((o + (4 : Int32)) < 0 ∨ cl33.slots.size ≤ ((o + (4 : Int32))).toNatClampNeg) := inb_of S33 pl4.1
  have hat4 : cl33.slots[((o + (4 : Int32))).toNatClampNeg]? = some (.int x4) := Has.at H33 hin4 (by rw [pl4.2]; exact hx4)
  refine own_st (fun t k => X0.baloadBytes hx (j := (o + (4 : Int32))) (v := (.int x4)) (by rw [e0]; exact Ar33.1) (State.isArrayOf_alike hZ.alike Ar33.2.1) Ar33.2.2 hin4 hat4 (g := (mkF m 72 #[.val (.ref b1), .val (.int o), .val (.long (own_cat (own_cat (own_cat (own_cat (0 : Int64) x0) x1) x2) x3)), .second] [(.int (o + (4 : Int32))), (.ref b1), (.long ((own_cat (own_cat (own_cat (own_cat (0 : Int64) x0) x1) x2) x3) <<< ((8 : Int32) &&& 0x3f).toInt64))])) rfl rfl (hb hby own_d2_72) t k) ?_
  show own_G _ _ _ _ _ _ _ (s₁.setTop (mkF m 73 #[.val (.ref b1), .val (.int o), .val (.long (own_cat (own_cat (own_cat (own_cat (0 : Int64) x0) x1) x2) x3)), .second] [(.int x4), (.long ((own_cat (own_cat (own_cat (own_cat (0 : Int64) x0) x1) x2) x3) <<< ((8 : Int32) &&& 0x3f).toInt64))]))
  refine own_st (fun t k => XS.i2l X0.here hx rfl (hb hby own_d2_73) rfl k) ?_
  show own_G _ _ _ _ _ _ _ (s₁.setTop (mkF m 74 #[.val (.ref b1), .val (.int o), .val (.long (own_cat (own_cat (own_cat (own_cat (0 : Int64) x0) x1) x2) x3)), .second] [(.long (x4.toInt64)), (.long ((own_cat (own_cat (own_cat (own_cat (0 : Int64) x0) x1) x2) x3) <<< ((8 : Int32) &&& 0x3f).toInt64))]))
  refine own_st (fun t k => X0.ldc2Long hx hown (mvT hZ (hw _ (List.mem_of_getElem? (i := 37) rfl))) (g := (mkF m 74 #[.val (.ref b1), .val (.int o), .val (.long (own_cat (own_cat (own_cat (own_cat (0 : Int64) x0) x1) x2) x3)), .second] [(.long (x4.toInt64)), (.long ((own_cat (own_cat (own_cat (own_cat (0 : Int64) x0) x1) x2) x3) <<< ((8 : Int32) &&& 0x3f).toInt64))])) rfl (hb hby own_d2_74) t k) ?_
  show own_G _ _ _ _ _ _ _ (s₁.setTop (mkF m 77 #[.val (.ref b1), .val (.int o), .val (.long (own_cat (own_cat (own_cat (own_cat (0 : Int64) x0) x1) x2) x3)), .second] [(.long (255 : Int64)), (.long (x4.toInt64)), (.long ((own_cat (own_cat (own_cat (own_cat (0 : Int64) x0) x1) x2) x3) <<< ((8 : Int32) &&& 0x3f).toInt64))]))
  refine own_st (fun t k => XS.land X0.here hx rfl (hb hby own_d2_77) rfl k) ?_
  show own_G _ _ _ _ _ _ _ (s₁.setTop (mkF m 78 #[.val (.ref b1), .val (.int o), .val (.long (own_cat (own_cat (own_cat (own_cat (0 : Int64) x0) x1) x2) x3)), .second] [(.long ((x4.toInt64) &&& (255 : Int64))), (.long ((own_cat (own_cat (own_cat (own_cat (0 : Int64) x0) x1) x2) x3) <<< ((8 : Int32) &&& 0x3f).toInt64))]))
  refine own_st (fun t k => XS.lor X0.here hx rfl (hb hby own_d2_78) rfl k) ?_
  show own_G _ _ _ _ _ _ _ (s₁.setTop (mkF m 79 #[.val (.ref b1), .val (.int o), .val (.long (own_cat (own_cat (own_cat (own_cat (0 : Int64) x0) x1) x2) x3)), .second] [(.long (((own_cat (own_cat (own_cat (own_cat (0 : Int64) x0) x1) x2) x3) <<< ((8 : Int32) &&& 0x3f).toInt64) ||| ((x4.toInt64) &&& (255 : Int64))))]))
  show own_G _ _ _ _ _ _ _ (s₁.setTop (mkF m 79 #[.val (.ref b1), .val (.int o), .val (.long (own_cat (own_cat (own_cat (own_cat (0 : Int64) x0) x1) x2) x3)), .second] [(.long (own_cat (own_cat (own_cat (own_cat (own_cat (0 : Int64) x0) x1) x2) x3) x4))]))
  refine own_st (fun t k => XS.lstoreN X0.here hx rfl (hb hby own_d2_79) rfl (l' := #[.val (.ref b1), .val (.int o), .val (.long (own_cat (own_cat (own_cat (own_cat (own_cat (0 : Int64) x0) x1) x2) x3) x4)), .second]) rfl k) ?_
  show own_G _ _ _ _ _ _ _ (s₁.setTop (mkF m 80 #[.val (.ref b1), .val (.int o), .val (.long (own_cat (own_cat (own_cat (own_cat (own_cat (0 : Int64) x0) x1) x2) x3) x4)), .second] []))
  refine own_st (fun t k => XS.lloadN X0.here hx rfl (hb hby own_d2_80) rfl k) ?_
  show own_G _ _ _ _ _ _ _ (s₁.setTop (mkF m 81 #[.val (.ref b1), .val (.int o), .val (.long (own_cat (own_cat (own_cat (own_cat (own_cat (0 : Int64) x0) x1) x2) x3) x4)), .second] [(.long (own_cat (own_cat (own_cat (own_cat (own_cat (0 : Int64) x0) x1) x2) x3) x4))]))
  refine own_st (fun t k => XS.bipush X0.here hx rfl (hb hby own_d2_81) k) ?_
  show own_G _ _ _ _ _ _ _ (s₁.setTop (mkF m 83 #[.val (.ref b1), .val (.int o), .val (.long (own_cat (own_cat (own_cat (own_cat (own_cat (0 : Int64) x0) x1) x2) x3) x4)), .second] [(.int (8 : Int32)), (.long (own_cat (own_cat (own_cat (own_cat (own_cat (0 : Int64) x0) x1) x2) x3) x4))]))
  refine own_st (fun t k => XS.lshl X0.here hx rfl (hb hby own_d2_83) rfl k) ?_
  show own_G _ _ _ _ _ _ _ (s₁.setTop (mkF m 84 #[.val (.ref b1), .val (.int o), .val (.long (own_cat (own_cat (own_cat (own_cat (own_cat (0 : Int64) x0) x1) x2) x3) x4)), .second] [(.long ((own_cat (own_cat (own_cat (own_cat (own_cat (0 : Int64) x0) x1) x2) x3) x4) <<< ((8 : Int32) &&& 0x3f).toInt64))]))
  refine own_st (fun t k => XS.aloadN X0.here hx rfl (hb hby own_d2_84) rfl rfl k) ?_
  show own_G _ _ _ _ _ _ _ (s₁.setTop (mkF m 85 #[.val (.ref b1), .val (.int o), .val (.long (own_cat (own_cat (own_cat (own_cat (own_cat (0 : Int64) x0) x1) x2) x3) x4)), .second] [(.ref b1), (.long ((own_cat (own_cat (own_cat (own_cat (own_cat (0 : Int64) x0) x1) x2) x3) x4) <<< ((8 : Int32) &&& 0x3f).toInt64))]))
  refine own_st (fun t k => XS.iloadN X0.here hx rfl (hb hby own_d2_85) rfl k) ?_
  show own_G _ _ _ _ _ _ _ (s₁.setTop (mkF m 86 #[.val (.ref b1), .val (.int o), .val (.long (own_cat (own_cat (own_cat (own_cat (own_cat (0 : Int64) x0) x1) x2) x3) x4)), .second] [(.int o), (.ref b1), (.long ((own_cat (own_cat (own_cat (own_cat (own_cat (0 : Int64) x0) x1) x2) x3) x4) <<< ((8 : Int32) &&& 0x3f).toInt64))]))
  refine own_st (fun t k => XS.iconst X0.here hx rfl (hb hby own_d2_86) k) ?_
  show own_G _ _ _ _ _ _ _ (s₁.setTop (mkF m 87 #[.val (.ref b1), .val (.int o), .val (.long (own_cat (own_cat (own_cat (own_cat (own_cat (0 : Int64) x0) x1) x2) x3) x4)), .second] [(.int (5 : Int32)), (.int o), (.ref b1), (.long ((own_cat (own_cat (own_cat (own_cat (own_cat (0 : Int64) x0) x1) x2) x3) x4) <<< ((8 : Int32) &&& 0x3f).toInt64))]))
  refine own_st (fun t k => XS.iadd X0.here hx rfl (hb hby own_d2_87) rfl k) ?_
  show own_G _ _ _ _ _ _ _ (s₁.setTop (mkF m 88 #[.val (.ref b1), .val (.int o), .val (.long (own_cat (own_cat (own_cat (own_cat (own_cat (0 : Int64) x0) x1) x2) x3) x4)), .second] [(.int (o + (5 : Int32))), (.ref b1), (.long ((own_cat (own_cat (own_cat (own_cat (own_cat (0 : Int64) x0) x1) x2) x3) x4) <<< ((8 : Int32) &&& 0x3f).toInt64))]))
  have pl5 := own_place o kk 5 5 ho (by decide) (by omega)
  have hin5 : ¬ ((o + (5 : Int32)) < 0 ∨ cl33.slots.size ≤ ((o + (5 : Int32))).toNatClampNeg) := inb_of S33 pl5.1
  have hat5 : cl33.slots[((o + (5 : Int32))).toNatClampNeg]? = some (.int x5) := Has.at H33 hin5 (by rw [pl5.2]; exact hx5)
  refine own_st (fun t k => X0.baloadBytes hx (j := (o + (5 : Int32))) (v := (.int x5)) (by rw [e0]; exact Ar33.1) (State.isArrayOf_alike hZ.alike Ar33.2.1) Ar33.2.2 hin5 hat5 (g := (mkF m 88 #[.val (.ref b1), .val (.int o), .val (.long (own_cat (own_cat (own_cat (own_cat (own_cat (0 : Int64) x0) x1) x2) x3) x4)), .second] [(.int (o + (5 : Int32))), (.ref b1), (.long ((own_cat (own_cat (own_cat (own_cat (own_cat (0 : Int64) x0) x1) x2) x3) x4) <<< ((8 : Int32) &&& 0x3f).toInt64))])) rfl rfl (hb hby own_d2_88) t k) ?_
  show own_G _ _ _ _ _ _ _ (s₁.setTop (mkF m 89 #[.val (.ref b1), .val (.int o), .val (.long (own_cat (own_cat (own_cat (own_cat (own_cat (0 : Int64) x0) x1) x2) x3) x4)), .second] [(.int x5), (.long ((own_cat (own_cat (own_cat (own_cat (own_cat (0 : Int64) x0) x1) x2) x3) x4) <<< ((8 : Int32) &&& 0x3f).toInt64))]))
  refine own_st (fun t k => XS.i2l X0.here hx rfl (hb hby own_d2_89) rfl k) ?_
  show own_G _ _ _ _ _ _ _ (s₁.setTop (mkF m 90 #[.val (.ref b1), .val (.int o), .val (.long (own_cat (own_cat (own_cat (own_cat (own_cat (0 : Int64) x0) x1) x2) x3) x4)), .second] [(.long (x5.toInt64)), (.long ((own_cat (own_cat (own_cat (own_cat (own_cat (0 : Int64) x0) x1) x2) x3) x4) <<< ((8 : Int32) &&& 0x3f).toInt64))]))
  refine own_st (fun t k => X0.ldc2Long hx hown (mvT hZ (hw _ (List.mem_of_getElem? (i := 37) rfl))) (g := (mkF m 90 #[.val (.ref b1), .val (.int o), .val (.long (own_cat (own_cat (own_cat (own_cat (own_cat (0 : Int64) x0) x1) x2) x3) x4)), .second] [(.long (x5.toInt64)), (.long ((own_cat (own_cat (own_cat (own_cat (own_cat (0 : Int64) x0) x1) x2) x3) x4) <<< ((8 : Int32) &&& 0x3f).toInt64))])) rfl (hb hby own_d2_90) t k) ?_
  show own_G _ _ _ _ _ _ _ (s₁.setTop (mkF m 93 #[.val (.ref b1), .val (.int o), .val (.long (own_cat (own_cat (own_cat (own_cat (own_cat (0 : Int64) x0) x1) x2) x3) x4)), .second] [(.long (255 : Int64)), (.long (x5.toInt64)), (.long ((own_cat (own_cat (own_cat (own_cat (own_cat (0 : Int64) x0) x1) x2) x3) x4) <<< ((8 : Int32) &&& 0x3f).toInt64))]))
  refine own_st (fun t k => XS.land X0.here hx rfl (hb hby own_d2_93) rfl k) ?_
  show own_G _ _ _ _ _ _ _ (s₁.setTop (mkF m 94 #[.val (.ref b1), .val (.int o), .val (.long (own_cat (own_cat (own_cat (own_cat (own_cat (0 : Int64) x0) x1) x2) x3) x4)), .second] [(.long ((x5.toInt64) &&& (255 : Int64))), (.long ((own_cat (own_cat (own_cat (own_cat (own_cat (0 : Int64) x0) x1) x2) x3) x4) <<< ((8 : Int32) &&& 0x3f).toInt64))]))
  refine own_st (fun t k => XS.lor X0.here hx rfl (hb hby own_d2_94) rfl k) ?_
  show own_G _ _ _ _ _ _ _ (s₁.setTop (mkF m 95 #[.val (.ref b1), .val (.int o), .val (.long (own_cat (own_cat (own_cat (own_cat (own_cat (0 : Int64) x0) x1) x2) x3) x4)), .second] [(.long (((own_cat (own_cat (own_cat (own_cat (own_cat (0 : Int64) x0) x1) x2) x3) x4) <<< ((8 : Int32) &&& 0x3f).toInt64) ||| ((x5.toInt64) &&& (255 : Int64))))]))
  show own_G _ _ _ _ _ _ _ (s₁.setTop (mkF m 95 #[.val (.ref b1), .val (.int o), .val (.long (own_cat (own_cat (own_cat (own_cat (own_cat (0 : Int64) x0) x1) x2) x3) x4)), .second] [(.long (own_cat (own_cat (own_cat (own_cat (own_cat (own_cat (0 : Int64) x0) x1) x2) x3) x4) x5))]))
  refine own_st (fun t k => XS.lstoreN X0.here hx rfl (hb hby own_d2_95) rfl (l' := #[.val (.ref b1), .val (.int o), .val (.long (own_cat (own_cat (own_cat (own_cat (own_cat (own_cat (0 : Int64) x0) x1) x2) x3) x4) x5)), .second]) rfl k) ?_
  show own_G _ _ _ _ _ _ _ (s₁.setTop (mkF m 96 #[.val (.ref b1), .val (.int o), .val (.long (own_cat (own_cat (own_cat (own_cat (own_cat (own_cat (0 : Int64) x0) x1) x2) x3) x4) x5)), .second] []))
  refine own_st (fun t k => XS.lloadN X0.here hx rfl (hb hby own_d2_96) rfl k) ?_
  show own_G _ _ _ _ _ _ _ (s₁.setTop (mkF m 97 #[.val (.ref b1), .val (.int o), .val (.long (own_cat (own_cat (own_cat (own_cat (own_cat (own_cat (0 : Int64) x0) x1) x2) x3) x4) x5)), .second] [(.long (own_cat (own_cat (own_cat (own_cat (own_cat (own_cat (0 : Int64) x0) x1) x2) x3) x4) x5))]))
  refine own_st (fun t k => XS.bipush X0.here hx rfl (hb hby own_d2_97) k) ?_
  show own_G _ _ _ _ _ _ _ (s₁.setTop (mkF m 99 #[.val (.ref b1), .val (.int o), .val (.long (own_cat (own_cat (own_cat (own_cat (own_cat (own_cat (0 : Int64) x0) x1) x2) x3) x4) x5)), .second] [(.int (8 : Int32)), (.long (own_cat (own_cat (own_cat (own_cat (own_cat (own_cat (0 : Int64) x0) x1) x2) x3) x4) x5))]))
  refine own_st (fun t k => XS.lshl X0.here hx rfl (hb hby own_d2_99) rfl k) ?_
  show own_G _ _ _ _ _ _ _ (s₁.setTop (mkF m 100 #[.val (.ref b1), .val (.int o), .val (.long (own_cat (own_cat (own_cat (own_cat (own_cat (own_cat (0 : Int64) x0) x1) x2) x3) x4) x5)), .second] [(.long ((own_cat (own_cat (own_cat (own_cat (own_cat (own_cat (0 : Int64) x0) x1) x2) x3) x4) x5) <<< ((8 : Int32) &&& 0x3f).toInt64))]))
  refine own_st (fun t k => XS.aloadN X0.here hx rfl (hb hby own_d2_100) rfl rfl k) ?_
  show own_G _ _ _ _ _ _ _ (s₁.setTop (mkF m 101 #[.val (.ref b1), .val (.int o), .val (.long (own_cat (own_cat (own_cat (own_cat (own_cat (own_cat (0 : Int64) x0) x1) x2) x3) x4) x5)), .second] [(.ref b1), (.long ((own_cat (own_cat (own_cat (own_cat (own_cat (own_cat (0 : Int64) x0) x1) x2) x3) x4) x5) <<< ((8 : Int32) &&& 0x3f).toInt64))]))
  refine own_st (fun t k => XS.iloadN X0.here hx rfl (hb hby own_d2_101) rfl k) ?_
  show own_G _ _ _ _ _ _ _ (s₁.setTop (mkF m 102 #[.val (.ref b1), .val (.int o), .val (.long (own_cat (own_cat (own_cat (own_cat (own_cat (own_cat (0 : Int64) x0) x1) x2) x3) x4) x5)), .second] [(.int o), (.ref b1), (.long ((own_cat (own_cat (own_cat (own_cat (own_cat (own_cat (0 : Int64) x0) x1) x2) x3) x4) x5) <<< ((8 : Int32) &&& 0x3f).toInt64))]))
  refine own_st (fun t k => XS.bipush X0.here hx rfl (hb hby own_d2_102) k) ?_
  show own_G _ _ _ _ _ _ _ (s₁.setTop (mkF m 104 #[.val (.ref b1), .val (.int o), .val (.long (own_cat (own_cat (own_cat (own_cat (own_cat (own_cat (0 : Int64) x0) x1) x2) x3) x4) x5)), .second] [(.int (6 : Int32)), (.int o), (.ref b1), (.long ((own_cat (own_cat (own_cat (own_cat (own_cat (own_cat (0 : Int64) x0) x1) x2) x3) x4) x5) <<< ((8 : Int32) &&& 0x3f).toInt64))]))
  refine own_st (fun t k => XS.iadd X0.here hx rfl (hb hby own_d2_104) rfl k) ?_
  show own_G _ _ _ _ _ _ _ (s₁.setTop (mkF m 105 #[.val (.ref b1), .val (.int o), .val (.long (own_cat (own_cat (own_cat (own_cat (own_cat (own_cat (0 : Int64) x0) x1) x2) x3) x4) x5)), .second] [(.int (o + (6 : Int32))), (.ref b1), (.long ((own_cat (own_cat (own_cat (own_cat (own_cat (own_cat (0 : Int64) x0) x1) x2) x3) x4) x5) <<< ((8 : Int32) &&& 0x3f).toInt64))]))
  have pl6 := own_place o kk 6 6 ho (by decide) (by omega)
  have hin6 : ¬ ((o + (6 : Int32)) < 0 ∨ cl33.slots.size ≤ ((o + (6 : Int32))).toNatClampNeg) := inb_of S33 pl6.1
  have hat6 : cl33.slots[((o + (6 : Int32))).toNatClampNeg]? = some (.int x6) := Has.at H33 hin6 (by rw [pl6.2]; exact hx6)
  refine own_st (fun t k => X0.baloadBytes hx (j := (o + (6 : Int32))) (v := (.int x6)) (by rw [e0]; exact Ar33.1) (State.isArrayOf_alike hZ.alike Ar33.2.1) Ar33.2.2 hin6 hat6 (g := (mkF m 105 #[.val (.ref b1), .val (.int o), .val (.long (own_cat (own_cat (own_cat (own_cat (own_cat (own_cat (0 : Int64) x0) x1) x2) x3) x4) x5)), .second] [(.int (o + (6 : Int32))), (.ref b1), (.long ((own_cat (own_cat (own_cat (own_cat (own_cat (own_cat (0 : Int64) x0) x1) x2) x3) x4) x5) <<< ((8 : Int32) &&& 0x3f).toInt64))])) rfl rfl (hb hby own_d2_105) t k) ?_
  show own_G _ _ _ _ _ _ _ (s₁.setTop (mkF m 106 #[.val (.ref b1), .val (.int o), .val (.long (own_cat (own_cat (own_cat (own_cat (own_cat (own_cat (0 : Int64) x0) x1) x2) x3) x4) x5)), .second] [(.int x6), (.long ((own_cat (own_cat (own_cat (own_cat (own_cat (own_cat (0 : Int64) x0) x1) x2) x3) x4) x5) <<< ((8 : Int32) &&& 0x3f).toInt64))]))
  refine own_st (fun t k => XS.i2l X0.here hx rfl (hb hby own_d2_106) rfl k) ?_
  show own_G _ _ _ _ _ _ _ (s₁.setTop (mkF m 107 #[.val (.ref b1), .val (.int o), .val (.long (own_cat (own_cat (own_cat (own_cat (own_cat (own_cat (0 : Int64) x0) x1) x2) x3) x4) x5)), .second] [(.long (x6.toInt64)), (.long ((own_cat (own_cat (own_cat (own_cat (own_cat (own_cat (0 : Int64) x0) x1) x2) x3) x4) x5) <<< ((8 : Int32) &&& 0x3f).toInt64))]))
  refine own_st (fun t k => X0.ldc2Long hx hown (mvT hZ (hw _ (List.mem_of_getElem? (i := 37) rfl))) (g := (mkF m 107 #[.val (.ref b1), .val (.int o), .val (.long (own_cat (own_cat (own_cat (own_cat (own_cat (own_cat (0 : Int64) x0) x1) x2) x3) x4) x5)), .second] [(.long (x6.toInt64)), (.long ((own_cat (own_cat (own_cat (own_cat (own_cat (own_cat (0 : Int64) x0) x1) x2) x3) x4) x5) <<< ((8 : Int32) &&& 0x3f).toInt64))])) rfl (hb hby own_d2_107) t k) ?_
  show own_G _ _ _ _ _ _ _ (s₁.setTop (mkF m 110 #[.val (.ref b1), .val (.int o), .val (.long (own_cat (own_cat (own_cat (own_cat (own_cat (own_cat (0 : Int64) x0) x1) x2) x3) x4) x5)), .second] [(.long (255 : Int64)), (.long (x6.toInt64)), (.long ((own_cat (own_cat (own_cat (own_cat (own_cat (own_cat (0 : Int64) x0) x1) x2) x3) x4) x5) <<< ((8 : Int32) &&& 0x3f).toInt64))]))
  refine own_st (fun t k => XS.land X0.here hx rfl (hb hby own_d2_110) rfl k) ?_
  show own_G _ _ _ _ _ _ _ (s₁.setTop (mkF m 111 #[.val (.ref b1), .val (.int o), .val (.long (own_cat (own_cat (own_cat (own_cat (own_cat (own_cat (0 : Int64) x0) x1) x2) x3) x4) x5)), .second] [(.long ((x6.toInt64) &&& (255 : Int64))), (.long ((own_cat (own_cat (own_cat (own_cat (own_cat (own_cat (0 : Int64) x0) x1) x2) x3) x4) x5) <<< ((8 : Int32) &&& 0x3f).toInt64))]))
  refine own_st (fun t k => XS.lor X0.here hx rfl (hb hby own_d2_111) rfl k) ?_
  show own_G _ _ _ _ _ _ _ (s₁.setTop (mkF m 112 #[.val (.ref b1), .val (.int o), .val (.long (own_cat (own_cat (own_cat (own_cat (own_cat (own_cat (0 : Int64) x0) x1) x2) x3) x4) x5)), .second] [(.long (((own_cat (own_cat (own_cat (own_cat (own_cat (own_cat (0 : Int64) x0) x1) x2) x3) x4) x5) <<< ((8 : Int32) &&& 0x3f).toInt64) ||| ((x6.toInt64) &&& (255 : Int64))))]))
  show own_G _ _ _ _ _ _ _ (s₁.setTop (mkF m 112 #[.val (.ref b1), .val (.int o), .val (.long (own_cat (own_cat (own_cat (own_cat (own_cat (own_cat (0 : Int64) x0) x1) x2) x3) x4) x5)), .second] [(.long (own_cat (own_cat (own_cat (own_cat (own_cat (own_cat (own_cat (0 : Int64) x0) x1) x2) x3) x4) x5) x6))]))
  refine own_st (fun t k => XS.lstoreN X0.here hx rfl (hb hby own_d2_112) rfl (l' := #[.val (.ref b1), .val (.int o), .val (.long (own_cat (own_cat (own_cat (own_cat (own_cat (own_cat (own_cat (0 : Int64) x0) x1) x2) x3) x4) x5) x6)), .second]) rfl k) ?_
  show own_G _ _ _ _ _ _ _ (s₁.setTop (mkF m 113 #[.val (.ref b1), .val (.int o), .val (.long (own_cat (own_cat (own_cat (own_cat (own_cat (own_cat (own_cat (0 : Int64) x0) x1) x2) x3) x4) x5) x6)), .second] []))
  refine own_st (fun t k => XS.lloadN X0.here hx rfl (hb hby own_d2_113) rfl k) ?_
  show own_G _ _ _ _ _ _ _ (s₁.setTop (mkF m 114 #[.val (.ref b1), .val (.int o), .val (.long (own_cat (own_cat (own_cat (own_cat (own_cat (own_cat (own_cat (0 : Int64) x0) x1) x2) x3) x4) x5) x6)), .second] [(.long (own_cat (own_cat (own_cat (own_cat (own_cat (own_cat (own_cat (0 : Int64) x0) x1) x2) x3) x4) x5) x6))]))
  refine own_st (fun t k => XS.bipush X0.here hx rfl (hb hby own_d2_114) k) ?_
  show own_G _ _ _ _ _ _ _ (s₁.setTop (mkF m 116 #[.val (.ref b1), .val (.int o), .val (.long (own_cat (own_cat (own_cat (own_cat (own_cat (own_cat (own_cat (0 : Int64) x0) x1) x2) x3) x4) x5) x6)), .second] [(.int (8 : Int32)), (.long (own_cat (own_cat (own_cat (own_cat (own_cat (own_cat (own_cat (0 : Int64) x0) x1) x2) x3) x4) x5) x6))]))
  refine own_st (fun t k => XS.lshl X0.here hx rfl (hb hby own_d2_116) rfl k) ?_
  show own_G _ _ _ _ _ _ _ (s₁.setTop (mkF m 117 #[.val (.ref b1), .val (.int o), .val (.long (own_cat (own_cat (own_cat (own_cat (own_cat (own_cat (own_cat (0 : Int64) x0) x1) x2) x3) x4) x5) x6)), .second] [(.long ((own_cat (own_cat (own_cat (own_cat (own_cat (own_cat (own_cat (0 : Int64) x0) x1) x2) x3) x4) x5) x6) <<< ((8 : Int32) &&& 0x3f).toInt64))]))
  refine own_st (fun t k => XS.aloadN X0.here hx rfl (hb hby own_d2_117) rfl rfl k) ?_
  show own_G _ _ _ _ _ _ _ (s₁.setTop (mkF m 118 #[.val (.ref b1), .val (.int o), .val (.long (own_cat (own_cat (own_cat (own_cat (own_cat (own_cat (own_cat (0 : Int64) x0) x1) x2) x3) x4) x5) x6)), .second] [(.ref b1), (.long ((own_cat (own_cat (own_cat (own_cat (own_cat (own_cat (own_cat (0 : Int64) x0) x1) x2) x3) x4) x5) x6) <<< ((8 : Int32) &&& 0x3f).toInt64))]))
  refine own_st (fun t k => XS.iloadN X0.here hx rfl (hb hby own_d2_118) rfl k) ?_
  show own_G _ _ _ _ _ _ _ (s₁.setTop (mkF m 119 #[.val (.ref b1), .val (.int o), .val (.long (own_cat (own_cat (own_cat (own_cat (own_cat (own_cat (own_cat (0 : Int64) x0) x1) x2) x3) x4) x5) x6)), .second] [(.int o), (.ref b1), (.long ((own_cat (own_cat (own_cat (own_cat (own_cat (own_cat (own_cat (0 : Int64) x0) x1) x2) x3) x4) x5) x6) <<< ((8 : Int32) &&& 0x3f).toInt64))]))
  refine own_st (fun t k => XS.bipush X0.here hx rfl (hb hby own_d2_119) k) ?_
  show own_G _ _ _ _ _ _ _ (s₁.setTop (mkF m 121 #[.val (.ref b1), .val (.int o), .val (.long (own_cat (own_cat (own_cat (own_cat (own_cat (own_cat (own_cat (0 : Int64) x0) x1) x2) x3) x4) x5) x6)), .second] [(.int (7 : Int32)), (.int o), (.ref b1), (.long ((own_cat (own_cat (own_cat (own_cat (own_cat (own_cat (own_cat (0 : Int64) x0) x1) x2) x3) x4) x5) x6) <<< ((8 : Int32) &&& 0x3f).toInt64))]))
  refine own_st (fun t k => XS.iadd X0.here hx rfl (hb hby own_d2_121) rfl k) ?_
  show own_G _ _ _ _ _ _ _ (s₁.setTop (mkF m 122 #[.val (.ref b1), .val (.int o), .val (.long (own_cat (own_cat (own_cat (own_cat (own_cat (own_cat (own_cat (0 : Int64) x0) x1) x2) x3) x4) x5) x6)), .second] [(.int (o + (7 : Int32))), (.ref b1), (.long ((own_cat (own_cat (own_cat (own_cat (own_cat (own_cat (own_cat (0 : Int64) x0) x1) x2) x3) x4) x5) x6) <<< ((8 : Int32) &&& 0x3f).toInt64))]))
  have pl7 := own_place o kk 7 7 ho (by decide) (by omega)
  have hin7 : ¬ ((o + (7 : Int32)) < 0 ∨ cl33.slots.size ≤ ((o + (7 : Int32))).toNatClampNeg) := inb_of S33 pl7.1
  have hat7 : cl33.slots[((o + (7 : Int32))).toNatClampNeg]? = some (.int x7) := Has.at H33 hin7 (by rw [pl7.2]; exact hx7)
  refine own_st (fun t k => X0.baloadBytes hx (j := (o + (7 : Int32))) (v := (.int x7)) (by rw [e0]; exact Ar33.1) (State.isArrayOf_alike hZ.alike Ar33.2.1) Ar33.2.2 hin7 hat7 (g := (mkF m 122 #[.val (.ref b1), .val (.int o), .val (.long (own_cat (own_cat (own_cat (own_cat (own_cat (own_cat (own_cat (0 : Int64) x0) x1) x2) x3) x4) x5) x6)), .second] [(.int (o + (7 : Int32))), (.ref b1), (.long ((own_cat (own_cat (own_cat (own_cat (own_cat (own_cat (own_cat (0 : Int64) x0) x1) x2) x3) x4) x5) x6) <<< ((8 : Int32) &&& 0x3f).toInt64))])) rfl rfl (hb hby own_d2_122) t k) ?_
  show own_G _ _ _ _ _ _ _ (s₁.setTop (mkF m 123 #[.val (.ref b1), .val (.int o), .val (.long (own_cat (own_cat (own_cat (own_cat (own_cat (own_cat (own_cat (0 : Int64) x0) x1) x2) x3) x4) x5) x6)), .second] [(.int x7), (.long ((own_cat (own_cat (own_cat (own_cat (own_cat (own_cat (own_cat (0 : Int64) x0) x1) x2) x3) x4) x5) x6) <<< ((8 : Int32) &&& 0x3f).toInt64))]))
  refine own_st (fun t k => XS.i2l X0.here hx rfl (hb hby own_d2_123) rfl k) ?_
  show own_G _ _ _ _ _ _ _ (s₁.setTop (mkF m 124 #[.val (.ref b1), .val (.int o), .val (.long (own_cat (own_cat (own_cat (own_cat (own_cat (own_cat (own_cat (0 : Int64) x0) x1) x2) x3) x4) x5) x6)), .second] [(.long (x7.toInt64)), (.long ((own_cat (own_cat (own_cat (own_cat (own_cat (own_cat (own_cat (0 : Int64) x0) x1) x2) x3) x4) x5) x6) <<< ((8 : Int32) &&& 0x3f).toInt64))]))
  refine own_st (fun t k => X0.ldc2Long hx hown (mvT hZ (hw _ (List.mem_of_getElem? (i := 37) rfl))) (g := (mkF m 124 #[.val (.ref b1), .val (.int o), .val (.long (own_cat (own_cat (own_cat (own_cat (own_cat (own_cat (own_cat (0 : Int64) x0) x1) x2) x3) x4) x5) x6)), .second] [(.long (x7.toInt64)), (.long ((own_cat (own_cat (own_cat (own_cat (own_cat (own_cat (own_cat (0 : Int64) x0) x1) x2) x3) x4) x5) x6) <<< ((8 : Int32) &&& 0x3f).toInt64))])) rfl (hb hby own_d2_124) t k) ?_
  show own_G _ _ _ _ _ _ _ (s₁.setTop (mkF m 127 #[.val (.ref b1), .val (.int o), .val (.long (own_cat (own_cat (own_cat (own_cat (own_cat (own_cat (own_cat (0 : Int64) x0) x1) x2) x3) x4) x5) x6)), .second] [(.long (255 : Int64)), (.long (x7.toInt64)), (.long ((own_cat (own_cat (own_cat (own_cat (own_cat (own_cat (own_cat (0 : Int64) x0) x1) x2) x3) x4) x5) x6) <<< ((8 : Int32) &&& 0x3f).toInt64))]))
  refine own_st (fun t k => XS.land X0.here hx rfl (hb hby own_d2_127) rfl k) ?_
  show own_G _ _ _ _ _ _ _ (s₁.setTop (mkF m 128 #[.val (.ref b1), .val (.int o), .val (.long (own_cat (own_cat (own_cat (own_cat (own_cat (own_cat (own_cat (0 : Int64) x0) x1) x2) x3) x4) x5) x6)), .second] [(.long ((x7.toInt64) &&& (255 : Int64))), (.long ((own_cat (own_cat (own_cat (own_cat (own_cat (own_cat (own_cat (0 : Int64) x0) x1) x2) x3) x4) x5) x6) <<< ((8 : Int32) &&& 0x3f).toInt64))]))
  refine own_st (fun t k => XS.lor X0.here hx rfl (hb hby own_d2_128) rfl k) ?_
  show own_G _ _ _ _ _ _ _ (s₁.setTop (mkF m 129 #[.val (.ref b1), .val (.int o), .val (.long (own_cat (own_cat (own_cat (own_cat (own_cat (own_cat (own_cat (0 : Int64) x0) x1) x2) x3) x4) x5) x6)), .second] [(.long (((own_cat (own_cat (own_cat (own_cat (own_cat (own_cat (own_cat (0 : Int64) x0) x1) x2) x3) x4) x5) x6) <<< ((8 : Int32) &&& 0x3f).toInt64) ||| ((x7.toInt64) &&& (255 : Int64))))]))
  show own_G _ _ _ _ _ _ _ (s₁.setTop (mkF m 129 #[.val (.ref b1), .val (.int o), .val (.long (own_cat (own_cat (own_cat (own_cat (own_cat (own_cat (own_cat (0 : Int64) x0) x1) x2) x3) x4) x5) x6)), .second] [(.long (own_cat (own_cat (own_cat (own_cat (own_cat (own_cat (own_cat (own_cat (0 : Int64) x0) x1) x2) x3) x4) x5) x6) x7))]))
  refine own_st (fun t k => XS.lstoreN X0.here hx rfl (hb hby own_d2_129) rfl (l' := #[.val (.ref b1), .val (.int o), .val (.long (own_cat (own_cat (own_cat (own_cat (own_cat (own_cat (own_cat (own_cat (0 : Int64) x0) x1) x2) x3) x4) x5) x6) x7)), .second]) rfl k) ?_
  show own_G _ _ _ _ _ _ _ (s₁.setTop (mkF m 130 #[.val (.ref b1), .val (.int o), .val (.long (own_cat (own_cat (own_cat (own_cat (own_cat (own_cat (own_cat (own_cat (0 : Int64) x0) x1) x2) x3) x4) x5) x6) x7)), .second] []))
  refine own_st (fun t k => XS.lloadN X0.here hx rfl (hb hby own_d2_130) rfl k) ?_
  show own_G _ _ _ _ _ _ _ (s₁.setTop (mkF m 131 #[.val (.ref b1), .val (.int o), .val (.long (own_cat (own_cat (own_cat (own_cat (own_cat (own_cat (own_cat (own_cat (0 : Int64) x0) x1) x2) x3) x4) x5) x6) x7)), .second] [(.long (own_cat (own_cat (own_cat (own_cat (own_cat (own_cat (own_cat (own_cat (0 : Int64) x0) x1) x2) x3) x4) x5) x6) x7))]))
  exact own_retJ X0 hx Bd.returns (BodyLoose.notSynchronized Bd) (hb hby own_d2_131) (by decide) (by decide) ⟨rfl, N0, e0⟩
def own_Q3 (Z : State) (a1 b1 : Addr) (h0 : Heap) (n0 : Nat) (v : Option Value) (h : Heap) (L : List Loc) : Prop := v = none ∧ Fr n0 L ∧ Keep h0 h [a1] ∧ Exa Z h a1 "com/example/tessera/tessera/tokenhash/TokenHash" ∧ Fld Z h a1 "com/example/tessera/tessera/tokenhash/TokenHash" "value" "[B" (.ref b1)
theorem own_pn1 : plainName "com/example/tessera/tessera/tokenhash/TokenHash" = true := by first | (simp [plainName, overriddenIn]; done) | decide +kernel
theorem own_d3_0 : decode prog_8_method_1_code 0 = .ok (.aload_n 0, 1) := by decide +kernel
theorem own_d3_1 : decode prog_8_method_1_code 1 = .ok (.invokespecial 1, 3) := by decide +kernel
theorem own_d3_4 : decode prog_8_method_1_code 4 = .ok (.aload_n 0, 1) := by decide +kernel
theorem own_d3_5 : decode prog_8_method_1_code 5 = .ok (.aload_n 1, 1) := by decide +kernel
theorem own_d3_6 : decode prog_8_method_1_code 6 = .ok (.putfield 7, 3) := by decide +kernel
theorem own_d3_9 : decode prog_8_method_1_code 9 = .ok (.return_, 1) := by decide +kernel
theorem own_ef3 (m : MethodId) (a1 : Addr) (b1 : Addr) : entryFrame m #[(.ref a1), (.ref b1)] 2 = mkF m 0 #[.val (.ref a1), .val (.ref b1)] [] := by first | (simp [entryFrame, mkF, argsToLocals, Value.category]; done) | rfl
set_option maxRecDepth 65536 in
set_option maxHeartbeats 40000000 in
theorem own_rm3 (l : Launch) (Z : State) (a0 : Array Value) (hw : ∀ d ∈ tables_1, d.before a0 Z = true) (ws : List Jvm.Cond) (a1 b1 : Addr) (h0 : Heap) (n0 : Nat) (Z0 : n0 ≤ h0.size) (E1 : Exa Z h0 a1 "com/example/tessera/tessera/tokenhash/TokenHash") (F1 : Fld Z h0 a1 "com/example/tessera/tessera/tokenhash/TokenHash" "value" "[B" .null) (g1 : n0 ≤ a1) :
    MetFree l (⟨"com/example/tessera/tessera/tokenhash/TokenHash", "<init>", "([B)V"⟩ : MethodName) (head1 (Jvm.Cond.code (⟨"com/example/tessera/tessera/tokenhash/TokenHash", "<init>", "([B)V"⟩ : MethodName) prog_8_method_1_code 2 none :: ws) ({ frames := 1, cells := 0, slots := 0, locals := 12 } : Room)) (fun a U => a = #[(.ref a1), (.ref b1)] ∧ Z.Warmed39 U.vm ∧ U.heap = h0) (fun _ _ _ _ _ => True) (fun _ U o U' => ∃ v L, o = .returned v ∧ own_Q3 Z a1 b1 h0 n0 v U'.heap L ∧ FrameEnd U o U' L ({ frames := 1, cells := 0, slots := 0, locals := 12 } : Room).cells ({ frames := 1, cells := 0, slots := 0, locals := 12 } : Room).slots) := by
  refine MetFree.of_bodySF (plainFor_of_name own_pn1) hisR ?_
  intro p e s m args below meth c s₁ Bd hml0 hP hK
  obtain ⟨rfl, hZ, hh⟩ := hP
  have hx := Bd.exec
  have hby := Bd.bytes
  have hml : c.maxLocals = 2 := hml0
  have hown : s.vm.findClass "com/example/tessera/tessera/tokenhash/TokenHash" = some m.cls := findClass_of_methodNamed Bd.named
  have hnm := (name_of_methodNamed Bd.named Bd.method).1
  have X0 : Stand p l e ({ frames := 1, cells := 0, slots := 0, locals := 12 } : Room) s m #[(.ref a1), (.ref b1)] below meth c s₁ [] 0 0 := Stand.of_body Bd
  have e0 : s₁.heap = h0 := by rw [← hh, Bd.state]; rfl
  have N0 := Fr.nil n0
  refine own_in (Q := own_Q3 Z a1 b1 h0 n0) ?_
  rw [own_ef3]
  show own_G _ _ _ _ _ _ _ (s₁.setTop (mkF m 0 #[.val (.ref a1), .val (.ref b1)] []))
  refine own_st (fun t k => XS.aloadN X0.here hx rfl (hb hby own_d3_0) rfl rfl k) ?_
  show own_G _ _ _ _ _ _ _ (s₁.setTop (mkF m 1 #[.val (.ref a1), .val (.ref b1)] [(.ref a1)]))
  obtain ⟨T34, X34, e34, st34⟩ := initO X0 hx hZ hown (hw _ (List.mem_of_getElem? (i := 23) rfl)) (hw _ (List.mem_of_getElem? (i := 24) rfl)) (hw _ (List.mem_of_getElem? (i := 25) rfl)) e0 (g := (mkF m 1 #[.val (.ref a1), .val (.ref b1)] [(.ref a1)])) rfl (by rw [hml]; rfl) rfl (hb hby own_d3_1) (by decide) (W := 0) (by show 2 * 0 + _ ≤ _; exact Nat.le_of_eq rfl) (by decide)
  refine own_st (fun t k => st34 t k) ?_
  show own_G _ _ _ _ _ _ _ (T34.setTop (mkF m 4 #[.val (.ref a1), .val (.ref b1)] []))
  refine own_st (fun t k => XS.aloadN X34.here hx rfl (hb hby own_d3_4) rfl rfl k) ?_
  show own_G _ _ _ _ _ _ _ (T34.setTop (mkF m 5 #[.val (.ref a1), .val (.ref b1)] [(.ref a1)]))
  refine own_st (fun t k => XS.aloadN X34.here hx rfl (hb hby own_d3_5) rfl rfl k) ?_
  show own_G _ _ _ _ _ _ _ (T34.setTop (mkF m 6 #[.val (.ref a1), .val (.ref b1)] [(.ref b1), (.ref a1)]))
  obtain ⟨T35, h35, X35, e35, W35, st35⟩ := putF X34 hx hZ hown (host := "") (Or.inl (hw _ (List.mem_of_getElem? (i := 26) rfl))) Via.refl e34 F1 E1 (Or.inr ⟨(hw _ (List.mem_of_getElem? (i := 27) rfl)), rfl, hnm⟩) (hw _ (List.mem_of_getElem? (i := 10) rfl)) (ty := (.array .byte)) (by decide) rfl rfl (g := (mkF m 6 #[.val (.ref a1), .val (.ref b1)] [(.ref b1), (.ref a1)])) rfl rfl (hb hby own_d3_6)
  have N35 := Fr.snoc X35 N0 g1
  refine own_st (fun t k => st35 t k) ?_
  show own_G _ _ _ _ _ _ _ (T35.setTop (mkF m 9 #[.val (.ref a1), .val (.ref b1)] []))
  have E_36 := E1.wr W35
  have f_37 := F1.same W35
  have Zz38 : n0 ≤ h35.size := Nat.le_trans Z0 (Keep.of_wr W35).1
  have Kk39 := (Keep.refl h0 [a1]).wr W35 (Or.inl (List.mem_of_getElem? (i := 0) rfl))
  subst e35
  exact own_retV X35 hx Bd.returns (BodyLoose.notSynchronized Bd) (hb hby own_d3_9) (by decide) (by decide) ⟨rfl, N35, Kk39, E_36, f_37⟩
def own_Q4 (Z : State) (kc : ClassId) (vs : List Value) (h0 : Heap) (n0 : Nat) (v : Option Value) (h : Heap) (L : List Loc) : Prop := ∃ a2 t2 : Addr, v = some (.ref a2) ∧ Fr n0 L ∧ Keep h0 h [] ∧ Exa Z h a2 "com/example/tessera/tessera/tokenhash/TokenHash" ∧ Fld Z h a2 "com/example/tessera/tessera/tokenhash/TokenHash" "value" "[B" (.ref t2) ∧ Arv Z h t2 kc .byte 33 vs (.int 0) ∧ Exa Z h t2 "[B" ∧ h0.size ≤ t2 ∧ h0.size ≤ a2
theorem own_d4_0 : decode prog_8_method_5_code 0 = .ok (.aload_n 0, 1) := by decide +kernel
theorem own_d4_1 : decode prog_8_method_5_code 1 = .ok (.arraylength, 1) := by decide +kernel
theorem own_d4_2 : decode prog_8_method_5_code 2 = .ok (.bipush 33, 2) := by decide +kernel
theorem own_d4_4 : decode prog_8_method_5_code 4 = .ok (.if_icmp .ne 10, 3) := by decide +kernel
theorem own_d4_7 : decode prog_8_method_5_code 7 = .ok (.aload_n 0, 1) := by decide +kernel
theorem own_d4_8 : decode prog_8_method_5_code 8 = .ok (.iconst 0, 1) := by decide +kernel
theorem own_d4_9 : decode prog_8_method_5_code 9 = .ok (.baload, 1) := by decide +kernel
theorem own_d4_10 : decode prog_8_method_5_code 10 = .ok (.iconst 1, 1) := by decide +kernel
theorem own_d4_11 : decode prog_8_method_5_code 11 = .ok (.if_icmp .eq 13, 3) := by decide +kernel
theorem own_d4_14 : decode prog_8_method_5_code 14 = .ok (.new 33, 3) := by decide +kernel
theorem own_d4_17 : decode prog_8_method_5_code 17 = .ok (.dup, 1) := by decide +kernel
theorem own_d4_18 : decode prog_8_method_5_code 18 = .ok (.ldc 96, 2) := by decide +kernel
theorem own_d4_20 : decode prog_8_method_5_code 20 = .ok (.invokespecial 37, 3) := by decide +kernel
theorem own_d4_23 : decode prog_8_method_5_code 23 = .ok (.athrow, 1) := by decide +kernel
theorem own_d4_24 : decode prog_8_method_5_code 24 = .ok (.new 8, 3) := by decide +kernel
theorem own_d4_27 : decode prog_8_method_5_code 27 = .ok (.dup, 1) := by decide +kernel
theorem own_d4_28 : decode prog_8_method_5_code 28 = .ok (.aload_n 0, 1) := by decide +kernel
theorem own_d4_29 : decode prog_8_method_5_code 29 = .ok (.invokevirtual 98, 3) := by decide +kernel
theorem own_d4_32 : decode prog_8_method_5_code 32 = .ok (.checkcast 99, 3) := by decide +kernel
theorem own_d4_35 : decode prog_8_method_5_code 35 = .ok (.invokespecial 66, 3) := by decide +kernel
theorem own_d4_38 : decode prog_8_method_5_code 38 = .ok (.areturn, 1) := by decide +kernel
theorem own_ef4 (m : MethodId) (b1 : Addr) : entryFrame m #[(.ref b1)] 1 = mkF m 0 #[.val (.ref b1)] [] := by first | (simp [entryFrame, mkF, argsToLocals, Value.category]; done) | rfl
set_option maxRecDepth 65536 in
set_option maxHeartbeats 40000000 in
theorem own_rm4 (l : Launch) (Z : State) (a0 : Array Value) (hw : ∀ d ∈ tables_1, d.before a0 Z = true) (ws : List Jvm.Cond) (b1 : Addr) (kc : ClassId) (vs : List Value) (h0 : Heap) (n0 : Nat) (Z0 : n0 ≤ h0.size) (Vb : Arv Z h0 b1 kc .byte 33 vs (.int 0)) (Eb : Exa Z h0 b1 "[B") (hv0 : vs.getD 0 (.int 0) = .int 1) :
    MetFree l (⟨"com/example/tessera/tessera/tokenhash/TokenHash", "fromBytes", "([B)Lcom/example/tessera/tessera/tokenhash/TokenHash;"⟩ : MethodName) (head1 (Jvm.Cond.code (⟨"com/example/tessera/tessera/tokenhash/TokenHash", "fromBytes", "([B)Lcom/example/tessera/tessera/tokenhash/TokenHash;"⟩ : MethodName) prog_8_method_5_code 1 (some (.object "com/example/tessera/tessera/tokenhash/TokenHash")) :: ws) ({ frames := 2, cells := 2, slots := 34, locals := 26 } : Room)) (fun a U => a = #[(.ref b1)] ∧ Z.Warmed39 U.vm ∧ U.heap = h0) (fun _ _ _ _ _ => True) (fun _ U o U' => ∃ v L, o = .returned v ∧ own_Q4 Z kc vs h0 n0 v U'.heap L ∧ FrameEnd U o U' L ({ frames := 2, cells := 2, slots := 34, locals := 26 } : Room).cells ({ frames := 2, cells := 2, slots := 34, locals := 26 } : Room).slots) := by
  refine MetFree.of_bodySF (plainFor_of_name own_pn1) hisR ?_
  intro p e s m args below meth c s₁ Bd hml0 hP hK
  obtain ⟨rfl, hZ, hh⟩ := hP
  have hx := Bd.exec
  have hby := Bd.bytes
  have hml : c.maxLocals = 1 := hml0
  have hown : s.vm.findClass "com/example/tessera/tessera/tokenhash/TokenHash" = some m.cls := findClass_of_methodNamed Bd.named
  have hnm := (name_of_methodNamed Bd.named Bd.method).1
  have X0 : Stand p l e ({ frames := 2, cells := 2, slots := 34, locals := 26 } : Room) s m #[(.ref b1)] below meth c s₁ [] 0 0 := Stand.of_body Bd
  have e0 : s₁.heap = h0 := by rw [← hh, Bd.state]; rfl
  have N0 := Fr.nil n0
  refine own_in (Q := own_Q4 Z kc vs h0 n0) ?_
  rw [own_ef4]
  show own_G _ _ _ _ _ _ _ (s₁.setTop (mkF m 0 #[.val (.ref b1)] []))
  refine own_st (fun t k => XS.aloadN X0.here hx rfl (hb hby own_d4_0) rfl rfl k) ?_
  show own_G _ _ _ _ _ _ _ (s₁.setTop (mkF m 1 #[.val (.ref b1)] [(.ref b1)]))
  obtain ⟨cl40, Ar40, q40, S40, M40, H40, G40⟩ := Vb
  refine own_st (fun t k => X0.arraylength hx (by rw [e0]; exact Ar40.1) (State.isArrayOf_alike hZ.alike Ar40.2.1) (g := (mkF m 1 #[.val (.ref b1)] [(.ref b1)])) rfl rfl (hb hby own_d4_1) t k) ?_
  rw [len_of S40 M40]
  show own_G _ _ _ _ _ _ _ (s₁.setTop (mkF m 2 #[.val (.ref b1)] [(.int 33)]))
  refine own_st (fun t k => XS.bipush X0.here hx rfl (hb hby own_d4_2) k) ?_
  show own_G _ _ _ _ _ _ _ (s₁.setTop (mkF m 4 #[.val (.ref b1)] [(.int (33 : Int32)), (.int (33 : Int32))]))
  refine own_st (fun t k => XS.icmpNo X0.here hx rfl (hb hby own_d4_4) rfl (teq rfl).2 k) ?_
  show own_G _ _ _ _ _ _ _ (s₁.setTop (mkF m 7 #[.val (.ref b1)] []))
  refine own_st (fun t k => XS.aloadN X0.here hx rfl (hb hby own_d4_7) rfl rfl k) ?_
  show own_G _ _ _ _ _ _ _ (s₁.setTop (mkF m 8 #[.val (.ref b1)] [(.ref b1)]))
  refine own_st (fun t k => XS.iconst X0.here hx rfl (hb hby own_d4_8) k) ?_
  show own_G _ _ _ _ _ _ _ (s₁.setTop (mkF m 9 #[.val (.ref b1)] [(.int (0 : Int32)), (.ref b1)]))
  have hin : ¬ ((0 : Int32) < 0 ∨ cl40.slots.size ≤ (0 : Int32).toNatClampNeg) := inb_of S40 ⟨by decide, by decide⟩
  have hat : cl40.slots[(0 : Int32).toNatClampNeg]? = some (.int 1) := Has.at H40 hin hv0
  have Vb : Arv Z h0 b1 kc .byte 33 vs (.int 0) := ⟨cl40, Ar40, q40, S40, M40, H40, G40⟩
  refine own_st (fun t k => X0.baloadBytes hx (j := (0 : Int32)) (v := (.int (1 : Int32))) (by rw [e0]; exact Ar40.1) (State.isArrayOf_alike hZ.alike Ar40.2.1) Ar40.2.2 hin hat (g := (mkF m 9 #[.val (.ref b1)] [(.int (0 : Int32)), (.ref b1)])) rfl rfl (hb hby own_d4_9) t k) ?_
  show own_G _ _ _ _ _ _ _ (s₁.setTop (mkF m 10 #[.val (.ref b1)] [(.int (1 : Int32))]))
  refine own_st (fun t k => XS.iconst X0.here hx rfl (hb hby own_d4_10) k) ?_
  show own_G _ _ _ _ _ _ _ (s₁.setTop (mkF m 11 #[.val (.ref b1)] [(.int (1 : Int32)), (.int (1 : Int32))]))
  refine own_st (fun t k => XS.icmpYes X0.here hx rfl (pc0 := 11) (pc' := 24) rfl (hb hby own_d4_11) rfl (teq rfl).1 (by decide) (by decide) k) ?_
  show own_G _ _ _ _ _ _ _ (s₁.setTop (mkF m 24 #[.val (.ref b1)] []))
  obtain ⟨T41, h41, X41, e41, E41, A41, D41, -, st41⟩ := newO X0 hx hZ hown (hw _ (List.mem_of_getElem? (i := 9) rfl)) (hw _ (List.mem_of_getElem? (i := 10) rfl)) (hw _ (List.mem_of_getElem? (i := 7) rfl)) e0 (g := (mkF m 24 #[.val (.ref b1)] [])) rfl (hb hby own_d4_24) (by decide) (by decide)
  obtain ⟨a2, g41⟩ : ∃ z, z = h0.size := ⟨_, rfl⟩
  rw [← g41] at A41 D41 st41
  refine own_st (fun t k => st41 t k) ?_
  show own_G _ _ _ _ _ _ _ (T41.setTop (mkF m 27 #[.val (.ref b1)] [(.ref a2)]))
  have ge_a2 : n0 ≤ a2 := Nat.le_trans Z0 (Nat.le_of_eq g41.symm)
  have sz_a2 : h0.size ≤ a2 := Nat.le_trans (Keep.refl h0 []).1 (Nat.le_of_eq g41.symm)
  have ne_b1_a2 : b1 ≠ a2 := Nat.ne_of_lt (Nat.lt_of_lt_of_le Vb.lt (Nat.le_of_eq g41.symm))
  have V_42 := Vb.ext E41
  have EB_43 := Eb.ext E41
  have Zz44 : n0 ≤ h41.size := Nat.le_trans Z0 E41.1
  have Kk45 := (Keep.refl h0 []).ext E41
  have F2 : Fld Z h41 a2 "com/example/tessera/tessera/tokenhash/TokenHash" "value" "[B" .null := D41 (Or.inr (hw _ (List.mem_of_getElem? (i := 27) rfl))) (ty := .array .byte) (by decide)
  refine own_st (fun t k => XS.dup X41.here hx rfl (hb hby own_d4_27) rfl rfl k) ?_
  show own_G _ _ _ _ _ _ _ (T41.setTop (mkF m 28 #[.val (.ref b1)] [(.ref a2), (.ref a2)]))
  refine own_st (fun t k => XS.aloadN X41.here hx rfl (hb hby own_d4_28) rfl rfl k) ?_
  show own_G _ _ _ _ _ _ _ (T41.setTop (mkF m 29 #[.val (.ref b1)] [(.ref b1), (.ref a2), (.ref a2)]))
  obtain ⟨T46, h46, X46, e46, E46, V46, Z46, st46⟩ := cloneH X41 hx hZ hown (hw _ (List.mem_of_getElem? (i := 11) rfl)) (hw _ (List.mem_of_getElem? (i := 12) rfl)) (hw _ (List.mem_of_getElem? (i := 16) rfl)) (hw _ (List.mem_of_getElem? (i := 14) rfl)) (hw _ (List.mem_of_getElem? (i := 15) rfl)) (hw _ (List.mem_of_getElem? (i := 17) rfl)) e41 (V_42).arh EB_43 (g := (mkF m 29 #[.val (.ref b1)] [(.ref b1), (.ref a2), (.ref a2)])) rfl (by rw [hml]; rfl) rfl (hb hby own_d4_29) (by decide) (W := 2) (cap := 33) (by show 2 * 0 + _ ≤ _; exact Nat.le_of_eq rfl) (by decide) (by decide) (by decide) (by decide)
  obtain ⟨t2, g46⟩ : ∃ z, z = h41.size := ⟨_, rfl⟩
  rw [← g46] at V46 Z46 st46
  refine own_st (fun t k => st46 t k) ?_
  show own_G _ _ _ _ _ _ _ (T46.setTop (mkF m 32 #[.val (.ref b1)] [(.ref t2), (.ref a2), (.ref a2)]))
  have ge_t2 : n0 ≤ t2 := Nat.le_trans Zz44 (Nat.le_of_eq g46.symm)
  have sz_t2 : h0.size ≤ t2 := Nat.le_trans Kk45.1 (Nat.le_of_eq g46.symm)
  have ne_b1_t2 : b1 ≠ t2 := Nat.ne_of_lt (Nat.lt_of_lt_of_le V_42.lt (Nat.le_of_eq g46.symm))
  have ne_a2_t2 : a2 ≠ t2 := Nat.ne_of_lt (Nat.lt_of_lt_of_le A41.lt (Nat.le_of_eq g46.symm))
  have V_47 := V_42.ext E46
  have EB_48 := EB_43.ext E46
  have E_49 := A41.ext E46
  have f_50 := F2.ext E46
  have Zz51 : n0 ≤ h46.size := Nat.le_trans Zz44 E46.1
  have Kk52 := Kk45.ext E46
  have Vt : Arv Z h46 t2 kc .byte 33 vs (.int 0) := V46
  obtain ⟨T53, X53, e53, st53⟩ := castY X46 hx hZ hown (hw _ (List.mem_of_getElem? (i := 18) rfl)) e46 (Ins.self Z46) (g := (mkF m 32 #[.val (.ref b1)] [(.ref t2), (.ref a2), (.ref a2)])) rfl rfl (hb hby own_d4_32)
  refine own_st (fun t k => st53 t k) ?_
  show own_G _ _ _ _ _ _ _ (T53.setTop (mkF m 35 #[.val (.ref b1)] [(.ref t2), (.ref a2), (.ref a2)]))
  obtain ⟨_, _, ⟨T54, L54, k54, n54⟩, -, X54, ⟨Lc54, hQ54, l54, y54, z54⟩, st54⟩ := X53.specialBack hx (y := (⟨"com/example/tessera/tessera/tokenhash/TokenHash", "<init>", "([B)V"⟩ : MethodName)) rfl hown (mvT hZ (hw _ (List.mem_of_getElem? (i := 20) rfl))) (mvT hZ (hw _ (List.mem_of_getElem? (i := 21) rfl))) (mvT hZ (hw _ (List.mem_of_getElem? (i := 22) rfl))) (by decide) (backOf (W := 1) (own_rm3 l Z a0 hw [] a2 t2 h46 n0 Zz51 E_49 f_50 ge_a2) hZ (hw _ (List.mem_of_getElem? (i := 22) rfl)) (hw _ (List.mem_of_getElem? (i := 7) rfl)) (by decide) (by decide)) (g := (mkF m 35 #[.val (.ref b1)] [(.ref t2), (.ref a2), (.ref a2)])) rfl (by rw [hml]; rfl) (Steps.refl _) (a := a2) (argsL := [(.ref t2)]) (rest := [(.ref a2)]) (lenOf own_pd3 rfl) rfl (by show 2 * 0 + _ ≤ _; exact Nat.le_of_eq rfl) (hb hby own_d4_35) (fun _ _ => ⟨rfl, e53, (by decide : 2 + 0 ≤ _), (by decide : 34 + 0 ≤ _)⟩)
  dsimp only [Pt.U, Pt.locs, Pt.cells, Pt.slots] at X54 l54 y54 z54 st54 hQ54
  subst l54 y54 z54
  obtain ⟨rfl, N54q, K54, Ax54, Fx54⟩ := hQ54
  have N54 := Fr.app N0 N54q
  refine own_st (fun t k => st54.trans k) ?_
  show own_G _ _ _ _ _ _ _ (T54.setTop (mkF m 38 #[.val (.ref b1)] [(.ref a2)]))
  have E_55 := E_49.keep K54
  have VT_56 := Vt.keep K54 (ninS (Ne.symm ne_a2_t2) nin0)
  have ET_57 := Z46.keep K54
  have Zz58 : n0 ≤ _ := Nat.le_trans Zz51 K54.1
  have Kk59 := Kk52.trans K54 (allS (Or.inr sz_a2) all0)
  exact own_retA (ft := (.object "com/example/tessera/tessera/tokenhash/TokenHash")) (w := (.ref a2)) rfl rfl X54 hx Bd.returns (BodyLoose.notSynchronized Bd) (hb hby own_d4_38) (by decide) (by decide) ⟨a2, t2, rfl, N54, Kk59, Ax54, Fx54, VT_56, ET_57, sz_t2, sz_a2⟩
def own_Q5 (Z : State) (kc : ClassId) (vs : List Value) (h0 : Heap) (n0 : Nat) (v : Option Value) (h : Heap) (L : List Loc) : Prop := ∃ t2 : Addr, v = some (.ref t2) ∧ Fr n0 L ∧ Keep h0 h [] ∧ Arv Z h t2 kc .byte 33 vs (.int 0)
theorem own_d5_0 : decode prog_8_method_6_code 0 = .ok (.aload_n 0, 1) := by decide +kernel
theorem own_d5_1 : decode prog_8_method_6_code 1 = .ok (.getfield 7, 3) := by decide +kernel
theorem own_d5_4 : decode prog_8_method_6_code 4 = .ok (.invokevirtual 98, 3) := by decide +kernel
theorem own_d5_7 : decode prog_8_method_6_code 7 = .ok (.checkcast 99, 3) := by decide +kernel
theorem own_d5_10 : decode prog_8_method_6_code 10 = .ok (.areturn, 1) := by decide +kernel
theorem own_ef5 (m : MethodId) (a1 : Addr) : entryFrame m #[(.ref a1)] 1 = mkF m 0 #[.val (.ref a1)] [] := by first | (simp [entryFrame, mkF, argsToLocals, Value.category]; done) | rfl
set_option maxRecDepth 65536 in
set_option maxHeartbeats 40000000 in
theorem own_rm5 (l : Launch) (Z : State) (a0 : Array Value) (hw : ∀ d ∈ tables_1, d.before a0 Z = true) (ws : List Jvm.Cond) (a1 t1 : Addr) (kc : ClassId) (vs : List Value) (h0 : Heap) (n0 : Nat) (Z0 : n0 ≤ h0.size) (F1 : Fld Z h0 a1 "com/example/tessera/tessera/tokenhash/TokenHash" "value" "[B" (.ref t1)) (Vb : Arv Z h0 t1 kc .byte 33 vs (.int 0)) (Eb : Exa Z h0 t1 "[B") :
    MetFree l (⟨"com/example/tessera/tessera/tokenhash/TokenHash", "bytes", "()[B"⟩ : MethodName) (head1 (Jvm.Cond.code (⟨"com/example/tessera/tessera/tokenhash/TokenHash", "bytes", "()[B"⟩ : MethodName) prog_8_method_6_code 1 (some (.array .byte)) :: ws) ({ frames := 1, cells := 1, slots := 33, locals := 14 } : Room)) (fun a U => a = #[(.ref a1)] ∧ Z.Warmed39 U.vm ∧ U.heap = h0) (fun _ _ _ _ _ => True) (fun _ U o U' => ∃ v L, o = .returned v ∧ own_Q5 Z kc vs h0 n0 v U'.heap L ∧ FrameEnd U o U' L ({ frames := 1, cells := 1, slots := 33, locals := 14 } : Room).cells ({ frames := 1, cells := 1, slots := 33, locals := 14 } : Room).slots) := by
  refine MetFree.of_bodySF (plainFor_of_name own_pn1) hisR ?_
  intro p e s m args below meth c s₁ Bd hml0 hP hK
  obtain ⟨rfl, hZ, hh⟩ := hP
  have hx := Bd.exec
  have hby := Bd.bytes
  have hml : c.maxLocals = 1 := hml0
  have hown : s.vm.findClass "com/example/tessera/tessera/tokenhash/TokenHash" = some m.cls := findClass_of_methodNamed Bd.named
  have hnm := (name_of_methodNamed Bd.named Bd.method).1
  have X0 : Stand p l e ({ frames := 1, cells := 1, slots := 33, locals := 14 } : Room) s m #[(.ref a1)] below meth c s₁ [] 0 0 := Stand.of_body Bd
  have e0 : s₁.heap = h0 := by rw [← hh, Bd.state]; rfl
  have N0 := Fr.nil n0
  refine own_in (Q := own_Q5 Z kc vs h0 n0) ?_
  rw [own_ef5]
  show own_G _ _ _ _ _ _ _ (s₁.setTop (mkF m 0 #[.val (.ref a1)] []))
  refine own_st (fun t k => XS.aloadN X0.here hx rfl (hb hby own_d5_0) rfl rfl k) ?_
  show own_G _ _ _ _ _ _ _ (s₁.setTop (mkF m 1 #[.val (.ref a1)] [(.ref a1)]))
  obtain ⟨T60, X60, e60, st60⟩ := getF X0 hx hZ hown (host := "") (Or.inl (hw _ (List.mem_of_getElem? (i := 26) rfl))) Via.refl e0 F1 (g := (mkF m 1 #[.val (.ref a1)] [(.ref a1)])) rfl rfl (hb hby own_d5_1)
  refine own_st (fun t k => st60 t k) ?_
  show own_G _ _ _ _ _ _ _ (T60.setTop (mkF m 4 #[.val (.ref a1)] [(.ref t1)]))
  obtain ⟨T61, h61, X61, e61, E61, V61, Z61, st61⟩ := cloneH X60 hx hZ hown (hw _ (List.mem_of_getElem? (i := 11) rfl)) (hw _ (List.mem_of_getElem? (i := 12) rfl)) (hw _ (List.mem_of_getElem? (i := 16) rfl)) (hw _ (List.mem_of_getElem? (i := 14) rfl)) (hw _ (List.mem_of_getElem? (i := 15) rfl)) (hw _ (List.mem_of_getElem? (i := 17) rfl)) e60 (Vb).arh Eb (g := (mkF m 4 #[.val (.ref a1)] [(.ref t1)])) rfl (by rw [hml]; rfl) rfl (hb hby own_d5_4) (by decide) (W := 0) (cap := 33) (by show 2 * 0 + _ ≤ _; exact Nat.le_of_eq rfl) (by decide) (by decide) (by decide) (by decide)
  obtain ⟨t2, g61⟩ : ∃ z, z = h0.size := ⟨_, rfl⟩
  rw [← g61] at V61 Z61 st61
  refine own_st (fun t k => st61 t k) ?_
  show own_G _ _ _ _ _ _ _ (T61.setTop (mkF m 7 #[.val (.ref a1)] [(.ref t2)]))
  have Vt : Arv Z h61 t2 kc .byte 33 vs (.int 0) := V61
  obtain ⟨T62, X62, e62, st62⟩ := castY X61 hx hZ hown (hw _ (List.mem_of_getElem? (i := 18) rfl)) e61 (Ins.self Z61) (g := (mkF m 7 #[.val (.ref a1)] [(.ref t2)])) rfl rfl (hb hby own_d5_7)
  refine own_st (fun t k => st62 t k) ?_
  show own_G _ _ _ _ _ _ _ (T62.setTop (mkF m 10 #[.val (.ref a1)] [(.ref t2)]))
  have Kz : Keep h0 h61 [] := (Keep.refl h0 []).ext E61
  subst e62
  exact own_retA (ft := (.array .byte)) (w := (.ref t2)) rfl rfl X62 hx Bd.returns (BodyLoose.notSynchronized Bd) (hb hby own_d5_10) (by decide) (by decide) ⟨t2, rfl, N0, Kz, Vt⟩
theorem own_ef0 (m : MethodId) (q1 : Int64) (q2 : Int64) (q3 : Int64) (q4 : Int64) (p5 : Int32) : entryFrame m #[(.long q1), (.long q2), (.long q3), (.long q4), (.int p5)] maxLocals = mkF m 0 #[.val (.long q1), .second, .val (.long q2), .second, .val (.long q3), .second, .val (.long q4), .second, .val (.int p5), .unset, .unset, .unset, .unset, .unset] [] := by first | (simp [entryFrame, mkF, argsToLocals, Value.category, maxLocals]; done) | rfl
set_option maxRecDepth 65536 in
set_option maxHeartbeats 40000000 in
theorem own_rm0 (l : Launch) (Z : State) (a0 : Array Value) (hw : ∀ d ∈ tables_1, d.before a0 Z = true) (ws : List Jvm.Cond) (q1 q2 q3 q4 : Int64) (p5 : Int32) (h0 : Heap) (n0 : Nat) (Z0 : n0 ≤ h0.size)  :
    MetFree l x (head1 (Jvm.Cond.code x code maxLocals ret :: ws) room_1) (fun a U => a = #[(.long q1), (.long q2), (.long q3), (.long q4), (.int p5)] ∧ Z.Warmed39 U.vm ∧ U.heap = h0) (fun _ _ _ _ _ => True) (fun _ U o U' => ∃ v L, o = .returned v ∧ own_Q0 n0 v U'.heap L ∧ FrameEnd U o U' L room_1.cells room_1.slots) := by
  refine MetFree.of_bodySF (plainFor_of_name own_pn0) hisR ?_
  intro p e s m args below meth c s₁ Bd hml0 hP hK
  obtain ⟨rfl, hZ, hh⟩ := hP
  have hx := Bd.exec
  have hby := Bd.bytes
  have hml : c.maxLocals = 14 := hml0
  have hown : s.vm.findClass "com/example/tessera/tessera/tokenhash/TokenHashFromBytesPinLaw" = some m.cls := findClass_of_methodNamed Bd.named
  have hnm := (name_of_methodNamed Bd.named Bd.method).1
  have X0 : Stand p l e room_1 s m #[(.long q1), (.long q2), (.long q3), (.long q4), (.int p5)] below meth c s₁ [] 0 0 := Stand.of_body Bd
  have e0 : s₁.heap = h0 := by rw [← hh, Bd.state]; rfl
  have N0 := Fr.nil n0
  refine own_in (Q := own_Q0 n0) ?_
  rw [own_ef0]
  show own_G _ _ _ _ _ _ _ (s₁.setTop (mkF m 0 #[.val (.long q1), .second, .val (.long q2), .second, .val (.long q3), .second, .val (.long q4), .second, .val (.int p5), .unset, .unset, .unset, .unset, .unset] []))
  refine own_st (fun t k => XS.bipush X0.here hx rfl (hb hby at_0) k) ?_
  show own_G _ _ _ _ _ _ _ (s₁.setTop (mkF m 2 #[.val (.long q1), .second, .val (.long q2), .second, .val (.long q3), .second, .val (.long q4), .second, .val (.int p5), .unset, .unset, .unset, .unset, .unset] [(.int (33 : Int32))]))
  obtain ⟨T63, h63, k63, X63, e63, E63, A63, Z63, st63⟩ := newPE X0 hx hZ (hw _ (List.mem_of_getElem? (i := 0) rfl)) e0 (g := (mkF m 2 #[.val (.long q1), .second, .val (.long q2), .second, .val (.long q3), .second, .val (.long q4), .second, .val (.int p5), .unset, .unset, .unset, .unset, .unset] [(.int (33 : Int32))])) rfl (hb hby at_2) rfl (by decide) (cap := 33) (by decide) (by decide) (by decide) (by decide) (ad := "[B") (by decide)
  obtain ⟨b1, g63⟩ : ∃ z, z = h0.size := ⟨_, rfl⟩
  rw [← g63] at A63 Z63 st63
  refine own_st (fun t k => st63 t k) ?_
  show own_G _ _ _ _ _ _ _ (T63.setTop (mkF m 4 #[.val (.long q1), .second, .val (.long q2), .second, .val (.long q3), .second, .val (.long q4), .second, .val (.int p5), .unset, .unset, .unset, .unset, .unset] [(.ref b1)]))
  have ge_b1 : n0 ≤ b1 := Nat.le_trans Z0 (Nat.le_of_eq g63.symm)
  have Zz64 : n0 ≤ h63.size := Nat.le_trans Z0 E63.1
  have V_0 : Arv Z h63 b1 k63 .byte 33 [(.int 0), (.int 0), (.int 0), (.int 0), (.int 0), (.int 0), (.int 0), (.int 0), (.int 0), (.int 0), (.int 0), (.int 0), (.int 0), (.int 0), (.int 0), (.int 0), (.int 0), (.int 0), (.int 0), (.int 0), (.int 0), (.int 0), (.int 0), (.int 0), (.int 0), (.int 0), (.int 0), (.int 0), (.int 0), (.int 0), (.int 0), (.int 0), (.int 0)] (.int 0) := (Arv.new A63 (by decide)).pad (pad_rep [] (.int 0) 33)
  refine own_st (fun t k => XS.astore X63.here hx rfl (hb hby at_4) rfl rfl (l' := #[.val (.long q1), .second, .val (.long q2), .second, .val (.long q3), .second, .val (.long q4), .second, .val (.int p5), .val (.ref b1), .unset, .unset, .unset, .unset]) rfl k) ?_
  show own_G _ _ _ _ _ _ _ (T63.setTop (mkF m 6 #[.val (.long q1), .second, .val (.long q2), .second, .val (.long q3), .second, .val (.long q4), .second, .val (.int p5), .val (.ref b1), .unset, .unset, .unset, .unset] []))
  refine own_st (fun t k => XS.aload X63.here hx rfl (hb hby at_6) rfl rfl k) ?_
  show own_G _ _ _ _ _ _ _ (T63.setTop (mkF m 8 #[.val (.long q1), .second, .val (.long q2), .second, .val (.long q3), .second, .val (.long q4), .second, .val (.int p5), .val (.ref b1), .unset, .unset, .unset, .unset] [(.ref b1)]))
  refine own_st (fun t k => XS.iconst X63.here hx rfl (hb hby at_8) k) ?_
  show own_G _ _ _ _ _ _ _ (T63.setTop (mkF m 9 #[.val (.long q1), .second, .val (.long q2), .second, .val (.long q3), .second, .val (.long q4), .second, .val (.int p5), .val (.ref b1), .unset, .unset, .unset, .unset] [(.int (0 : Int32)), (.ref b1)]))
  refine own_st (fun t k => XS.iconst X63.here hx rfl (hb hby at_9) k) ?_
  show own_G _ _ _ _ _ _ _ (T63.setTop (mkF m 10 #[.val (.long q1), .second, .val (.long q2), .second, .val (.long q3), .second, .val (.long q4), .second, .val (.int p5), .val (.ref b1), .unset, .unset, .unset, .unset] [(.int (1 : Int32)), (.int (0 : Int32)), (.ref b1)]))
  obtain ⟨cl65, Ar65, q65, S65, M65, H65, G65⟩ := V_0
  have hin65 : ¬ ((0 : Int32) < 0 ∨ cl65.slots.size ≤ ((0 : Int32)).toNatClampNeg) := inb_of S65 ⟨by decide, by decide⟩
  obtain ⟨T66, h66, X66, e66, W66, st66⟩ := Jvm.RoadKit.stB X63 hx hZ e63 Ar65 (j := (0 : Int32)) hin65 (g := (mkF m 10 #[.val (.long q1), .second, .val (.long q2), .second, .val (.long q3), .second, .val (.long q4), .second, .val (.int p5), .val (.ref b1), .unset, .unset, .unset, .unset] [(.int (1 : Int32)), (.int (0 : Int32)), (.ref b1)])) rfl rfl (hb hby at_10)
  have N66 := Fr.snoc X66 N0 ge_b1
  refine own_st (fun t k => st66 t k) ?_
  show own_G _ _ _ _ _ _ _ (T66.setTop (mkF m 11 #[.val (.long q1), .second, .val (.long q2), .second, .val (.long q3), .second, .val (.long q4), .second, .val (.int p5), .val (.ref b1), .unset, .unset, .unset, .unset] []))
  have V_66 : Arv Z h66 b1 k63 .byte 33 [(.int (nar .byte (1 : Int32))), (.int 0), (.int 0), (.int 0), (.int 0), (.int 0), (.int 0), (.int 0), (.int 0), (.int 0), (.int 0), (.int 0), (.int 0), (.int 0), (.int 0), (.int 0), (.int 0), (.int 0), (.int 0), (.int 0), (.int 0), (.int 0), (.int 0), (.int 0), (.int 0), (.int 0), (.int 0), (.int 0), (.int 0), (.int 0), (.int 0), (.int 0), (.int 0)] (.int 0) := Arv.set Ar65 q65 S65 M65 H65 G65 (fits_nar_byte _) W66 0 rfl (Nat.le_of_ble_eq_true rfl)
  have EB_67 := Z63.wr W66
  have Zz68 : n0 ≤ h66.size := Nat.le_trans Zz64 (Keep.of_wr W66).1
  obtain ⟨vs0, hvs0⟩ : ∃ z : List Value, z = [(.int (nar .byte (1 : Int32))), (.int 0), (.int 0), (.int 0), (.int 0), (.int 0), (.int 0), (.int 0), (.int 0), (.int 0), (.int 0), (.int 0), (.int 0), (.int 0), (.int 0), (.int 0), (.int 0), (.int 0), (.int 0), (.int 0), (.int 0), (.int 0), (.int 0), (.int 0), (.int 0), (.int 0), (.int 0), (.int 0), (.int 0), (.int 0), (.int 0), (.int 0), (.int 0)] := ⟨_, rfl⟩
  have hl0 : vs0.length = 33 := by rw [hvs0]; rfl
  have V0 := V_66
  rw [← hvs0] at V0
  refine own_st (fun t k => XS.aload X66.here hx rfl (hb hby at_11) rfl rfl k) ?_
  show own_G _ _ _ _ _ _ _ (T66.setTop (mkF m 13 #[.val (.long q1), .second, .val (.long q2), .second, .val (.long q3), .second, .val (.long q4), .second, .val (.int p5), .val (.ref b1), .unset, .unset, .unset, .unset] [(.ref b1)]))
  refine own_st (fun t k => XS.iconst X66.here hx rfl (hb hby at_13) k) ?_
  show own_G _ _ _ _ _ _ _ (T66.setTop (mkF m 14 #[.val (.long q1), .second, .val (.long q2), .second, .val (.long q3), .second, .val (.long q4), .second, .val (.int p5), .val (.ref b1), .unset, .unset, .unset, .unset] [(.int (1 : Int32)), (.ref b1)]))
  refine own_st (fun t k => XS.lloadN X66.here hx rfl (hb hby at_14) rfl k) ?_
  show own_G _ _ _ _ _ _ _ (T66.setTop (mkF m 15 #[.val (.long q1), .second, .val (.long q2), .second, .val (.long q3), .second, .val (.long q4), .second, .val (.int p5), .val (.ref b1), .unset, .unset, .unset, .unset] [(.long q1), (.int (1 : Int32)), (.ref b1)]))
  obtain ⟨_, _, ⟨T69, L69, k69, n69⟩, -, X69, ⟨Lc69, hQ69, l69, y69, z69⟩, st69⟩ := Jvm.LawKit.callS X66 hx (y := (⟨"com/example/tessera/tessera/tokenhash/TokenHashFromBytesPinLaw", "put", "([BIJ)V"⟩ : MethodName)) hown (mvT hZ (hw _ (List.mem_of_getElem? (i := 1) rfl))) (mvT hZ (hw _ (List.mem_of_getElem? (i := 2) rfl))) (mvT hZ (hw _ (List.mem_of_getElem? (i := 3) rfl))) (mvT hZ (hw _ (List.mem_of_getElem? (i := 4) rfl))) (by decide) (backOf (W := 0) (own_rm1 l Z a0 hw [] b1 (1 : Int32) q1 1 k63 vs0 h66 n0 Zz68 V0 hl0 (by decide) (by decide) ge_b1) hZ (hw _ (List.mem_of_getElem? (i := 4) rfl)) (hw _ (List.mem_of_getElem? (i := 3) rfl)) (by decide) (by decide)) (g := (mkF m 15 #[.val (.long q1), .second, .val (.long q2), .second, .val (.long q3), .second, .val (.long q4), .second, .val (.int p5), .val (.ref b1), .unset, .unset, .unset, .unset] [(.long q1), (.int (1 : Int32)), (.ref b1)])) rfl (by rw [hml]; rfl) (argsL := [(.ref b1), (.int (1 : Int32)), (.long q1)]) (rest := []) (lenOf own_pd0 rfl) rfl (by show 2 * 0 + _ ≤ _; exact Nat.le_of_eq rfl) (hb hby at_15) (fun _ _ => ⟨rfl, e66, (by decide : 1 + 0 ≤ _), (by decide : 33 + 0 ≤ _)⟩)
  dsimp only [Pt.U, Pt.locs, Pt.cells, Pt.slots] at X69 l69 y69 z69 st69 hQ69
  subst l69 y69 z69
  obtain ⟨rfl, N69q, K69, Vp69⟩ := hQ69
  have N69 := Fr.app N66 N69q
  refine own_st (fun t k => st69 t k) ?_
  show own_G _ _ _ _ _ _ _ (T69.setTop (mkF m 18 #[.val (.long q1), .second, .val (.long q2), .second, .val (.long q3), .second, .val (.long q4), .second, .val (.int p5), .val (.ref b1), .unset, .unset, .unset, .unset] []))
  have EB_70 := EB_67.keep K69
  have Zz71 : n0 ≤ _ := Nat.le_trans Zz68 K69.1
  have hl1 : (own_setl vs0 1 q1).length = 33 := by rw [own_setl_len]; exact hl0
  refine own_st (fun t k => XS.aload X69.here hx rfl (hb hby at_18) rfl rfl k) ?_
  show own_G _ _ _ _ _ _ _ (T69.setTop (mkF m 20 #[.val (.long q1), .second, .val (.long q2), .second, .val (.long q3), .second, .val (.long q4), .second, .val (.int p5), .val (.ref b1), .unset, .unset, .unset, .unset] [(.ref b1)]))
  refine own_st (fun t k => XS.bipush X69.here hx rfl (hb hby at_20) k) ?_
  show own_G _ _ _ _ _ _ _ (T69.setTop (mkF m 22 #[.val (.long q1), .second, .val (.long q2), .second, .val (.long q3), .second, .val (.long q4), .second, .val (.int p5), .val (.ref b1), .unset, .unset, .unset, .unset] [(.int (9 : Int32)), (.ref b1)]))
  refine own_st (fun t k => XS.lloadN X69.here hx rfl (hb hby at_22) rfl k) ?_
  show own_G _ _ _ _ _ _ _ (T69.setTop (mkF m 23 #[.val (.long q1), .second, .val (.long q2), .second, .val (.long q3), .second, .val (.long q4), .second, .val (.int p5), .val (.ref b1), .unset, .unset, .unset, .unset] [(.long q2), (.int (9 : Int32)), (.ref b1)]))
  obtain ⟨_, _, ⟨T72, L72, k72, n72⟩, -, X72, ⟨Lc72, hQ72, l72, y72, z72⟩, st72⟩ := Jvm.LawKit.callS X69 hx (y := (⟨"com/example/tessera/tessera/tokenhash/TokenHashFromBytesPinLaw", "put", "([BIJ)V"⟩ : MethodName)) hown (mvT hZ (hw _ (List.mem_of_getElem? (i := 1) rfl))) (mvT hZ (hw _ (List.mem_of_getElem? (i := 2) rfl))) (mvT hZ (hw _ (List.mem_of_getElem? (i := 3) rfl))) (mvT hZ (hw _ (List.mem_of_getElem? (i := 4) rfl))) (by decide) (backOf (W := 0) (own_rm1 l Z a0 hw [] b1 (9 : Int32) q2 9 k63 (own_setl vs0 1 q1) T69.heap n0 Zz71 Vp69 hl1 (by decide) (by decide) ge_b1) hZ (hw _ (List.mem_of_getElem? (i := 4) rfl)) (hw _ (List.mem_of_getElem? (i := 3) rfl)) (by decide) (by decide)) (g := (mkF m 23 #[.val (.long q1), .second, .val (.long q2), .second, .val (.long q3), .second, .val (.long q4), .second, .val (.int p5), .val (.ref b1), .unset, .unset, .unset, .unset] [(.long q2), (.int (9 : Int32)), (.ref b1)])) rfl (by rw [hml]; rfl) (argsL := [(.ref b1), (.int (9 : Int32)), (.long q2)]) (rest := []) (lenOf own_pd0 rfl) rfl (by show 2 * 0 + _ ≤ _; exact Nat.le_of_eq rfl) (hb hby at_23) (fun _ _ => ⟨rfl, rfl, (by decide : 1 + 0 ≤ _), (by decide : 33 + 0 ≤ _)⟩)
  dsimp only [Pt.U, Pt.locs, Pt.cells, Pt.slots] at X72 l72 y72 z72 st72 hQ72
  subst l72 y72 z72
  obtain ⟨rfl, N72q, K72, Vp72⟩ := hQ72
  have N72 := Fr.app N69 N72q
  refine own_st (fun t k => st72 t k) ?_
  show own_G _ _ _ _ _ _ _ (T72.setTop (mkF m 26 #[.val (.long q1), .second, .val (.long q2), .second, .val (.long q3), .second, .val (.long q4), .second, .val (.int p5), .val (.ref b1), .unset, .unset, .unset, .unset] []))
  have EB_73 := EB_70.keep K72
  have Zz74 : n0 ≤ _ := Nat.le_trans Zz71 K72.1
  have hl2 : (own_setl (own_setl vs0 1 q1) 9 q2).length = 33 := by rw [own_setl_len]; exact hl1
  refine own_st (fun t k => XS.aload X72.here hx rfl (hb hby at_26) rfl rfl k) ?_
  show own_G _ _ _ _ _ _ _ (T72.setTop (mkF m 28 #[.val (.long q1), .second, .val (.long q2), .second, .val (.long q3), .second, .val (.long q4), .second, .val (.int p5), .val (.ref b1), .unset, .unset, .unset, .unset] [(.ref b1)]))
  refine own_st (fun t k => XS.bipush X72.here hx rfl (hb hby at_28) k) ?_
  show own_G _ _ _ _ _ _ _ (T72.setTop (mkF m 30 #[.val (.long q1), .second, .val (.long q2), .second, .val (.long q3), .second, .val (.long q4), .second, .val (.int p5), .val (.ref b1), .unset, .unset, .unset, .unset] [(.int (17 : Int32)), (.ref b1)]))
  refine own_st (fun t k => XS.lload X72.here hx rfl (hb hby at_30) rfl k) ?_
  show own_G _ _ _ _ _ _ _ (T72.setTop (mkF m 32 #[.val (.long q1), .second, .val (.long q2), .second, .val (.long q3), .second, .val (.long q4), .second, .val (.int p5), .val (.ref b1), .unset, .unset, .unset, .unset] [(.long q3), (.int (17 : Int32)), (.ref b1)]))
  obtain ⟨_, _, ⟨T75, L75, k75, n75⟩, -, X75, ⟨Lc75, hQ75, l75, y75, z75⟩, st75⟩ := Jvm.LawKit.callS X72 hx (y := (⟨"com/example/tessera/tessera/tokenhash/TokenHashFromBytesPinLaw", "put", "([BIJ)V"⟩ : MethodName)) hown (mvT hZ (hw _ (List.mem_of_getElem? (i := 1) rfl))) (mvT hZ (hw _ (List.mem_of_getElem? (i := 2) rfl))) (mvT hZ (hw _ (List.mem_of_getElem? (i := 3) rfl))) (mvT hZ (hw _ (List.mem_of_getElem? (i := 4) rfl))) (by decide) (backOf (W := 0) (own_rm1 l Z a0 hw [] b1 (17 : Int32) q3 17 k63 (own_setl (own_setl vs0 1 q1) 9 q2) T72.heap n0 Zz74 Vp72 hl2 (by decide) (by decide) ge_b1) hZ (hw _ (List.mem_of_getElem? (i := 4) rfl)) (hw _ (List.mem_of_getElem? (i := 3) rfl)) (by decide) (by decide)) (g := (mkF m 32 #[.val (.long q1), .second, .val (.long q2), .second, .val (.long q3), .second, .val (.long q4), .second, .val (.int p5), .val (.ref b1), .unset, .unset, .unset, .unset] [(.long q3), (.int (17 : Int32)), (.ref b1)])) rfl (by rw [hml]; rfl) (argsL := [(.ref b1), (.int (17 : Int32)), (.long q3)]) (rest := []) (lenOf own_pd0 rfl) rfl (by show 2 * 0 + _ ≤ _; exact Nat.le_of_eq rfl) (hb hby at_32) (fun _ _ => ⟨rfl, rfl, (by decide : 1 + 0 ≤ _), (by decide : 33 + 0 ≤ _)⟩)
  dsimp only [Pt.U, Pt.locs, Pt.cells, Pt.slots] at X75 l75 y75 z75 st75 hQ75
  subst l75 y75 z75
  obtain ⟨rfl, N75q, K75, Vp75⟩ := hQ75
  have N75 := Fr.app N72 N75q
  refine own_st (fun t k => st75 t k) ?_
  show own_G _ _ _ _ _ _ _ (T75.setTop (mkF m 35 #[.val (.long q1), .second, .val (.long q2), .second, .val (.long q3), .second, .val (.long q4), .second, .val (.int p5), .val (.ref b1), .unset, .unset, .unset, .unset] []))
  have EB_76 := EB_73.keep K75
  have Zz77 : n0 ≤ _ := Nat.le_trans Zz74 K75.1
  have hl3 : (own_setl (own_setl (own_setl vs0 1 q1) 9 q2) 17 q3).length = 33 := by rw [own_setl_len]; exact hl2
  refine own_st (fun t k => XS.aload X75.here hx rfl (hb hby at_35) rfl rfl k) ?_
  show own_G _ _ _ _ _ _ _ (T75.setTop (mkF m 37 #[.val (.long q1), .second, .val (.long q2), .second, .val (.long q3), .second, .val (.long q4), .second, .val (.int p5), .val (.ref b1), .unset, .unset, .unset, .unset] [(.ref b1)]))
  refine own_st (fun t k => XS.bipush X75.here hx rfl (hb hby at_37) k) ?_
  show own_G _ _ _ _ _ _ _ (T75.setTop (mkF m 39 #[.val (.long q1), .second, .val (.long q2), .second, .val (.long q3), .second, .val (.long q4), .second, .val (.int p5), .val (.ref b1), .unset, .unset, .unset, .unset] [(.int (25 : Int32)), (.ref b1)]))
  refine own_st (fun t k => XS.lload X75.here hx rfl (hb hby at_39) rfl k) ?_
  show own_G _ _ _ _ _ _ _ (T75.setTop (mkF m 41 #[.val (.long q1), .second, .val (.long q2), .second, .val (.long q3), .second, .val (.long q4), .second, .val (.int p5), .val (.ref b1), .unset, .unset, .unset, .unset] [(.long q4), (.int (25 : Int32)), (.ref b1)]))
  obtain ⟨_, _, ⟨T78, L78, k78, n78⟩, -, X78, ⟨Lc78, hQ78, l78, y78, z78⟩, st78⟩ := Jvm.LawKit.callS X75 hx (y := (⟨"com/example/tessera/tessera/tokenhash/TokenHashFromBytesPinLaw", "put", "([BIJ)V"⟩ : MethodName)) hown (mvT hZ (hw _ (List.mem_of_getElem? (i := 1) rfl))) (mvT hZ (hw _ (List.mem_of_getElem? (i := 2) rfl))) (mvT hZ (hw _ (List.mem_of_getElem? (i := 3) rfl))) (mvT hZ (hw _ (List.mem_of_getElem? (i := 4) rfl))) (by decide) (backOf (W := 0) (own_rm1 l Z a0 hw [] b1 (25 : Int32) q4 25 k63 (own_setl (own_setl (own_setl vs0 1 q1) 9 q2) 17 q3) T75.heap n0 Zz77 Vp75 hl3 (by decide) (by decide) ge_b1) hZ (hw _ (List.mem_of_getElem? (i := 4) rfl)) (hw _ (List.mem_of_getElem? (i := 3) rfl)) (by decide) (by decide)) (g := (mkF m 41 #[.val (.long q1), .second, .val (.long q2), .second, .val (.long q3), .second, .val (.long q4), .second, .val (.int p5), .val (.ref b1), .unset, .unset, .unset, .unset] [(.long q4), (.int (25 : Int32)), (.ref b1)])) rfl (by rw [hml]; rfl) (argsL := [(.ref b1), (.int (25 : Int32)), (.long q4)]) (rest := []) (lenOf own_pd0 rfl) rfl (by show 2 * 0 + _ ≤ _; exact Nat.le_of_eq rfl) (hb hby at_41) (fun _ _ => ⟨rfl, rfl, (by decide : 1 + 0 ≤ _), (by decide : 33 + 0 ≤ _)⟩)
  dsimp only [Pt.U, Pt.locs, Pt.cells, Pt.slots] at X78 l78 y78 z78 st78 hQ78
  subst l78 y78 z78
  obtain ⟨rfl, N78q, K78, Vp78⟩ := hQ78
  have N78 := Fr.app N75 N78q
  refine own_st (fun t k => st78 t k) ?_
  show own_G _ _ _ _ _ _ _ (T78.setTop (mkF m 44 #[.val (.long q1), .second, .val (.long q2), .second, .val (.long q3), .second, .val (.long q4), .second, .val (.int p5), .val (.ref b1), .unset, .unset, .unset, .unset] []))
  have EB_79 := EB_76.keep K78
  have Zz80 : n0 ≤ _ := Nat.le_trans Zz77 K78.1
  have hl4 : (own_setl (own_setl (own_setl (own_setl vs0 1 q1) 9 q2) 17 q3) 25 q4).length = 33 := by rw [own_setl_len]; exact hl3
  have hv0 : (own_setl (own_setl (own_setl (own_setl vs0 1 q1) 9 q2) 17 q3) 25 q4).getD 0 (.int 0) = .int 1 := by rw [own_miss _ _ _ _ _ (by omega), own_miss _ _ _ _ _ (by omega), own_miss _ _ _ _ _ (by omega), own_miss _ _ _ _ _ (by omega), hvs0]; exact congrArg Value.int own_n1
  refine own_st (fun t k => XS.aload X78.here hx rfl (hb hby at_44) rfl rfl k) ?_
  show own_G _ _ _ _ _ _ _ (T78.setTop (mkF m 46 #[.val (.long q1), .second, .val (.long q2), .second, .val (.long q3), .second, .val (.long q4), .second, .val (.int p5), .val (.ref b1), .unset, .unset, .unset, .unset] [(.ref b1)]))
  have ltb := Vp78.lt
  obtain ⟨_, _, ⟨T81, L81, k81, n81⟩, -, X81, ⟨Lc81, hQ81, l81, y81, z81⟩, st81⟩ := Jvm.LawKit.callS X78 hx (y := (⟨"com/example/tessera/tessera/tokenhash/TokenHash", "fromBytes", "([B)Lcom/example/tessera/tessera/tokenhash/TokenHash;"⟩ : MethodName)) hown (mvT hZ (hw _ (List.mem_of_getElem? (i := 5) rfl))) (mvT hZ (hw _ (List.mem_of_getElem? (i := 6) rfl))) (mvT hZ (hw _ (List.mem_of_getElem? (i := 7) rfl))) (mvT hZ (hw _ (List.mem_of_getElem? (i := 8) rfl))) (by decide) (backOf (W := 0) (own_rm4 l Z a0 hw [] b1 k63 (own_setl (own_setl (own_setl (own_setl vs0 1 q1) 9 q2) 17 q3) 25 q4) T78.heap n0 Zz80 Vp78 EB_79 hv0) hZ (hw _ (List.mem_of_getElem? (i := 8) rfl)) (hw _ (List.mem_of_getElem? (i := 7) rfl)) (by decide) (by decide)) (g := (mkF m 46 #[.val (.long q1), .second, .val (.long q2), .second, .val (.long q3), .second, .val (.long q4), .second, .val (.int p5), .val (.ref b1), .unset, .unset, .unset, .unset] [(.ref b1)])) rfl (by rw [hml]; rfl) (argsL := [(.ref b1)]) (rest := []) (lenOf own_pd2 rfl) rfl (by show 2 * 0 + _ ≤ _; exact Nat.le_of_eq rfl) (hb hby at_46) (fun _ _ => ⟨rfl, rfl, (by decide : 1 + 2 ≤ _), (by decide : 33 + 34 ≤ _)⟩)
  dsimp only [Pt.U, Pt.locs, Pt.cells, Pt.slots] at X81 l81 y81 z81 st81 hQ81
  subst l81 y81 z81
  obtain ⟨a2, t2, rfl, N81q, K81, Ea81, Fa81, Vt81, Et81, sa81, sb81⟩ := hQ81
  have N81 := Fr.app N78 N81q
  refine own_st (fun t k => st81 t k) ?_
  show own_G _ _ _ _ _ _ _ (T81.setTop (mkF m 49 #[.val (.long q1), .second, .val (.long q2), .second, .val (.long q3), .second, .val (.long q4), .second, .val (.int p5), .val (.ref b1), .unset, .unset, .unset, .unset] [(.ref a2)]))
  have EB_82 := EB_79.keep K81
  have V_83 := Vp78.keep K81 nin0
  have Zz84 : n0 ≤ _ := Nat.le_trans Zz80 K81.1
  have ne_b1_t2 : b1 ≠ t2 := Nat.ne_of_lt (Nat.lt_of_lt_of_le ltb sa81)
  have ne_b1_a2 : b1 ≠ a2 := Nat.ne_of_lt (Nat.lt_of_lt_of_le ltb sb81)
  refine own_st (fun t k => XS.astore X81.here hx rfl (hb hby at_49) rfl rfl (l' := #[.val (.long q1), .second, .val (.long q2), .second, .val (.long q3), .second, .val (.long q4), .second, .val (.int p5), .val (.ref b1), .val (.ref a2), .unset, .unset, .unset]) rfl k) ?_
  show own_G _ _ _ _ _ _ _ (T81.setTop (mkF m 51 #[.val (.long q1), .second, .val (.long q2), .second, .val (.long q3), .second, .val (.long q4), .second, .val (.int p5), .val (.ref b1), .val (.ref a2), .unset, .unset, .unset] []))
  refine own_st (fun t k => XS.iload X81.here hx rfl (hb hby at_51) rfl k) ?_
  show own_G _ _ _ _ _ _ _ (T81.setTop (mkF m 53 #[.val (.long q1), .second, .val (.long q2), .second, .val (.long q3), .second, .val (.long q4), .second, .val (.int p5), .val (.ref b1), .val (.ref a2), .unset, .unset, .unset] [(.int p5)]))
  refine own_st (fun t k => X81.ldcInt hx hown (mvT hZ (hw _ (List.mem_of_getElem? (i := 28) rfl))) (g := (mkF m 53 #[.val (.long q1), .second, .val (.long q2), .second, .val (.long q3), .second, .val (.long q4), .second, .val (.int p5), .val (.ref b1), .val (.ref a2), .unset, .unset, .unset] [(.int p5)])) rfl (hb hby at_53) t k) ?_
  show own_G _ _ _ _ _ _ _ (T81.setTop (mkF m 55 #[.val (.long q1), .second, .val (.long q2), .second, .val (.long q3), .second, .val (.long q4), .second, .val (.int p5), .val (.ref b1), .val (.ref a2), .unset, .unset, .unset] [(.int (2147483647 : Int32)), (.int p5)]))
  refine own_st (fun t k => XS.iand X81.here hx rfl (hb hby at_55) rfl k) ?_
  show own_G _ _ _ _ _ _ _ (T81.setTop (mkF m 56 #[.val (.long q1), .second, .val (.long q2), .second, .val (.long q3), .second, .val (.long q4), .second, .val (.int p5), .val (.ref b1), .val (.ref a2), .unset, .unset, .unset] [(.int (p5 &&& (2147483647 : Int32)))]))
  refine own_st (fun t k => XS.bipush X81.here hx rfl (hb hby at_56) k) ?_
  show own_G _ _ _ _ _ _ _ (T81.setTop (mkF m 58 #[.val (.long q1), .second, .val (.long q2), .second, .val (.long q3), .second, .val (.long q4), .second, .val (.int p5), .val (.ref b1), .val (.ref a2), .unset, .unset, .unset] [(.int (33 : Int32)), (.int (p5 &&& (2147483647 : Int32)))]))
  refine own_st (fun t k => iremM X81 hx rfl (hb hby at_58) rfl (by decide) k) ?_
  show own_G _ _ _ _ _ _ _ (T81.setTop (mkF m 59 #[.val (.long q1), .second, .val (.long q2), .second, .val (.long q3), .second, .val (.long q4), .second, .val (.int p5), .val (.ref b1), .val (.ref a2), .unset, .unset, .unset] [(.int ((p5 &&& (2147483647 : Int32)) % (33 : Int32)))]))
  have hp := own_p p5
  generalize ((p5 &&& (2147483647 : Int32)) % (33 : Int32)) = pp at hp ⊢
  show own_G _ _ _ _ _ _ _ (T81.setTop (mkF m 59 #[.val (.long q1), .second, .val (.long q2), .second, .val (.long q3), .second, .val (.long q4), .second, .val (.int p5), .val (.ref b1), .val (.ref a2), .unset, .unset, .unset] [(.int pp)]))
  refine own_st (fun t k => XS.istore X81.here hx rfl (hb hby at_59) rfl (l' := #[.val (.long q1), .second, .val (.long q2), .second, .val (.long q3), .second, .val (.long q4), .second, .val (.int p5), .val (.ref b1), .val (.ref a2), .val (.int pp), .unset, .unset]) rfl k) ?_
  show own_G _ _ _ _ _ _ _ (T81.setTop (mkF m 61 #[.val (.long q1), .second, .val (.long q2), .second, .val (.long q3), .second, .val (.long q4), .second, .val (.int p5), .val (.ref b1), .val (.ref a2), .val (.int pp), .unset, .unset] []))
  refine own_st (fun t k => XS.iload X81.here hx rfl (hb hby at_61) rfl k) ?_
  show own_G _ _ _ _ _ _ _ (T81.setTop (mkF m 63 #[.val (.long q1), .second, .val (.long q2), .second, .val (.long q3), .second, .val (.long q4), .second, .val (.int p5), .val (.ref b1), .val (.ref a2), .val (.int pp), .unset, .unset] [(.int p5)]))
  refine own_st (fun t k => XS.bipush X81.here hx rfl (hb hby at_63) k) ?_
  show own_G _ _ _ _ _ _ _ (T81.setTop (mkF m 65 #[.val (.long q1), .second, .val (.long q2), .second, .val (.long q3), .second, .val (.long q4), .second, .val (.int p5), .val (.ref b1), .val (.ref a2), .val (.int pp), .unset, .unset] [(.int (8 : Int32)), (.int p5)]))
  refine own_st (fun t k => XS.iushr X81.here hx rfl (hb hby at_65) rfl k) ?_
  show own_G _ _ _ _ _ _ _ (T81.setTop (mkF m 66 #[.val (.long q1), .second, .val (.long q2), .second, .val (.long q3), .second, .val (.long q4), .second, .val (.int p5), .val (.ref b1), .val (.ref a2), .val (.int pp), .unset, .unset] [(.int ((p5.toUInt32 >>> ((8 : Int32) &&& 31).toUInt32).toInt32))]))
  refine own_st (fun t k => XS.sipush X81.here hx rfl (hb hby at_66) k) ?_
  show own_G _ _ _ _ _ _ _ (T81.setTop (mkF m 69 #[.val (.long q1), .second, .val (.long q2), .second, .val (.long q3), .second, .val (.long q4), .second, .val (.int p5), .val (.ref b1), .val (.ref a2), .val (.int pp), .unset, .unset] [(.int (255 : Int32)), (.int ((p5.toUInt32 >>> ((8 : Int32) &&& 31).toUInt32).toInt32))]))
  refine own_st (fun t k => XS.iand X81.here hx rfl (hb hby at_69) rfl k) ?_
  show own_G _ _ _ _ _ _ _ (T81.setTop (mkF m 70 #[.val (.long q1), .second, .val (.long q2), .second, .val (.long q3), .second, .val (.long q4), .second, .val (.int p5), .val (.ref b1), .val (.ref a2), .val (.int pp), .unset, .unset] [(.int (((p5.toUInt32 >>> ((8 : Int32) &&& 31).toUInt32).toInt32) &&& (255 : Int32)))]))
  refine own_st (fun t k => XS.iconst X81.here hx rfl (hb hby at_70) k) ?_
  show own_G _ _ _ _ _ _ _ (T81.setTop (mkF m 71 #[.val (.long q1), .second, .val (.long q2), .second, .val (.long q3), .second, .val (.long q4), .second, .val (.int p5), .val (.ref b1), .val (.ref a2), .val (.int pp), .unset, .unset] [(.int (1 : Int32)), (.int (((p5.toUInt32 >>> ((8 : Int32) &&& 31).toUInt32).toInt32) &&& (255 : Int32)))]))
  refine own_st (fun t k => XS.ior X81.here hx rfl (hb hby at_71) rfl k) ?_
  show own_G _ _ _ _ _ _ _ (T81.setTop (mkF m 72 #[.val (.long q1), .second, .val (.long q2), .second, .val (.long q3), .second, .val (.long q4), .second, .val (.int p5), .val (.ref b1), .val (.ref a2), .val (.int pp), .unset, .unset] [(.int ((((p5.toUInt32 >>> ((8 : Int32) &&& 31).toUInt32).toInt32) &&& (255 : Int32)) ||| (1 : Int32)))]))
  generalize ((((p5.toUInt32 >>> ((8 : Int32) &&& 31).toUInt32).toInt32) &&& (255 : Int32)) ||| (1 : Int32)) = fl
  show own_G _ _ _ _ _ _ _ (T81.setTop (mkF m 72 #[.val (.long q1), .second, .val (.long q2), .second, .val (.long q3), .second, .val (.long q4), .second, .val (.int p5), .val (.ref b1), .val (.ref a2), .val (.int pp), .unset, .unset] [(.int fl)]))
  refine own_st (fun t k => XS.istore X81.here hx rfl (hb hby at_72) rfl (l' := #[.val (.long q1), .second, .val (.long q2), .second, .val (.long q3), .second, .val (.long q4), .second, .val (.int p5), .val (.ref b1), .val (.ref a2), .val (.int pp), .val (.int fl), .unset]) rfl k) ?_
  show own_G _ _ _ _ _ _ _ (T81.setTop (mkF m 74 #[.val (.long q1), .second, .val (.long q2), .second, .val (.long q3), .second, .val (.long q4), .second, .val (.int p5), .val (.ref b1), .val (.ref a2), .val (.int pp), .val (.int fl), .unset] []))
  refine own_st (fun t k => XS.aload X81.here hx rfl (hb hby at_74) rfl rfl k) ?_
  show own_G _ _ _ _ _ _ _ (T81.setTop (mkF m 76 #[.val (.long q1), .second, .val (.long q2), .second, .val (.long q3), .second, .val (.long q4), .second, .val (.int p5), .val (.ref b1), .val (.ref a2), .val (.int pp), .val (.int fl), .unset] [(.ref b1)]))
  refine own_st (fun t k => XS.iload X81.here hx rfl (hb hby at_76) rfl k) ?_
  show own_G _ _ _ _ _ _ _ (T81.setTop (mkF m 78 #[.val (.long q1), .second, .val (.long q2), .second, .val (.long q3), .second, .val (.long q4), .second, .val (.int p5), .val (.ref b1), .val (.ref a2), .val (.int pp), .val (.int fl), .unset] [(.int pp), (.ref b1)]))
  refine own_st (fun t k => XS.aload X81.here hx rfl (hb hby at_78) rfl rfl k) ?_
  show own_G _ _ _ _ _ _ _ (T81.setTop (mkF m 80 #[.val (.long q1), .second, .val (.long q2), .second, .val (.long q3), .second, .val (.long q4), .second, .val (.int p5), .val (.ref b1), .val (.ref a2), .val (.int pp), .val (.int fl), .unset] [(.ref b1), (.int pp), (.ref b1)]))
  refine own_st (fun t k => XS.iload X81.here hx rfl (hb hby at_80) rfl k) ?_
  show own_G _ _ _ _ _ _ _ (T81.setTop (mkF m 82 #[.val (.long q1), .second, .val (.long q2), .second, .val (.long q3), .second, .val (.long q4), .second, .val (.int p5), .val (.ref b1), .val (.ref a2), .val (.int pp), .val (.int fl), .unset] [(.int pp), (.ref b1), (.int pp), (.ref b1)]))
  obtain ⟨cl85, Ar85, q85, S85, M85, H85, G85⟩ := V_83
  have hin : ¬ (pp < 0 ∨ cl85.slots.size ≤ pp.toNatClampNeg) := inb_of S85 hp
  obtain ⟨x, hxv⟩ := fit_I (G85 _ (Nat.lt_of_not_le fun q => hin (Or.inr q))) (by simp)
  have hat := Has.at H85 hin hxv
  refine own_st (fun t k => X81.baloadBytes hx (j := pp) (v := (.int x)) Ar85.1 (State.isArrayOf_alike hZ.alike Ar85.2.1) Ar85.2.2 hin hat (g := (mkF m 82 #[.val (.long q1), .second, .val (.long q2), .second, .val (.long q3), .second, .val (.long q4), .second, .val (.int p5), .val (.ref b1), .val (.ref a2), .val (.int pp), .val (.int fl), .unset] [(.int pp), (.ref b1), (.int pp), (.ref b1)])) rfl rfl (hb hby at_82) t k) ?_
  show own_G _ _ _ _ _ _ _ (T81.setTop (mkF m 83 #[.val (.long q1), .second, .val (.long q2), .second, .val (.long q3), .second, .val (.long q4), .second, .val (.int p5), .val (.ref b1), .val (.ref a2), .val (.int pp), .val (.int fl), .unset] [(.int x), (.int pp), (.ref b1)]))
  refine own_st (fun t k => XS.iload X81.here hx rfl (hb hby at_83) rfl k) ?_
  show own_G _ _ _ _ _ _ _ (T81.setTop (mkF m 85 #[.val (.long q1), .second, .val (.long q2), .second, .val (.long q3), .second, .val (.long q4), .second, .val (.int p5), .val (.ref b1), .val (.ref a2), .val (.int pp), .val (.int fl), .unset] [(.int fl), (.int x), (.int pp), (.ref b1)]))
  refine own_st (fun t k => XS.ixor X81.here hx rfl (hb hby at_85) rfl k) ?_
  show own_G _ _ _ _ _ _ _ (T81.setTop (mkF m 86 #[.val (.long q1), .second, .val (.long q2), .second, .val (.long q3), .second, .val (.long q4), .second, .val (.int p5), .val (.ref b1), .val (.ref a2), .val (.int pp), .val (.int fl), .unset] [(.int (x ^^^ fl)), (.int pp), (.ref b1)]))
  refine own_st (fun t k => XS.i2b X81.here hx rfl (hb hby at_86) rfl k) ?_
  show own_G _ _ _ _ _ _ _ (T81.setTop (mkF m 87 #[.val (.long q1), .second, .val (.long q2), .second, .val (.long q3), .second, .val (.long q4), .second, .val (.int p5), .val (.ref b1), .val (.ref a2), .val (.int pp), .val (.int fl), .unset] [(.int ((x ^^^ fl).toInt8.toInt32)), (.int pp), (.ref b1)]))
  obtain ⟨T86, h86, X86, e86, W86, st86⟩ := Jvm.RoadKit.stB X81 hx hZ rfl Ar85 (j := pp) hin (g := (mkF m 87 #[.val (.long q1), .second, .val (.long q2), .second, .val (.long q3), .second, .val (.long q4), .second, .val (.int p5), .val (.ref b1), .val (.ref a2), .val (.int pp), .val (.int fl), .unset] [(.int ((x ^^^ fl).toInt8.toInt32)), (.int pp), (.ref b1)])) rfl rfl (hb hby at_87)
  have N86 := Fr.snoc X86 N81 ge_b1
  refine own_st (fun t k => st86 t k) ?_
  show own_G _ _ _ _ _ _ _ (T86.setTop (mkF m 88 #[.val (.long q1), .second, .val (.long q2), .second, .val (.long q3), .second, .val (.long q4), .second, .val (.int p5), .val (.ref b1), .val (.ref a2), .val (.int pp), .val (.int fl), .unset] []))
  have EA_87 := Ea81.wr W86
  have FA_88 := Fa81.other W86 (Or.inl (Ne.symm ne_b1_a2))
  have VT_89 := Vt81.other W86 (Ne.symm ne_b1_t2)
  have ET_90 := Et81.wr W86
  have Zz91 : n0 ≤ h86.size := Nat.le_trans Zz84 (Keep.of_wr W86).1
  refine own_st (fun t k => XS.aload X86.here hx rfl (hb hby at_88) rfl rfl k) ?_
  show own_G _ _ _ _ _ _ _ (T86.setTop (mkF m 90 #[.val (.long q1), .second, .val (.long q2), .second, .val (.long q3), .second, .val (.long q4), .second, .val (.int p5), .val (.ref b1), .val (.ref a2), .val (.int pp), .val (.int fl), .unset] [(.ref a2)]))
  obtain ⟨cq92, kq92, q92a, q92b, q92c⟩ := isOf hZ e86 EA_87
  obtain ⟨_, _, ⟨T92, L92, k92, n92⟩, -, X92, ⟨Lc92, hQ92, l92, y92, z92⟩, st92⟩ := X86.virtualBack hx (y := (⟨"com/example/tessera/tessera/tokenhash/TokenHash", "bytes", "()[B"⟩ : MethodName)) (z := (⟨"com/example/tessera/tessera/tokenhash/TokenHash", "bytes", "()[B"⟩ : MethodName)) hown (mvT hZ (hw _ (List.mem_of_getElem? (i := 29) rfl))) (mvT hZ (hw _ (List.mem_of_getElem? (i := 30) rfl))) (notFace_of_selects (args := #[]) (mvT hZ (hw _ (List.mem_of_getElem? (i := 32) rfl)))) (mvT hZ (hw _ (List.mem_of_getElem? (i := 32) rfl))) (mvT hZ (hw _ (List.mem_of_getElem? (i := 31) rfl))) (by decide) (backOf (W := 0) (own_rm5 l Z a0 hw [] a2 t2 k63 (own_setl (own_setl (own_setl (own_setl vs0 1 q1) 9 q2) 17 q3) 25 q4) h86 n0 Zz91 FA_88 VT_89 ET_90) hZ (hw _ (List.mem_of_getElem? (i := 33) rfl)) (hw _ (List.mem_of_getElem? (i := 7) rfl)) (by decide) (by decide)) q92a q92c (g := (mkF m 90 #[.val (.long q1), .second, .val (.long q2), .second, .val (.long q3), .second, .val (.long q4), .second, .val (.int p5), .val (.ref b1), .val (.ref a2), .val (.int pp), .val (.int fl), .unset] [(.ref a2)])) rfl (by rw [hml]; rfl) (Steps.refl _) (argsL := []) (rest := []) (lenOf own_pd4 rfl) rfl (by show 2 * 0 + _ ≤ _; exact Nat.le_of_eq rfl) (hb hby at_90) (fun _ _ => ⟨rfl, e86, (by decide : 3 + 1 ≤ _), (by decide : 67 + 33 ≤ _)⟩)
  dsimp only [Pt.U, Pt.locs, Pt.cells, Pt.slots] at X92 l92 y92 z92 st92 hQ92
  subst l92 y92 z92
  obtain ⟨t3, rfl, N92q, K92, Vo92⟩ := hQ92
  have N92 := Fr.app N86 N92q
  refine own_st (fun t k => st92.trans k) ?_
  show own_G _ _ _ _ _ _ _ (T92.setTop (mkF m 93 #[.val (.long q1), .second, .val (.long q2), .second, .val (.long q3), .second, .val (.long q4), .second, .val (.int p5), .val (.ref b1), .val (.ref a2), .val (.int pp), .val (.int fl), .unset] [(.ref t3)]))
  have Zl : n0 ≤ T92.heap.size := Nat.le_trans Zz91 K92.1
  refine own_st (fun t k => XS.astore X92.here hx rfl (hb hby at_93) rfl rfl (l' := #[.val (.long q1), .second, .val (.long q2), .second, .val (.long q3), .second, .val (.long q4), .second, .val (.int p5), .val (.ref b1), .val (.ref a2), .val (.int pp), .val (.int fl), .val (.ref t3)]) rfl k) ?_
  show own_G _ _ _ _ _ _ _ (T92.setTop (mkF m 95 #[.val (.long q1), .second, .val (.long q2), .second, .val (.long q3), .second, .val (.long q4), .second, .val (.int p5), .val (.ref b1), .val (.ref a2), .val (.int pp), .val (.int fl), .val (.ref t3)] []))
  refine own_st (fun t k => XS.aload X92.here hx rfl (hb hby at_95) rfl rfl k) ?_
  show own_G _ _ _ _ _ _ _ (T92.setTop (mkF m 97 #[.val (.long q1), .second, .val (.long q2), .second, .val (.long q3), .second, .val (.long q4), .second, .val (.int p5), .val (.ref b1), .val (.ref a2), .val (.int pp), .val (.int fl), .val (.ref t3)] [(.ref t3)]))
  obtain ⟨cl93, Ar93, q93, S93, M93, H93, G93⟩ := Vo92
  refine own_st (fun t k => X92.arraylength hx Ar93.1 (State.isArrayOf_alike hZ.alike Ar93.2.1) (g := (mkF m 97 #[.val (.long q1), .second, .val (.long q2), .second, .val (.long q3), .second, .val (.long q4), .second, .val (.int p5), .val (.ref b1), .val (.ref a2), .val (.int pp), .val (.int fl), .val (.ref t3)] [(.ref t3)])) rfl rfl (hb hby at_97) t k) ?_
  rw [len_of S93 M93]
  show own_G _ _ _ _ _ _ _ (T92.setTop (mkF m 98 #[.val (.long q1), .second, .val (.long q2), .second, .val (.long q3), .second, .val (.long q4), .second, .val (.int p5), .val (.ref b1), .val (.ref a2), .val (.int pp), .val (.int fl), .val (.ref t3)] [(.int 33)]))
  refine own_st (fun t k => XS.bipush X92.here hx rfl (hb hby at_98) k) ?_
  show own_G _ _ _ _ _ _ _ (T92.setTop (mkF m 100 #[.val (.long q1), .second, .val (.long q2), .second, .val (.long q3), .second, .val (.long q4), .second, .val (.int p5), .val (.ref b1), .val (.ref a2), .val (.int pp), .val (.int fl), .val (.ref t3)] [(.int (33 : Int32)), (.int (33 : Int32))]))
  refine own_st (fun t k => XS.icmpNo X92.here hx rfl (hb hby at_100) rfl (teq rfl).2 k) ?_
  show own_G _ _ _ _ _ _ _ (T92.setTop (mkF m 103 #[.val (.long q1), .second, .val (.long q2), .second, .val (.long q3), .second, .val (.long q4), .second, .val (.int p5), .val (.ref b1), .val (.ref a2), .val (.int pp), .val (.int fl), .val (.ref t3)] []))
  refine own_st (fun t k => XS.aload X92.here hx rfl (hb hby at_103) rfl rfl k) ?_
  show own_G _ _ _ _ _ _ _ (T92.setTop (mkF m 105 #[.val (.long q1), .second, .val (.long q2), .second, .val (.long q3), .second, .val (.long q4), .second, .val (.int p5), .val (.ref b1), .val (.ref a2), .val (.int pp), .val (.int fl), .val (.ref t3)] [(.ref t3)]))
  refine own_st (fun t k => XS.iconst X92.here hx rfl (hb hby at_105) k) ?_
  show own_G _ _ _ _ _ _ _ (T92.setTop (mkF m 106 #[.val (.long q1), .second, .val (.long q2), .second, .val (.long q3), .second, .val (.long q4), .second, .val (.int p5), .val (.ref b1), .val (.ref a2), .val (.int pp), .val (.int fl), .val (.ref t3)] [(.int (0 : Int32)), (.ref t3)]))
  have hin0 : ¬ ((0 : Int32) < 0 ∨ cl93.slots.size ≤ (0 : Int32).toNatClampNeg) := inb_of S93 ⟨by decide, by decide⟩
  have hat0 : cl93.slots[(0 : Int32).toNatClampNeg]? = some (.int 1) := Has.at H93 hin0 hv0
  have Vo : Arv Z T92.heap t3 k63 .byte 33 (own_setl (own_setl (own_setl (own_setl vs0 1 q1) 9 q2) 17 q3) 25 q4) (.int 0) := ⟨cl93, Ar93, q93, S93, M93, H93, G93⟩
  refine own_st (fun t k => X92.baloadBytes hx (j := (0 : Int32)) (v := (.int (1 : Int32))) Ar93.1 (State.isArrayOf_alike hZ.alike Ar93.2.1) Ar93.2.2 hin0 hat0 (g := (mkF m 106 #[.val (.long q1), .second, .val (.long q2), .second, .val (.long q3), .second, .val (.long q4), .second, .val (.int p5), .val (.ref b1), .val (.ref a2), .val (.int pp), .val (.int fl), .val (.ref t3)] [(.int (0 : Int32)), (.ref t3)])) rfl rfl (hb hby at_106) t k) ?_
  show own_G _ _ _ _ _ _ _ (T92.setTop (mkF m 107 #[.val (.long q1), .second, .val (.long q2), .second, .val (.long q3), .second, .val (.long q4), .second, .val (.int p5), .val (.ref b1), .val (.ref a2), .val (.int pp), .val (.int fl), .val (.ref t3)] [(.int (1 : Int32))]))
  refine own_st (fun t k => XS.iconst X92.here hx rfl (hb hby at_107) k) ?_
  show own_G _ _ _ _ _ _ _ (T92.setTop (mkF m 108 #[.val (.long q1), .second, .val (.long q2), .second, .val (.long q3), .second, .val (.long q4), .second, .val (.int p5), .val (.ref b1), .val (.ref a2), .val (.int pp), .val (.int fl), .val (.ref t3)] [(.int (1 : Int32)), (.int (1 : Int32))]))
  refine own_st (fun t k => XS.icmpNo X92.here hx rfl (hb hby at_108) rfl (teq rfl).2 k) ?_
  show own_G _ _ _ _ _ _ _ (T92.setTop (mkF m 111 #[.val (.long q1), .second, .val (.long q2), .second, .val (.long q3), .second, .val (.long q4), .second, .val (.int p5), .val (.ref b1), .val (.ref a2), .val (.int pp), .val (.int fl), .val (.ref t3)] []))
  refine own_st (fun t k => XS.aload X92.here hx rfl (hb hby at_111) rfl rfl k) ?_
  show own_G _ _ _ _ _ _ _ (T92.setTop (mkF m 113 #[.val (.long q1), .second, .val (.long q2), .second, .val (.long q3), .second, .val (.long q4), .second, .val (.int p5), .val (.ref b1), .val (.ref a2), .val (.int pp), .val (.int fl), .val (.ref t3)] [(.ref t3)]))
  refine own_st (fun t k => XS.iconst X92.here hx rfl (hb hby at_113) k) ?_
  show own_G _ _ _ _ _ _ _ (T92.setTop (mkF m 114 #[.val (.long q1), .second, .val (.long q2), .second, .val (.long q3), .second, .val (.long q4), .second, .val (.int p5), .val (.ref b1), .val (.ref a2), .val (.int pp), .val (.int fl), .val (.ref t3)] [(.int (1 : Int32)), (.ref t3)]))
  obtain ⟨_, _, ⟨T94, L94, k94, n94⟩, -, X94, ⟨Lc94, hQ94, l94, y94, z94⟩, st94⟩ := Jvm.LawKit.callS X92 hx (y := (⟨"com/example/tessera/tessera/tokenhash/TokenHashFromBytesPinLaw", "get", "([BI)J"⟩ : MethodName)) hown (mvT hZ (hw _ (List.mem_of_getElem? (i := 34) rfl))) (mvT hZ (hw _ (List.mem_of_getElem? (i := 35) rfl))) (mvT hZ (hw _ (List.mem_of_getElem? (i := 3) rfl))) (mvT hZ (hw _ (List.mem_of_getElem? (i := 36) rfl))) (by decide) (backOf (W := 0) (own_rm2 l Z a0 hw [] t3 (1 : Int32) 1 k63 (own_setl (own_setl (own_setl (own_setl vs0 1 q1) 9 q2) 17 q3) 25 q4) (own_by q1 56) (own_by q1 48) (own_by q1 40) (own_by q1 32) (own_by q1 24) (own_by q1 16) (own_by q1 8) (own_by0 q1) T92.heap n0 Zl Vo (by decide) (by decide) (by rw [own_miss _ _ _ _ _ (by omega), own_miss _ _ _ _ _ (by omega), own_miss _ _ _ _ _ (by omega)]; exact own_hit0 _ 1 q1 _ (by rw [hl0]; decide)) (by rw [own_miss _ _ _ _ _ (by omega), own_miss _ _ _ _ _ (by omega), own_miss _ _ _ _ _ (by omega)]; exact own_hit1 _ 1 q1 _ (by rw [hl0]; decide)) (by rw [own_miss _ _ _ _ _ (by omega), own_miss _ _ _ _ _ (by omega), own_miss _ _ _ _ _ (by omega)]; exact own_hit2 _ 1 q1 _ (by rw [hl0]; decide)) (by rw [own_miss _ _ _ _ _ (by omega), own_miss _ _ _ _ _ (by omega), own_miss _ _ _ _ _ (by omega)]; exact own_hit3 _ 1 q1 _ (by rw [hl0]; decide)) (by rw [own_miss _ _ _ _ _ (by omega), own_miss _ _ _ _ _ (by omega), own_miss _ _ _ _ _ (by omega)]; exact own_hit4 _ 1 q1 _ (by rw [hl0]; decide)) (by rw [own_miss _ _ _ _ _ (by omega), own_miss _ _ _ _ _ (by omega), own_miss _ _ _ _ _ (by omega)]; exact own_hit5 _ 1 q1 _ (by rw [hl0]; decide)) (by rw [own_miss _ _ _ _ _ (by omega), own_miss _ _ _ _ _ (by omega), own_miss _ _ _ _ _ (by omega)]; exact own_hit6 _ 1 q1 _ (by rw [hl0]; decide)) (by rw [own_miss _ _ _ _ _ (by omega), own_miss _ _ _ _ _ (by omega), own_miss _ _ _ _ _ (by omega)]; exact own_hit7 _ 1 q1 _ (by rw [hl0]; decide))) hZ (hw _ (List.mem_of_getElem? (i := 36) rfl)) (hw _ (List.mem_of_getElem? (i := 3) rfl)) (by decide) (by decide)) (g := (mkF m 114 #[.val (.long q1), .second, .val (.long q2), .second, .val (.long q3), .second, .val (.long q4), .second, .val (.int p5), .val (.ref b1), .val (.ref a2), .val (.int pp), .val (.int fl), .val (.ref t3)] [(.int (1 : Int32)), (.ref t3)])) rfl (by rw [hml]; rfl) (argsL := [(.ref t3), (.int (1 : Int32))]) (rest := []) (lenOf own_pd1 rfl) rfl (by show 2 * 0 + _ ≤ _; exact Nat.le_of_eq rfl) (hb hby at_114) (fun _ _ => ⟨rfl, rfl, (by decide : 4 + 0 ≤ _), (by decide : 100 + 0 ≤ _)⟩)
  dsimp only [Pt.U, Pt.locs, Pt.cells, Pt.slots] at X94 l94 y94 z94 st94 hQ94
  subst l94 y94 z94
  obtain ⟨rfl, N94q, e94⟩ := hQ94
  have N94 := Fr.app N92 N94q
  refine own_st (fun t k => st94 t k) ?_
  show own_G _ _ _ _ _ _ _ (T94.setTop (mkF m 117 #[.val (.long q1), .second, .val (.long q2), .second, .val (.long q3), .second, .val (.long q4), .second, .val (.int p5), .val (.ref b1), .val (.ref a2), .val (.int pp), .val (.int fl), .val (.ref t3)] [(.long (own_get (own_by q1 56) (own_by q1 48) (own_by q1 40) (own_by q1 32) (own_by q1 24) (own_by q1 16) (own_by q1 8) (own_by0 q1)))]))
  refine own_st (fun t k => XS.lloadN X94.here hx rfl (hb hby at_117) rfl k) ?_
  show own_G _ _ _ _ _ _ _ (T94.setTop (mkF m 118 #[.val (.long q1), .second, .val (.long q2), .second, .val (.long q3), .second, .val (.long q4), .second, .val (.int p5), .val (.ref b1), .val (.ref a2), .val (.int pp), .val (.int fl), .val (.ref t3)] [(.long q1), (.long (own_get (own_by q1 56) (own_by q1 48) (own_by q1 40) (own_by q1 32) (own_by q1 24) (own_by q1 16) (own_by q1 8) (own_by0 q1)))]))
  refine own_st (fun t k => XS.lcmp X94.here hx rfl (hb hby at_118) rfl k) ?_
  show own_G _ _ _ _ _ _ _ (T94.setTop (mkF m 119 #[.val (.long q1), .second, .val (.long q2), .second, .val (.long q3), .second, .val (.long q4), .second, .val (.int p5), .val (.ref b1), .val (.ref a2), .val (.int pp), .val (.int fl), .val (.ref t3)] [(.int (lcmpW (own_get (own_by q1 56) (own_by q1 48) (own_by q1 40) (own_by q1 32) (own_by q1 24) (own_by q1 16) (own_by q1 8) (own_by0 q1)) q1))]))
  refine own_st (fun t k => XS.ifNo X94.here hx rfl (hb hby at_119) rfl ((if0 _ _).trans (teq ((lw_eq _ _).mpr (own_round q1))).2) k) ?_
  show own_G _ _ _ _ _ _ _ (T94.setTop (mkF m 122 #[.val (.long q1), .second, .val (.long q2), .second, .val (.long q3), .second, .val (.long q4), .second, .val (.int p5), .val (.ref b1), .val (.ref a2), .val (.int pp), .val (.int fl), .val (.ref t3)] []))
  refine own_st (fun t k => XS.aload X94.here hx rfl (hb hby at_122) rfl rfl k) ?_
  show own_G _ _ _ _ _ _ _ (T94.setTop (mkF m 124 #[.val (.long q1), .second, .val (.long q2), .second, .val (.long q3), .second, .val (.long q4), .second, .val (.int p5), .val (.ref b1), .val (.ref a2), .val (.int pp), .val (.int fl), .val (.ref t3)] [(.ref t3)]))
  refine own_st (fun t k => XS.bipush X94.here hx rfl (hb hby at_124) k) ?_
  show own_G _ _ _ _ _ _ _ (T94.setTop (mkF m 126 #[.val (.long q1), .second, .val (.long q2), .second, .val (.long q3), .second, .val (.long q4), .second, .val (.int p5), .val (.ref b1), .val (.ref a2), .val (.int pp), .val (.int fl), .val (.ref t3)] [(.int (9 : Int32)), (.ref t3)]))
  obtain ⟨_, _, ⟨T95, L95, k95, n95⟩, -, X95, ⟨Lc95, hQ95, l95, y95, z95⟩, st95⟩ := Jvm.LawKit.callS X94 hx (y := (⟨"com/example/tessera/tessera/tokenhash/TokenHashFromBytesPinLaw", "get", "([BI)J"⟩ : MethodName)) hown (mvT hZ (hw _ (List.mem_of_getElem? (i := 34) rfl))) (mvT hZ (hw _ (List.mem_of_getElem? (i := 35) rfl))) (mvT hZ (hw _ (List.mem_of_getElem? (i := 3) rfl))) (mvT hZ (hw _ (List.mem_of_getElem? (i := 36) rfl))) (by decide) (backOf (W := 0) (own_rm2 l Z a0 hw [] t3 (9 : Int32) 9 k63 (own_setl (own_setl (own_setl (own_setl vs0 1 q1) 9 q2) 17 q3) 25 q4) (own_by q2 56) (own_by q2 48) (own_by q2 40) (own_by q2 32) (own_by q2 24) (own_by q2 16) (own_by q2 8) (own_by0 q2) T92.heap n0 Zl Vo (by decide) (by decide) (by rw [own_miss _ _ _ _ _ (by omega), own_miss _ _ _ _ _ (by omega)]; exact own_hit0 _ 9 q2 _ (by rw [hl1]; decide)) (by rw [own_miss _ _ _ _ _ (by omega), own_miss _ _ _ _ _ (by omega)]; exact own_hit1 _ 9 q2 _ (by rw [hl1]; decide)) (by rw [own_miss _ _ _ _ _ (by omega), own_miss _ _ _ _ _ (by omega)]; exact own_hit2 _ 9 q2 _ (by rw [hl1]; decide)) (by rw [own_miss _ _ _ _ _ (by omega), own_miss _ _ _ _ _ (by omega)]; exact own_hit3 _ 9 q2 _ (by rw [hl1]; decide)) (by rw [own_miss _ _ _ _ _ (by omega), own_miss _ _ _ _ _ (by omega)]; exact own_hit4 _ 9 q2 _ (by rw [hl1]; decide)) (by rw [own_miss _ _ _ _ _ (by omega), own_miss _ _ _ _ _ (by omega)]; exact own_hit5 _ 9 q2 _ (by rw [hl1]; decide)) (by rw [own_miss _ _ _ _ _ (by omega), own_miss _ _ _ _ _ (by omega)]; exact own_hit6 _ 9 q2 _ (by rw [hl1]; decide)) (by rw [own_miss _ _ _ _ _ (by omega), own_miss _ _ _ _ _ (by omega)]; exact own_hit7 _ 9 q2 _ (by rw [hl1]; decide))) hZ (hw _ (List.mem_of_getElem? (i := 36) rfl)) (hw _ (List.mem_of_getElem? (i := 3) rfl)) (by decide) (by decide)) (g := (mkF m 126 #[.val (.long q1), .second, .val (.long q2), .second, .val (.long q3), .second, .val (.long q4), .second, .val (.int p5), .val (.ref b1), .val (.ref a2), .val (.int pp), .val (.int fl), .val (.ref t3)] [(.int (9 : Int32)), (.ref t3)])) rfl (by rw [hml]; rfl) (argsL := [(.ref t3), (.int (9 : Int32))]) (rest := []) (lenOf own_pd1 rfl) rfl (by show 2 * 0 + _ ≤ _; exact Nat.le_of_eq rfl) (hb hby at_126) (fun _ _ => ⟨rfl, e94, (by decide : 4 + 0 ≤ _), (by decide : 100 + 0 ≤ _)⟩)
  dsimp only [Pt.U, Pt.locs, Pt.cells, Pt.slots] at X95 l95 y95 z95 st95 hQ95
  subst l95 y95 z95
  obtain ⟨rfl, N95q, e95⟩ := hQ95
  have N95 := Fr.app N94 N95q
  refine own_st (fun t k => st95 t k) ?_
  show own_G _ _ _ _ _ _ _ (T95.setTop (mkF m 129 #[.val (.long q1), .second, .val (.long q2), .second, .val (.long q3), .second, .val (.long q4), .second, .val (.int p5), .val (.ref b1), .val (.ref a2), .val (.int pp), .val (.int fl), .val (.ref t3)] [(.long (own_get (own_by q2 56) (own_by q2 48) (own_by q2 40) (own_by q2 32) (own_by q2 24) (own_by q2 16) (own_by q2 8) (own_by0 q2)))]))
  refine own_st (fun t k => XS.lloadN X95.here hx rfl (hb hby at_129) rfl k) ?_
  show own_G _ _ _ _ _ _ _ (T95.setTop (mkF m 130 #[.val (.long q1), .second, .val (.long q2), .second, .val (.long q3), .second, .val (.long q4), .second, .val (.int p5), .val (.ref b1), .val (.ref a2), .val (.int pp), .val (.int fl), .val (.ref t3)] [(.long q2), (.long (own_get (own_by q2 56) (own_by q2 48) (own_by q2 40) (own_by q2 32) (own_by q2 24) (own_by q2 16) (own_by q2 8) (own_by0 q2)))]))
  refine own_st (fun t k => XS.lcmp X95.here hx rfl (hb hby at_130) rfl k) ?_
  show own_G _ _ _ _ _ _ _ (T95.setTop (mkF m 131 #[.val (.long q1), .second, .val (.long q2), .second, .val (.long q3), .second, .val (.long q4), .second, .val (.int p5), .val (.ref b1), .val (.ref a2), .val (.int pp), .val (.int fl), .val (.ref t3)] [(.int (lcmpW (own_get (own_by q2 56) (own_by q2 48) (own_by q2 40) (own_by q2 32) (own_by q2 24) (own_by q2 16) (own_by q2 8) (own_by0 q2)) q2))]))
  refine own_st (fun t k => XS.ifNo X95.here hx rfl (hb hby at_131) rfl ((if0 _ _).trans (teq ((lw_eq _ _).mpr (own_round q2))).2) k) ?_
  show own_G _ _ _ _ _ _ _ (T95.setTop (mkF m 134 #[.val (.long q1), .second, .val (.long q2), .second, .val (.long q3), .second, .val (.long q4), .second, .val (.int p5), .val (.ref b1), .val (.ref a2), .val (.int pp), .val (.int fl), .val (.ref t3)] []))
  refine own_st (fun t k => XS.aload X95.here hx rfl (hb hby at_134) rfl rfl k) ?_
  show own_G _ _ _ _ _ _ _ (T95.setTop (mkF m 136 #[.val (.long q1), .second, .val (.long q2), .second, .val (.long q3), .second, .val (.long q4), .second, .val (.int p5), .val (.ref b1), .val (.ref a2), .val (.int pp), .val (.int fl), .val (.ref t3)] [(.ref t3)]))
  refine own_st (fun t k => XS.bipush X95.here hx rfl (hb hby at_136) k) ?_
  show own_G _ _ _ _ _ _ _ (T95.setTop (mkF m 138 #[.val (.long q1), .second, .val (.long q2), .second, .val (.long q3), .second, .val (.long q4), .second, .val (.int p5), .val (.ref b1), .val (.ref a2), .val (.int pp), .val (.int fl), .val (.ref t3)] [(.int (17 : Int32)), (.ref t3)]))
  obtain ⟨_, _, ⟨T96, L96, k96, n96⟩, -, X96, ⟨Lc96, hQ96, l96, y96, z96⟩, st96⟩ := Jvm.LawKit.callS X95 hx (y := (⟨"com/example/tessera/tessera/tokenhash/TokenHashFromBytesPinLaw", "get", "([BI)J"⟩ : MethodName)) hown (mvT hZ (hw _ (List.mem_of_getElem? (i := 34) rfl))) (mvT hZ (hw _ (List.mem_of_getElem? (i := 35) rfl))) (mvT hZ (hw _ (List.mem_of_getElem? (i := 3) rfl))) (mvT hZ (hw _ (List.mem_of_getElem? (i := 36) rfl))) (by decide) (backOf (W := 0) (own_rm2 l Z a0 hw [] t3 (17 : Int32) 17 k63 (own_setl (own_setl (own_setl (own_setl vs0 1 q1) 9 q2) 17 q3) 25 q4) (own_by q3 56) (own_by q3 48) (own_by q3 40) (own_by q3 32) (own_by q3 24) (own_by q3 16) (own_by q3 8) (own_by0 q3) T92.heap n0 Zl Vo (by decide) (by decide) (by rw [own_miss _ _ _ _ _ (by omega)]; exact own_hit0 _ 17 q3 _ (by rw [hl2]; decide)) (by rw [own_miss _ _ _ _ _ (by omega)]; exact own_hit1 _ 17 q3 _ (by rw [hl2]; decide)) (by rw [own_miss _ _ _ _ _ (by omega)]; exact own_hit2 _ 17 q3 _ (by rw [hl2]; decide)) (by rw [own_miss _ _ _ _ _ (by omega)]; exact own_hit3 _ 17 q3 _ (by rw [hl2]; decide)) (by rw [own_miss _ _ _ _ _ (by omega)]; exact own_hit4 _ 17 q3 _ (by rw [hl2]; decide)) (by rw [own_miss _ _ _ _ _ (by omega)]; exact own_hit5 _ 17 q3 _ (by rw [hl2]; decide)) (by rw [own_miss _ _ _ _ _ (by omega)]; exact own_hit6 _ 17 q3 _ (by rw [hl2]; decide)) (by rw [own_miss _ _ _ _ _ (by omega)]; exact own_hit7 _ 17 q3 _ (by rw [hl2]; decide))) hZ (hw _ (List.mem_of_getElem? (i := 36) rfl)) (hw _ (List.mem_of_getElem? (i := 3) rfl)) (by decide) (by decide)) (g := (mkF m 138 #[.val (.long q1), .second, .val (.long q2), .second, .val (.long q3), .second, .val (.long q4), .second, .val (.int p5), .val (.ref b1), .val (.ref a2), .val (.int pp), .val (.int fl), .val (.ref t3)] [(.int (17 : Int32)), (.ref t3)])) rfl (by rw [hml]; rfl) (argsL := [(.ref t3), (.int (17 : Int32))]) (rest := []) (lenOf own_pd1 rfl) rfl (by show 2 * 0 + _ ≤ _; exact Nat.le_of_eq rfl) (hb hby at_138) (fun _ _ => ⟨rfl, e95, (by decide : 4 + 0 ≤ _), (by decide : 100 + 0 ≤ _)⟩)
  dsimp only [Pt.U, Pt.locs, Pt.cells, Pt.slots] at X96 l96 y96 z96 st96 hQ96
  subst l96 y96 z96
  obtain ⟨rfl, N96q, e96⟩ := hQ96
  have N96 := Fr.app N95 N96q
  refine own_st (fun t k => st96 t k) ?_
  show own_G _ _ _ _ _ _ _ (T96.setTop (mkF m 141 #[.val (.long q1), .second, .val (.long q2), .second, .val (.long q3), .second, .val (.long q4), .second, .val (.int p5), .val (.ref b1), .val (.ref a2), .val (.int pp), .val (.int fl), .val (.ref t3)] [(.long (own_get (own_by q3 56) (own_by q3 48) (own_by q3 40) (own_by q3 32) (own_by q3 24) (own_by q3 16) (own_by q3 8) (own_by0 q3)))]))
  refine own_st (fun t k => XS.lload X96.here hx rfl (hb hby at_141) rfl k) ?_
  show own_G _ _ _ _ _ _ _ (T96.setTop (mkF m 143 #[.val (.long q1), .second, .val (.long q2), .second, .val (.long q3), .second, .val (.long q4), .second, .val (.int p5), .val (.ref b1), .val (.ref a2), .val (.int pp), .val (.int fl), .val (.ref t3)] [(.long q3), (.long (own_get (own_by q3 56) (own_by q3 48) (own_by q3 40) (own_by q3 32) (own_by q3 24) (own_by q3 16) (own_by q3 8) (own_by0 q3)))]))
  refine own_st (fun t k => XS.lcmp X96.here hx rfl (hb hby at_143) rfl k) ?_
  show own_G _ _ _ _ _ _ _ (T96.setTop (mkF m 144 #[.val (.long q1), .second, .val (.long q2), .second, .val (.long q3), .second, .val (.long q4), .second, .val (.int p5), .val (.ref b1), .val (.ref a2), .val (.int pp), .val (.int fl), .val (.ref t3)] [(.int (lcmpW (own_get (own_by q3 56) (own_by q3 48) (own_by q3 40) (own_by q3 32) (own_by q3 24) (own_by q3 16) (own_by q3 8) (own_by0 q3)) q3))]))
  refine own_st (fun t k => XS.ifNo X96.here hx rfl (hb hby at_144) rfl ((if0 _ _).trans (teq ((lw_eq _ _).mpr (own_round q3))).2) k) ?_
  show own_G _ _ _ _ _ _ _ (T96.setTop (mkF m 147 #[.val (.long q1), .second, .val (.long q2), .second, .val (.long q3), .second, .val (.long q4), .second, .val (.int p5), .val (.ref b1), .val (.ref a2), .val (.int pp), .val (.int fl), .val (.ref t3)] []))
  refine own_st (fun t k => XS.aload X96.here hx rfl (hb hby at_147) rfl rfl k) ?_
  show own_G _ _ _ _ _ _ _ (T96.setTop (mkF m 149 #[.val (.long q1), .second, .val (.long q2), .second, .val (.long q3), .second, .val (.long q4), .second, .val (.int p5), .val (.ref b1), .val (.ref a2), .val (.int pp), .val (.int fl), .val (.ref t3)] [(.ref t3)]))
  refine own_st (fun t k => XS.bipush X96.here hx rfl (hb hby at_149) k) ?_
  show own_G _ _ _ _ _ _ _ (T96.setTop (mkF m 151 #[.val (.long q1), .second, .val (.long q2), .second, .val (.long q3), .second, .val (.long q4), .second, .val (.int p5), .val (.ref b1), .val (.ref a2), .val (.int pp), .val (.int fl), .val (.ref t3)] [(.int (25 : Int32)), (.ref t3)]))
  obtain ⟨_, _, ⟨T97, L97, k97, n97⟩, -, X97, ⟨Lc97, hQ97, l97, y97, z97⟩, st97⟩ := Jvm.LawKit.callS X96 hx (y := (⟨"com/example/tessera/tessera/tokenhash/TokenHashFromBytesPinLaw", "get", "([BI)J"⟩ : MethodName)) hown (mvT hZ (hw _ (List.mem_of_getElem? (i := 34) rfl))) (mvT hZ (hw _ (List.mem_of_getElem? (i := 35) rfl))) (mvT hZ (hw _ (List.mem_of_getElem? (i := 3) rfl))) (mvT hZ (hw _ (List.mem_of_getElem? (i := 36) rfl))) (by decide) (backOf (W := 0) (own_rm2 l Z a0 hw [] t3 (25 : Int32) 25 k63 (own_setl (own_setl (own_setl (own_setl vs0 1 q1) 9 q2) 17 q3) 25 q4) (own_by q4 56) (own_by q4 48) (own_by q4 40) (own_by q4 32) (own_by q4 24) (own_by q4 16) (own_by q4 8) (own_by0 q4) T92.heap n0 Zl Vo (by decide) (by decide) (by exact own_hit0 _ 25 q4 _ (by rw [hl3]; decide)) (by exact own_hit1 _ 25 q4 _ (by rw [hl3]; decide)) (by exact own_hit2 _ 25 q4 _ (by rw [hl3]; decide)) (by exact own_hit3 _ 25 q4 _ (by rw [hl3]; decide)) (by exact own_hit4 _ 25 q4 _ (by rw [hl3]; decide)) (by exact own_hit5 _ 25 q4 _ (by rw [hl3]; decide)) (by exact own_hit6 _ 25 q4 _ (by rw [hl3]; decide)) (by exact own_hit7 _ 25 q4 _ (by rw [hl3]; decide))) hZ (hw _ (List.mem_of_getElem? (i := 36) rfl)) (hw _ (List.mem_of_getElem? (i := 3) rfl)) (by decide) (by decide)) (g := (mkF m 151 #[.val (.long q1), .second, .val (.long q2), .second, .val (.long q3), .second, .val (.long q4), .second, .val (.int p5), .val (.ref b1), .val (.ref a2), .val (.int pp), .val (.int fl), .val (.ref t3)] [(.int (25 : Int32)), (.ref t3)])) rfl (by rw [hml]; rfl) (argsL := [(.ref t3), (.int (25 : Int32))]) (rest := []) (lenOf own_pd1 rfl) rfl (by show 2 * 0 + _ ≤ _; exact Nat.le_of_eq rfl) (hb hby at_151) (fun _ _ => ⟨rfl, e96, (by decide : 4 + 0 ≤ _), (by decide : 100 + 0 ≤ _)⟩)
  dsimp only [Pt.U, Pt.locs, Pt.cells, Pt.slots] at X97 l97 y97 z97 st97 hQ97
  subst l97 y97 z97
  obtain ⟨rfl, N97q, e97⟩ := hQ97
  have N97 := Fr.app N96 N97q
  refine own_st (fun t k => st97 t k) ?_
  show own_G _ _ _ _ _ _ _ (T97.setTop (mkF m 154 #[.val (.long q1), .second, .val (.long q2), .second, .val (.long q3), .second, .val (.long q4), .second, .val (.int p5), .val (.ref b1), .val (.ref a2), .val (.int pp), .val (.int fl), .val (.ref t3)] [(.long (own_get (own_by q4 56) (own_by q4 48) (own_by q4 40) (own_by q4 32) (own_by q4 24) (own_by q4 16) (own_by q4 8) (own_by0 q4)))]))
  refine own_st (fun t k => XS.lload X97.here hx rfl (hb hby at_154) rfl k) ?_
  show own_G _ _ _ _ _ _ _ (T97.setTop (mkF m 156 #[.val (.long q1), .second, .val (.long q2), .second, .val (.long q3), .second, .val (.long q4), .second, .val (.int p5), .val (.ref b1), .val (.ref a2), .val (.int pp), .val (.int fl), .val (.ref t3)] [(.long q4), (.long (own_get (own_by q4 56) (own_by q4 48) (own_by q4 40) (own_by q4 32) (own_by q4 24) (own_by q4 16) (own_by q4 8) (own_by0 q4)))]))
  refine own_st (fun t k => XS.lcmp X97.here hx rfl (hb hby at_156) rfl k) ?_
  show own_G _ _ _ _ _ _ _ (T97.setTop (mkF m 157 #[.val (.long q1), .second, .val (.long q2), .second, .val (.long q3), .second, .val (.long q4), .second, .val (.int p5), .val (.ref b1), .val (.ref a2), .val (.int pp), .val (.int fl), .val (.ref t3)] [(.int (lcmpW (own_get (own_by q4 56) (own_by q4 48) (own_by q4 40) (own_by q4 32) (own_by q4 24) (own_by q4 16) (own_by q4 8) (own_by0 q4)) q4))]))
  refine own_st (fun t k => XS.ifNo X97.here hx rfl (hb hby at_157) rfl ((if0 _ _).trans (teq ((lw_eq _ _).mpr (own_round q4))).2) k) ?_
  show own_G _ _ _ _ _ _ _ (T97.setTop (mkF m 160 #[.val (.long q1), .second, .val (.long q2), .second, .val (.long q3), .second, .val (.long q4), .second, .val (.int p5), .val (.ref b1), .val (.ref a2), .val (.int pp), .val (.int fl), .val (.ref t3)] []))
  refine own_st (fun t k => XS.iconst X97.here hx rfl (hb hby at_160) k) ?_
  show own_G _ _ _ _ _ _ _ (T97.setTop (mkF m 161 #[.val (.long q1), .second, .val (.long q2), .second, .val (.long q3), .second, .val (.long q4), .second, .val (.int p5), .val (.ref b1), .val (.ref a2), .val (.int pp), .val (.int fl), .val (.ref t3)] [(.int (1 : Int32))]))
  refine own_st (fun t k => XS.goto X97.here hx rfl (pc0 := 161) (pc' := 165) rfl (hb hby at_161) (by decide) (by decide) k) ?_
  show own_G _ _ _ _ _ _ _ (T97.setTop (mkF m 165 #[.val (.long q1), .second, .val (.long q2), .second, .val (.long q3), .second, .val (.long q4), .second, .val (.int p5), .val (.ref b1), .val (.ref a2), .val (.int pp), .val (.int fl), .val (.ref t3)] [(.int (1 : Int32))]))
  exact own_retN (t := .boolean) (by simp) X97 hx Bd.returns (BodyLoose.notSynchronized Bd) (hb hby at_165) (by decide) (by decide) ⟨rfl, N97⟩
set_option maxRecDepth 65536 in
set_option maxHeartbeats 40000000 in
theorem own_comes {Post : Tables → Env → Array Value → State → Outcome → State → Prop} (hpost : ∀ tb e args s v u, (limb_1_1.after args s (.returned v) u = true ∧ limb_1_2.after args s (.returned v) u = true ∧ True) → FrameEnd s (.returned v) u (Jvm.fieldLocs frame_1_writes args s ++ Jvm.arrayLocs frame_1_arrays args s ++ Jvm.staticLocs frame_1_statics s) 16 320 → Post tb e args s (.returned v) u) :
    ArmFor flags0 classFile x code maxLocals ret World_1 tables_1 room_1 Calls_1 rest_1 Pre_1 Post := by
  intro l hfl _ _ p e ha hc hk s m args below hf hA hF happ hP
  obtain ⟨hcalls, hrest, hpre⟩ := hP
  obtain ⟨-, -, -, hnamed, -, -, -, hat⟩ := (Spec.applies_iff hf).mp happ
  obtain ⟨hg, hn⟩ := and_e (Cond.before_iff.mp (show (Jvm.Cond.and given_1 narrow_1).before args s = true from hpre))
  obtain ⟨gc, ga0⟩ := and_e hg
  obtain ⟨gi0, ga1⟩ := and_e ga0
  obtain ⟨gi1, ga2⟩ := and_e ga1
  obtain ⟨gi2, ga3⟩ := and_e ga2
  obtain ⟨gi3, ga4⟩ := and_e ga3
  obtain ⟨w0, w1, w2, w3, w4, rfl⟩ : ∃ w0 w1 w2 w3 w4 : Value, args = #[w0, w1, w2, w3, w4] := by
    have hs : args.size = 5 := by simpa [Cond.value, given_1] using gc
    obtain ⟨L⟩ := args
    match L, hs with
    | [w0, w1, w2, w3, w4], _ => exact ⟨w0, w1, w2, w3, w4, rfl⟩
  have hw := fun d (hd : d ∈ tables_1) => atoms_spec (ws := Jvm.Cond.code x code maxLocals ret :: tables_1) hat d (List.mem_cons_of_mem _ hd)
  have hfit : Fit s := fun {y c} hc i hi => by
    obtain ⟨ha, rfl⟩ := Array.getElem?_eq_some_iff.mp hc
    have q := List.all_eq_true.mp ((Array.all_eq_true_iff_forall_mem.mp hF) _ (Array.getElem_mem ha)) i (List.mem_range.mpr hi)
    simpa [Array.getElem?_eq_getElem hi] using q
  obtain ⟨i0, ei0⟩ := isL_v gi0
  obtain rfl : w0 = (.long i0) := Option.some.inj ei0
  obtain ⟨i1, ei1⟩ := isL_v gi1
  obtain rfl : w1 = (.long i1) := Option.some.inj ei1
  obtain ⟨i2, ei2⟩ := isL_v gi2
  obtain rfl : w2 = (.long i2) := Option.some.inj ei2
  obtain ⟨i3, ei3⟩ := isL_v gi3
  obtain rfl : w3 = (.long i3) := Option.some.inj ei3
  obtain ⟨i4, ei4⟩ := is_v ga4
  obtain rfl : w4 = (.int i4) := Option.some.inj ei4
  obtain ⟨n, o, h1, h2, h3, _, L, rfl, ⟨rfl, N⟩, hq⟩ := own_rm0 l s _ hw tables_1 i0 i1 i2 i3 i4 s.heap s.heap.size (Nat.le_refl _)  p e ha hc hk s m _ below hf ((Spec.applies_iff_loose hf).mp happ).1 ⟨rfl, State.Warmed39.refl s, rfl⟩ trivial
  refine ⟨n, _, h1, h2, h3, hpost _ _ _ _ _ _ ⟨Cond.after_iff.mpr rfl, Cond.after_iff.mpr (eq_i res_at (Term.int_eval (1)) rfl), trivial⟩ ⟨hq.1, hq.2.1, (hq.2.2.sift fun y hy => Or.inr (N y hy)).mono (by decide) (by decide)⟩⟩
theorem main_1_1 : Claimed_1_1 := own_comes fun _ _ _ _ _ _ h hF => ⟨h.1, hF⟩
theorem main_1_2 : Claimed_1_2 := own_comes fun _ _ _ _ _ _ h hF => ⟨h.2.1, hF⟩
end Jvm.Pilot.@@N@@
namespace Jvm.Pilot.@@N@@
open Jvm Jvm.ClassFile Sem Op Lib Jvm.Free Jvm.Stand Jvm.Pilot.@@N@@.Jvm.D
/-! MADE BY PROGRAM (witnessworld.py) out of the Statement's table words and the real class files: 10 classes; the members and pool entries that the words name. The judged class is class 1, her method 3. -/
namespace start1
open Jvm.ClassFile
def u (s : String) : CpInfo := .utf8 (stringToUtf16 s)
/-- a pool by its gaps: so many unusable entries, then the entry; so many at the end -/
def gap : Nat → List CpInfo → List CpInfo
  | 0, r => r
  | n + 1, r => .unusable :: gap n r
def poolList (es : List (Nat × CpInfo)) (last : Nat) : List CpInfo := es.foldr (fun e r => gap e.1 (e.2 :: r)) (gap last [])
def pool (es : List (Nat × CpInfo)) (last : Nat) : Array CpInfo := ⟨poolList es last⟩
def fileOf (pool : Array CpInfo) (this : Nat) (attrs : Array Attribute := #[]) (ms : Array MethodInfo := #[]) (fl : Nat := 33) (sup : Nat := 0) (ifs : Array Nat := #[]) (fds : Array FieldInfo := #[]) : ClassFile where
  minorVersion := 0
  majorVersion := 65
  constantPool := pool
  accessFlags := fl
  thisClass := this
  superClass := sup
  interfaces := ifs
  fields := fds
  methods := ms
  attributes := attrs
def plain (name : String) (sup : Option ClassId) : Class where
  name := name
  kind := .ordinary
  loader := none
  accessFlags := 33
  super := sup
  interfaces := #[]
  cf := none
  fields := #[]
  methods := #[]
  instanceTypes := #[]
  staticTypes := #[]
  resolved := #[]
  callSites := []
  init := .initialized
  statics := none
  mirror := none

def pool0 : Array CpInfo := pool [(5, u "<init>"), (0, u "()V"), (1, .class_ 10), (1, u "java/lang/Object"), (85, u "clone"), (0, u "()Ljava/lang/Object;")] 26

def k0c0 : Code := { maxStack := 0, maxLocals := 1, code := object_method_1_code, exceptionTable := #[], attributes := #[] }
def k0m0 : Method := { name := "<init>", desc := "()V", sig := { parameters := [], returnType := none }, accessFlags := 1, code := some k0c0 }
def k0m1 : Method := { name := "clone", desc := "()Ljava/lang/Object;", sig := { parameters := [], returnType := some (.object "java/lang/Object") }, accessFlags := 260, code := none }
/-- java/lang/Object -/
def k0 : Class := { plain "java/lang/Object" none with
  accessFlags := 33
  interfaces := #[]
  cf := some (fileOf pool0 8 #[] #[{ accessFlags := 1, nameIndex := 5, descriptorIndex := 6, attributes := #[] }, { accessFlags := 260, nameIndex := 96, descriptorIndex := 97, attributes := #[] }] 33 0 #[] #[])
  fields := #[]
  methods := #[k0m0, k0m1]
  instanceTypes := #[]
  staticTypes := #[]
  resolved := Array.replicate 124 none
  statics := none }

def pool1 : Array CpInfo := pool [(2, .class_ 4), (1, u "java/lang/Object"), (0, u "<init>"), (0, u "()V"), (0, .long 255), (1, .methodref 10 11), (0, .class_ 12), (0, .nameAndType 13 14), (0, u "com/example/tessera/tessera/tokenhash/TokenHashFromBytesPinLaw"), (0, u "put"), (0, u "([BIJ)V"), (0, .methodref 16 17), (0, .class_ 18), (0, .nameAndType 19 20), (0, u "com/example/tessera/tessera/tokenhash/TokenHash"), (0, u "fromBytes"), (0, u "([B)Lcom/example/tessera/tessera/tokenhash/TokenHash;"), (0, .integer 2147483647), (0, .methodref 16 23), (0, .nameAndType 24 25), (0, u "bytes"), (0, u "()[B"), (0, .methodref 10 27), (0, .nameAndType 28 29), (0, u "get"), (0, u "([BI)J"), (2, u "law"), (0, u "(JJJJI)Z")] 5

def k1m0 : Method := { name := "<init>", desc := "()V", sig := { parameters := [], returnType := none }, accessFlags := 1, code := none }
def k1c1 : Code := { maxStack := 5, maxLocals := 4, code := method_2_code, exceptionTable := #[], attributes := #[] }
def k1m1 : Method := { name := "put", desc := "([BIJ)V", sig := { parameters := [(.array .byte), .int, .long], returnType := none }, accessFlags := 10, code := some k1c1 }
def k1c2 : Code := { maxStack := 6, maxLocals := 4, code := method_3_code, exceptionTable := #[], attributes := #[] }
def k1m2 : Method := { name := "get", desc := "([BI)J", sig := { parameters := [(.array .byte), .int], returnType := some .long }, accessFlags := 10, code := some k1c2 }
def k1c3 : Code := { maxStack := 4, maxLocals := 14, code := code, exceptionTable := #[], attributes := #[] }
def k1m3 : Method := { name := "law", desc := "(JJJJI)Z", sig := { parameters := [.long, .long, .long, .long, .int], returnType := some .boolean }, accessFlags := 9, code := some k1c3 }
/-- com/example/tessera/tessera/tokenhash/TokenHashFromBytesPinLaw -/
def k1 : Class := { plain "com/example/tessera/tessera/tokenhash/TokenHashFromBytesPinLaw" (some 0) with
  accessFlags := 49
  interfaces := #[]
  cf := some (fileOf pool1 10 #[] #[{ accessFlags := 1, nameIndex := 5, descriptorIndex := 6, attributes := #[] }, { accessFlags := 10, nameIndex := 13, descriptorIndex := 14, attributes := #[] }, { accessFlags := 10, nameIndex := 28, descriptorIndex := 29, attributes := #[] }, { accessFlags := 9, nameIndex := 32, descriptorIndex := 33, attributes := #[] }] 49 2 #[] #[])
  fields := #[]
  methods := #[k1m0, k1m1, k1m2, k1m3]
  instanceTypes := #[]
  staticTypes := #[]
  resolved := Array.replicate 39 none
  statics := none }

def pool2 : Array CpInfo := pool [(1, .class_ 2), (0, u "java/lang/Comparable"), (0, .class_ 4), (0, u "java/lang/Object")] 7

/-- java/lang/Comparable -/
def k2 : Class := { plain "java/lang/Comparable" (some 0) with
  accessFlags := 1537
  interfaces := #[]
  cf := some (fileOf pool2 1 #[] #[] 1537 3 #[] #[])
  fields := #[]
  methods := #[]
  instanceTypes := #[]
  staticTypes := #[]
  resolved := Array.replicate 12 none
  statics := none }

def pool3 : Array CpInfo := pool [(1, .methodref 2 3), (0, .class_ 4), (0, .nameAndType 5 6), (0, u "java/lang/Object"), (0, u "<init>"), (0, u "()V"), (0, .fieldref 8 9), (0, .class_ 10), (0, .nameAndType 11 12), (0, u "com/example/tessera/tessera/tokenhash/TokenHash"), (0, u "value"), (0, u "[B"), (2, u "TEXT_ENCODER"), (0, u "Ljava/util/Base64$Encoder;"), (49, .methodref 8 67), (0, .nameAndType 5 68), (0, u "([B)V"), (2, u "HEX"), (0, u "Ljava/util/regex/Pattern;"), (25, .methodref 99 100), (0, .class_ 12), (0, .nameAndType 101 102), (0, u "clone"), (0, u "()Ljava/lang/Object;"), (55, .class_ 159), (0, u "java/lang/Comparable"), (0, u "ALGORITHM"), (0, u "Ljava/lang/String;"), (3, u "SHA_256_SUITE"), (0, u "B"), (1, u "DIGEST_LENGTH"), (0, u "I"), (4, u "([B)Lcom/example/tessera/tessera/tokenhash/TokenHash;"), (2, u "fromBytes"), (0, u "bytes"), (0, u "()[B")] 12

def k3c0 : Code := { maxStack := 2, maxLocals := 2, code := prog_8_method_1_code, exceptionTable := #[], attributes := #[] }
def k3m0 : Method := { name := "<init>", desc := "([B)V", sig := { parameters := [(.array .byte)], returnType := none }, accessFlags := 2, code := some k3c0 }
def k3c1 : Code := { maxStack := 3, maxLocals := 1, code := prog_8_method_5_code, exceptionTable := #[], attributes := #[] }
def k3m1 : Method := { name := "fromBytes", desc := "([B)Lcom/example/tessera/tessera/tokenhash/TokenHash;", sig := { parameters := [(.array .byte)], returnType := some (.object "com/example/tessera/tessera/tokenhash/TokenHash") }, accessFlags := 9, code := some k3c1 }
def k3c2 : Code := { maxStack := 1, maxLocals := 1, code := prog_8_method_6_code, exceptionTable := #[], attributes := #[] }
def k3m2 : Method := { name := "bytes", desc := "()[B", sig := { parameters := [], returnType := some (.array .byte) }, accessFlags := 1, code := some k3c2 }
/-- com/example/tessera/tessera/tokenhash/TokenHash -/
def k3 : Class := { plain "com/example/tessera/tessera/tokenhash/TokenHash" (some 0) with
  accessFlags := 49
  interfaces := #[2]
  cf := some (fileOf pool3 8 #[] #[{ accessFlags := 2, nameIndex := 5, descriptorIndex := 68, attributes := #[] }, { accessFlags := 9, nameIndex := 177, descriptorIndex := 174, attributes := #[] }, { accessFlags := 1, nameIndex := 178, descriptorIndex := 179, attributes := #[] }] 49 2 #[158] #[{ accessFlags := 25, nameIndex := 160, descriptorIndex := 161, attributes := #[] }, { accessFlags := 26, nameIndex := 165, descriptorIndex := 166, attributes := #[] }, { accessFlags := 26, nameIndex := 168, descriptorIndex := 169, attributes := #[] }, { accessFlags := 26, nameIndex := 71, descriptorIndex := 72, attributes := #[] }, { accessFlags := 26, nameIndex := 15, descriptorIndex := 16, attributes := #[] }, { accessFlags := 18, nameIndex := 11, descriptorIndex := 12, attributes := #[] }])
  fields := #[{ name := "ALGORITHM", type := (.object "java/lang/String"), accessFlags := 25, slot := 0, constantValue := 0 }, { name := "SHA_256_SUITE", type := .byte, accessFlags := 26, slot := 1, constantValue := 0 }, { name := "DIGEST_LENGTH", type := .int, accessFlags := 26, slot := 2, constantValue := 0 }, { name := "HEX", type := (.object "java/util/regex/Pattern"), accessFlags := 26, slot := 3, constantValue := 0 }, { name := "TEXT_ENCODER", type := (.object "java/util/Base64$Encoder"), accessFlags := 26, slot := 4, constantValue := 0 }, { name := "value", type := (.array .byte), accessFlags := 18, slot := 0, constantValue := 0 }]
  methods := #[k3m0, k3m1, k3m2]
  instanceTypes := #[(.array .byte)]
  staticTypes := #[(.object "java/lang/String"), .byte, .int, (.object "java/util/regex/Pattern"), (.object "java/util/Base64$Encoder")]
  resolved := Array.replicate 192 none
  statics := none }

def pool4 : Array CpInfo := pool [(1, .class_ 2), (0, u "java/lang/Cloneable"), (0, .class_ 4), (0, u "java/lang/Object")] 2

/-- java/lang/Cloneable -/
def k4 : Class := { plain "java/lang/Cloneable" (some 0) with
  accessFlags := 1537
  interfaces := #[]
  cf := some (fileOf pool4 1 #[] #[] 1537 3 #[] #[])
  fields := #[]
  methods := #[]
  instanceTypes := #[]
  staticTypes := #[]
  resolved := Array.replicate 7 none
  statics := none }

def pool5 : Array CpInfo := pool [(1, u "java/io/Serializable"), (0, .class_ 1), (0, u "java/lang/Object"), (0, .class_ 3)] 3

/-- java/io/Serializable -/
def k5 : Class := { plain "java/io/Serializable" (some 0) with
  accessFlags := 1537
  interfaces := #[]
  cf := some (fileOf pool5 2 #[] #[] 1537 4 #[] #[])
  fields := #[]
  methods := #[]
  instanceTypes := #[]
  staticTypes := #[]
  resolved := Array.replicate 8 none
  statics := none }

/-- the primitive byte -/
def k6 : Class := { plain "byte" none with kind := .primitive 'B', accessFlags := 0x411 }
/-- [B -/
def k7 : Class := { plain "[B" (some 0) with kind := .array 6 .byte, interfaces := #[4, 5], accessFlags := 1041 }

/-- the primitive int -/
def k8 : Class := { plain "int" none with kind := .primitive 'I', accessFlags := 0x411 }
/-- [I -/
def k9 : Class := { plain "[I" (some 0) with kind := .array 8 .int, interfaces := #[4, 5], accessFlags := 1041 }

def heap : Heap := #[]
def classes : Array Class := #[k0, k1, k2, k3, k4, k5, k6, k7, k8, k9]
def interned : List (Array UInt16 × Addr) := []
def slotsUsed : Nat := 0
def theMethod : MethodId := ⟨1, 3⟩
def args0 : Array Value := #[.long 5, .long 7, .long 3, .long 1, .int 9]
def aboutOver (below : List Frame) : State where
  vm := { classes := classes, interned := interned.toArray }
  heap := heap
  slotsUsed := slotsUsed
  threads := #[{ frames := .invoking theMethod args0 :: below }]
def below0 : List Frame := [.native { method := ⟨0, 0⟩, args := #[] }]
def about1 : State := aboutOver below0
def p0 : Program := .bare "" "" ""
def e0 : Env := launch0.env 0 0 0
theorem w_frames : about1.frames = Frame.invoking theMethod args0 :: below0 := rfl
set_option maxRecDepth 65536 in
theorem w_args : argsFit about1.vm theMethod args0 = true := by decide +kernel
set_option maxRecDepth 65536 in
theorem w_heap : heapFits about1 = true := by decide +kernel
set_option maxRecDepth 65536 in
theorem w_runnable : about1.curStatus? = some .runnable := by decide +kernel
set_option maxRecDepth 65536 in
theorem w_alone : about1.alone = true := by decide +kernel
set_option maxRecDepth 65536 in
theorem w_named : about1.methodNamed? x = some theMethod := by decide +kernel
set_option maxRecDepth 65536 in
theorem w_hears : about1.hears theMethod below0 = true := by decide +kernel
set_option maxRecDepth 65536 in
theorem w_ripe : about1.ripe theMethod args0 below0 = true := by decide +kernel
theorem w_running : about1.status = .running := rfl
set_option maxRecDepth 65536 in
theorem w_room : about1.hasRoom e0.platform room_1 = true :=
  launch0.hasRoom_least _ room_1 (by decide +kernel) (by decide +kernel) (by decide +kernel) (by decide +kernel) (by decide +kernel) (by decide +kernel)
theorem allAtoms_all (ts : List Jvm.Cond) (a : Array Jvm.Value) (st : Jvm.State) : (allAtoms ts).before a st = ts.all (fun c => c.before a st) := by
  induction ts with
  | nil => rfl
  | cons c t ih =>
    show (Jvm.Cond.and c (allAtoms t)).before a st = _
    rw [Jvm.Cond.before_and, ih, List.all_cons]
def words1 : List Jvm.Cond := Jvm.Cond.code x code maxLocals ret :: tables_1
/-- a 'code' word, met by the world's own term for the bytes: nothing is compared byte by byte -/
theorem code_word {y : MethodName} {bytes : ByteArray} {mx : Nat} {rt : Option FieldType} {a : Array Value} {s : State} {m : MethodId} {meth : Method} {c : Code} (h1 : s.methodNamed? y = some m) (h2 : s.vm.method? m = some meth) (h3 : meth.code = some c) (h4 : c.code = bytes)
    (h5 : (c.maxLocals == mx && c.exceptionTable.isEmpty && decide (c.maxStack ≤ mostOperands) && decide (meth.sig.returnType = rt) && !meth.locks && decide (parseMethodDescriptor y.desc = some meth.sig)) = true) : (Jvm.Cond.code y bytes mx rt).before a s = true := by
  simp only [Bool.and_eq_true, beq_iff_eq, Bool.not_eq_true', decide_eq_true_eq] at h5
  obtain ⟨⟨⟨⟨⟨g1, g2⟩, g3⟩, g4⟩, g5⟩, g6⟩ := h5
  simp [Cond.before, Cond.holds, Cond.value, h1, h2, h3, h4, g1, g2, g3, g4, g5, g6]
def isCode : Jvm.Cond → Bool
  | .code _ _ _ _ => true
  | _ => false
theorem all_split {L : List Jvm.Cond} {P : Jvm.Cond → Bool} (h1 : L.all (fun c => isCode c || P c) = true) (h2 : ∀ c ∈ L.filter isCode, P c = true) : L.all P = true := by
  refine List.all_eq_true.mpr fun c hc => ?_
  have h := List.all_eq_true.mp h1 c hc
  rcases Bool.eq_false_or_eq_true (isCode c) with hi | hi
  · exact h2 c (List.mem_filter.mpr ⟨hc, hi⟩)
  · simpa [hi] using h
set_option maxRecDepth 65536 in
theorem w_c0 : (Jvm.Cond.code x code maxLocals ret).before args0 about1 = true := code_word (m := ⟨1, 3⟩) (meth := k1m3) (c := k1c3) (by decide +kernel) rfl rfl rfl (by decide +kernel)
set_option maxRecDepth 65536 in
theorem w_c1 : (Jvm.Cond.code ({ cls := "com/example/tessera/tessera/tokenhash/TokenHashFromBytesPinLaw", name := "put", desc := "([BIJ)V" } : Jvm.MethodName) method_2_code (4 : Nat) (Option.none : Option Jvm.ClassFile.FieldType)).before args0 about1 = true := code_word (m := ⟨1, 1⟩) (meth := k1m1) (c := k1c1) (by decide +kernel) rfl rfl rfl (by decide +kernel)
set_option maxRecDepth 65536 in
theorem w_c2 : (Jvm.Cond.code ({ cls := "com/example/tessera/tessera/tokenhash/TokenHash", name := "fromBytes", desc := "([B)Lcom/example/tessera/tessera/tokenhash/TokenHash;" } : Jvm.MethodName) prog_8_method_5_code (1 : Nat) (Option.some (Jvm.ClassFile.FieldType.object "com/example/tessera/tessera/tokenhash/TokenHash"))).before args0 about1 = true := code_word (m := ⟨3, 1⟩) (meth := k3m1) (c := k3c1) (by decide +kernel) rfl rfl rfl (by decide +kernel)
set_option maxRecDepth 65536 in
theorem w_c3 : (Jvm.Cond.code ({ cls := "com/example/tessera/tessera/tokenhash/TokenHash", name := "<init>", desc := "([B)V" } : Jvm.MethodName) prog_8_method_1_code (2 : Nat) (Option.none : Option Jvm.ClassFile.FieldType)).before args0 about1 = true := code_word (m := ⟨3, 0⟩) (meth := k3m0) (c := k3c0) (by decide +kernel) rfl rfl rfl (by decide +kernel)
set_option maxRecDepth 65536 in
theorem w_c4 : (Jvm.Cond.code ({ cls := "java/lang/Object", name := "<init>", desc := "()V" } : Jvm.MethodName) object_method_1_code (1 : Nat) (Option.none : Option Jvm.ClassFile.FieldType)).before args0 about1 = true := code_word (m := ⟨0, 0⟩) (meth := k0m0) (c := k0c0) (by decide +kernel) rfl rfl rfl (by decide +kernel)
set_option maxRecDepth 65536 in
theorem w_c5 : (Jvm.Cond.code ({ cls := "com/example/tessera/tessera/tokenhash/TokenHash", name := "bytes", desc := "()[B" } : Jvm.MethodName) prog_8_method_6_code (1 : Nat) (Option.some (Jvm.ClassFile.FieldType.array Jvm.ClassFile.FieldType.byte))).before args0 about1 = true := code_word (m := ⟨3, 2⟩) (meth := k3m2) (c := k3c2) (by decide +kernel) rfl rfl rfl (by decide +kernel)
set_option maxRecDepth 65536 in
theorem w_c6 : (Jvm.Cond.code ({ cls := "com/example/tessera/tessera/tokenhash/TokenHashFromBytesPinLaw", name := "get", desc := "([BI)J" } : Jvm.MethodName) method_3_code (4 : Nat) (Option.some Jvm.ClassFile.FieldType.long)).before args0 about1 = true := code_word (m := ⟨1, 2⟩) (meth := k1m2) (c := k1c2) (by decide +kernel) rfl rfl rfl (by decide +kernel)
def codes1 : List Jvm.Cond := [Jvm.Cond.code x code maxLocals ret, Jvm.Cond.code ({ cls := "com/example/tessera/tessera/tokenhash/TokenHashFromBytesPinLaw", name := "put", desc := "([BIJ)V" } : Jvm.MethodName) method_2_code (4 : Nat) (Option.none : Option Jvm.ClassFile.FieldType), Jvm.Cond.code ({ cls := "com/example/tessera/tessera/tokenhash/TokenHash", name := "fromBytes", desc := "([B)Lcom/example/tessera/tessera/tokenhash/TokenHash;" } : Jvm.MethodName) prog_8_method_5_code (1 : Nat) (Option.some (Jvm.ClassFile.FieldType.object "com/example/tessera/tessera/tokenhash/TokenHash")), Jvm.Cond.code ({ cls := "com/example/tessera/tessera/tokenhash/TokenHash", name := "<init>", desc := "([B)V" } : Jvm.MethodName) prog_8_method_1_code (2 : Nat) (Option.none : Option Jvm.ClassFile.FieldType), Jvm.Cond.code ({ cls := "java/lang/Object", name := "<init>", desc := "()V" } : Jvm.MethodName) object_method_1_code (1 : Nat) (Option.none : Option Jvm.ClassFile.FieldType), Jvm.Cond.code ({ cls := "com/example/tessera/tessera/tokenhash/TokenHash", name := "bytes", desc := "()[B" } : Jvm.MethodName) prog_8_method_6_code (1 : Nat) (Option.some (Jvm.ClassFile.FieldType.array Jvm.ClassFile.FieldType.byte)), Jvm.Cond.code ({ cls := "com/example/tessera/tessera/tokenhash/TokenHashFromBytesPinLaw", name := "get", desc := "([BI)J" } : Jvm.MethodName) method_3_code (4 : Nat) (Option.some Jvm.ClassFile.FieldType.long)]
set_option maxRecDepth 65536 in
theorem codes_eq : words1.filter isCode = codes1 := rfl
theorem w_codes : ∀ c ∈ words1.filter isCode, c.before args0 about1 = true := by
  rw [codes_eq]
  intro c hc
  simp only [codes1, List.mem_cons, List.not_mem_nil, or_false] at hc
  rcases hc with rfl | rfl | rfl | rfl | rfl | rfl | rfl
  · exact w_c0
  · exact w_c1
  · exact w_c2
  · exact w_c3
  · exact w_c4
  · exact w_c5
  · exact w_c6
set_option maxRecDepth 65536 in
theorem w_t1 : (words1.take 24).all (fun c => isCode c || c.before args0 about1) = true := by decide +kernel
set_option maxRecDepth 65536 in
theorem w_t2 : (words1.drop 24).all (fun c => isCode c || c.before args0 about1) = true := by decide +kernel
theorem w_tables : (allAtoms (Jvm.Cond.code x code maxLocals ret :: tables_1)).before args0 about1 = true := by
  rw [allAtoms_all]
  show words1.all (fun c => c.before args0 about1) = true
  refine all_split ?_ w_codes
  rw [← List.take_append_drop 24 words1, List.all_append, w_t1, w_t2]
  rfl
set_option maxRecDepth 65536 in
theorem w_case : (Jvm.Cond.and given_1 narrow_1).before args0 about1 = true := by decide +kernel
theorem w_applies : (headSpec (Jvm.Cond.code x code maxLocals ret :: tables_1) room_1).applies x e0.platform about1 = true :=
  (Spec.applies_iff w_frames).mpr ⟨w_running, w_runnable, w_alone, w_named, w_hears, w_ripe, w_room, w_tables⟩
theorem atStart : AtStart classFile x code maxLocals ret World_1 tables_1 room_1 Calls_1 rest_1 Pre_1 launch0 p0 e0 about1 theMethod args0 below0 :=
  ⟨lists_1, trivial, launch0.admits_env _ _ _, launch0.least_env, fairChoices_fair.cas, fairChoices_fair.clock, w_frames, w_args, w_heap, w_applies, trivial, trivial, w_case⟩
end start1
theorem witness_1 : WitnessClaimed_1 := ⟨start1.p0, start1.e0, start1.about1, start1.theMethod, start1.args0, start1.below0, start1.atStart⟩
end Jvm.Pilot.@@N@@
