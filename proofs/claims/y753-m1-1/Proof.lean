import JvmDerived
import JvmDerived.Pilot.@@N@@Statement
import JvmDerived.Pilot.@@N@@Code
set_option linter.unusedVariables false
set_option linter.unusedSimpArgs false
namespace Jvm.Pilot.@@N@@
open Jvm Jvm.ClassFile Sem Op Lib Jvm.Free Jvm.Stand Jvm.LawKit Jvm.RoadKit Bundle Jvm.Pilot.@@N@@.Jvm.D
/-! the goal that a walk carries along: from this state the run comes to the method's end, and Q holds there -/
def own_G (tb : Tables) (e : Env) (below : List Frame) (s : State) (Q : Option Value → Heap → List Loc → Prop) (kc ks : Nat) (st : State) : Prop :=
  ∃ u o, Steps tb e below st u ∧ u.status = .running ∧ Ended u below o ∧ ∃ v L, o = .returned v ∧ Q v u.heap L ∧ FrameEnd s o u L kc ks
theorem own_in {tb : Tables} {e : Env} {below : List Frame} {s : State} {Q : Option Value → Heap → List Loc → Prop} {kc ks : Nat} {st : State} (h : own_G tb e below s Q kc ks st) :
    ∃ u o, Steps tb e below st u ∧ u.status = .running ∧ Ended u below o ∧ ∃ v L, o = .returned v ∧ Q v u.heap L ∧ FrameEnd s o u L kc ks := h
theorem own_st {tb : Tables} {e : Env} {below : List Frame} {s : State} {Q : Option Value → Heap → List Loc → Prop} {kc ks : Nat} {a b : State} (k : ∀ t, Steps tb e below b t → Steps tb e below a t) (h : own_G tb e below s Q kc ks b) : own_G tb e below s Q kc ks a := by
  obtain ⟨u, o, h1, h2⟩ := h; exact ⟨u, o, k u h1, h2⟩
section OwnRet
variable {p : Program} {l : Launch} {e : Env} {R : Room} {s : State} {m : MethodId} {args : Array Value} {below : List Frame} {meth : Method} {c : Code} {T : State} {locs : List Loc} {cells slots : Nat} {Q : Option Value → Heap → List Loc → Prop} {kc ks : Nat} {pc : Nat} {Ls : Array Slot} {rest : List Value}
theorem own_ret (X : Stand p l e R s m args below meth c T locs cells slots) {v : Option Value} (hv : meth.sig.returnType = none → v = none) (hlk : meth.locks = false) (hc : cells ≤ kc) (hs : slots ≤ ks) (hQ : Q v T.heap locs) {st : State}
    (step : ∀ fs, (∀ (f : JFrame) (acts : List Action), f.method = m → f.locked = none → f.entered = [] → (doReturn e (T.setTop f) acts v).1 = T.setFrames fs) → Steps p.tables e below st (T.setFrames fs)) : own_G p.tables e below s Q kc ks st := by
  obtain ⟨fs, hr, hrun, hended, hW, hsame⟩ := X.leave (v := v) hv hlk
  exact ⟨_, _, step fs hr, hrun, hended, _, _, rfl, hQ, ⟨_, rfl⟩, hW, hsame.mono hc hs⟩
theorem own_retV (X : Stand p l e R s m args below meth c T locs cells slots) (hx : p.tables.exec = Jvm.exec) (hret : meth.sig.returnType = none) (hlk : meth.locks = false) (hd : decode c.code pc = .ok (.return_, 1)) (hc : cells ≤ kc) (hs : slots ≤ ks) (hQ : Q none T.heap locs) : own_G p.tables e below s Q kc ks (T.setTop (mkF m pc Ls [])) :=
  own_ret X (v := none) (fun _ => rfl) hlk hc hs hQ fun _ hr => X.returnOut hx hret hd hr
theorem own_retI {z : Int32} (X : Stand p l e R s m args below meth c T locs cells slots) (hx : p.tables.exec = Jvm.exec) (hret : meth.sig.returnType = some .int) (hlk : meth.locks = false) (hd : decode c.code pc = .ok (.ireturn, 1)) (hc : cells ≤ kc) (hs : slots ≤ ks) (hQ : Q (some (.int z)) T.heap locs) : own_G p.tables e below s Q kc ks (T.setTop (mkF m pc Ls (.int z :: rest))) :=
  own_ret X (v := some (.int z)) (fun h => by rw [hret] at h; cases h) hlk hc hs hQ fun _ hr => retOut X hx hret rfl (Or.inl ⟨rfl, Or.inl rfl, z, rfl⟩) hd hr
theorem own_retJ {z : Int64} (X : Stand p l e R s m args below meth c T locs cells slots) (hx : p.tables.exec = Jvm.exec) (hret : meth.sig.returnType = some .long) (hlk : meth.locks = false) (hd : decode c.code pc = .ok (.lreturn, 1)) (hc : cells ≤ kc) (hs : slots ≤ ks) (hQ : Q (some (.long z)) T.heap locs) : own_G p.tables e below s Q kc ks (T.setTop (mkF m pc Ls (.long z :: rest))) :=
  own_ret X (v := some (.long z)) (fun h => by rw [hret] at h; cases h) hlk hc hs hQ fun _ hr => retOut X hx hret rfl (Or.inr (Or.inl ⟨rfl, rfl, z, rfl⟩)) hd hr
theorem own_retA {ft : FieldType} {w : Value} (ht : ft.isReference = true) (hw : w.isRef = true) (X : Stand p l e R s m args below meth c T locs cells slots) (hx : p.tables.exec = Jvm.exec) (hret : meth.sig.returnType = some ft) (hlk : meth.locks = false) (hd : decode c.code pc = .ok (.areturn, 1)) (hc : cells ≤ kc) (hs : slots ≤ ks) (hQ : Q (some w) T.heap locs) : own_G p.tables e below s Q kc ks (T.setTop (mkF m pc Ls (w :: rest))) :=
  own_ret X (v := some w) (fun h => by rw [hret] at h; cases h) hlk hc hs hQ fun _ hr => retOut X hx hret (by cases ft <;> first | (cases ht; done) | (cases w <;> first | rfl | cases hw)) (Or.inr (Or.inr (Or.inr (Or.inr ⟨rfl, ht, hw⟩)))) hd hr
theorem own_retN {t : FieldType} {z : Int32} (ht : t = .boolean ∨ t = .byte ∨ t = .char ∨ t = .short) (X : Stand p l e R s m args below meth c T locs cells slots) (hx : p.tables.exec = Jvm.exec) (hret : meth.sig.returnType = some t) (hlk : meth.locks = false) (hd : decode c.code pc = .ok (.ireturn, 1)) (hc : cells ≤ kc) (hs : slots ≤ ks) (hQ : Q (some (.int (nar t z))) T.heap locs) : own_G p.tables e below s Q kc ks (T.setTop (mkF m pc Ls (.int z :: rest))) :=
  own_ret X (v := some (.int (nar t z))) (fun h => by rw [hret] at h; cases h) hlk hc hs hQ fun _ hr => retN X hx hret ht hd hr
end OwnRet
def own_b (P : Prop) [Decidable P] : Int32 := if P then 1 else 0
theorem own_bT {P : Prop} [Decidable P] (h : P) : some (Value.int (nar .boolean (1 : Int32))) = some (Value.int (own_b P)) := by rw [own_b, if_pos h]; rfl
theorem own_bF {P : Prop} [Decidable P] (h : ¬ P) : some (Value.int (nar .boolean (0 : Int32))) = some (Value.int (own_b P)) := by rw [own_b, if_neg h]; rfl
theorem own_bEq {P P' : Prop} [Decidable P] [Decidable P'] (h : P ↔ P') : own_b P = own_b P' := by simp only [own_b, h]
/-- a body that writes nothing: what it returns, the heap as it was -/
def own_Qp (r : Option Value) (h0 : Heap) (n0 : Nat) (v : Option Value) (h : Heap) (L : List Loc) : Prop := v = r ∧ Fr n0 L ∧ h = h0
/-- the law's own end: it returns 1, nothing old is written -/
def own_Q0 (n0 : Nat) (v : Option Value) (h : Heap) (L : List Loc) : Prop := v = some (.int 1) ∧ Fr n0 L
theorem own_ord {s : State} {args : Array Value} {t : Term} {a : Addr} {C n d : String} {k : Int32} (ev : t.eval args s none [] s = some (.ref a)) (h : (Jvm.Cond.eq (Term.field t C n d) (Term.int k)).value args s none s [] = some true) : Fld s s.heap a C n d (.int k) := by
  obtain ⟨x, y, e1, e2, -, k2⟩ := cmp_v (Or.inl h)
  obtain rfl : Value.int k = y := Option.some.inj e2
  obtain ⟨z, rfl⟩ := k2
  have q : z = k := by simpa [Jvm.Cond.value, e1, e2] using h
  subst q
  exact Fld.start ((fld_at ev).symm.trans e1)
theorem own_len {s : State} {args : Array Value} {t : Term} {a : Addr} {c : Cell} {ty : FieldType} {n : Int32} (ev : t.eval args s none [] s = some (.ref a)) (A : Arr s s.heap a c ty) (h : (Jvm.Cond.eq (Term.length t) (Term.int n)).value args s none s [] = some true) : c.slots.size < 2 ^ 31 ∧ c.slots.size.toInt32 = n := by
  have q := eqv_i (Term.int_eval n) h
  have f := A.fin (Vm.Alike.refl _)
  have z : c.slots.size < 2147483648 ∧ c.slots.size.toInt32 = n := by simpa [Term.eval, ev, f] using q
  exact z
theorem own_eqr {s : State} {args : Array Value} {X F : Term} {y : Addr} (hF : F.eval args s none [] s = some (.ref y)) (h : (Jvm.Cond.eq X F).value args s none s [] = some true) : X.eval args s none [] s = some (.ref y) := by
  obtain ⟨x, y', e1, e2, k1, k2⟩ := cmp_v (Or.inl h)
  cases hF.symm.trans e2
  have hx : x.isRef = true := k2.2
  have q := gotT (eq_R e1 hF hx rfl) h
  rw [q] at e1; exact e1
theorem own_el {s : State} {args : Array Value} {t : Term} {a : Addr} {c : Cell} {ty : FieldType} {j : Int32} {v : Value} (ev : t.eval args s none [] s = some (.ref a)) (A : Arr s s.heap a c ty) (h : (Term.elem t (Term.int j)).eval args s none [] s = some v) : c.slots[j.toNatClampNeg]? = some v := (elem_in h ev (Term.int_eval j) A.1).2
theorem own_nea {Z : State} {h : Heap} {a b : Addr} {C : String} {a0 : Array Value} {k : Nat} {kc : ClassId} {ty : FieldType} {z : Int32} {vs : List Value} {d : Value} (F : Exa Z h a C) (wi : (Jvm.Cond.instantiable C k).before a0 Z = true) (V : Arv Z h b kc ty z vs d) : a ≠ b := by
  obtain ⟨c, A, -⟩ := V; exact ne_arr F wi A
abbrev own_ten (c : Int32) : Prop := c = 48 ∨ c = 49 ∨ c = 50 ∨ c = 51 ∨ c = 52 ∨ c = 53 ∨ c = 54 ∨ c = 55 ∨ c = 56 ∨ c = 57
abbrev own_dig (c : Int32) : Prop := ¬ c < 48 ∧ ¬ 57 < c
theorem own_same (c : Int32) : own_dig c ↔ own_ten c := by
  have k : ∀ n : Int32, c = n ↔ c.toInt = n.toInt := fun n => Int32.toInt_inj.symm
  simp only [own_dig, own_ten, k, Int32.lt_iff_toInt_lt, show (48 : Int32).toInt = 48 from by decide, show (49 : Int32).toInt = 49 from by decide, show (50 : Int32).toInt = 50 from by decide, show (51 : Int32).toInt = 51 from by decide, show (52 : Int32).toInt = 52 from by decide, show (53 : Int32).toInt = 53 from by decide, show (54 : Int32).toInt = 54 from by decide, show (55 : Int32).toInt = 55 from by decide, show (56 : Int32).toInt = 56 from by decide, show (57 : Int32).toInt = 57 from by decide]
  omega
theorem own_pn0 : plainName "com/example/tariffline/tariffline/tariff/CommodityCodeIsAsciiDigitPinLaw" = true := by first | (simp [plainName, overriddenIn]; done) | decide +kernel
theorem own_d1_0 : decode method_2_code 0 = .ok (.iload_n 0, 1) := by decide +kernel
theorem own_d1_1 : decode method_2_code 1 = .ok (.bipush 48, 2) := by decide +kernel
theorem own_d1_3 : decode method_2_code 3 = .ok (.if_icmp .eq 57, 3) := by decide +kernel
theorem own_d1_6 : decode method_2_code 6 = .ok (.iload_n 0, 1) := by decide +kernel
theorem own_d1_7 : decode method_2_code 7 = .ok (.bipush 49, 2) := by decide +kernel
theorem own_d1_9 : decode method_2_code 9 = .ok (.if_icmp .eq 51, 3) := by decide +kernel
theorem own_d1_12 : decode method_2_code 12 = .ok (.iload_n 0, 1) := by decide +kernel
theorem own_d1_13 : decode method_2_code 13 = .ok (.bipush 50, 2) := by decide +kernel
theorem own_d1_15 : decode method_2_code 15 = .ok (.if_icmp .eq 45, 3) := by decide +kernel
theorem own_d1_18 : decode method_2_code 18 = .ok (.iload_n 0, 1) := by decide +kernel
theorem own_d1_19 : decode method_2_code 19 = .ok (.bipush 51, 2) := by decide +kernel
theorem own_d1_21 : decode method_2_code 21 = .ok (.if_icmp .eq 39, 3) := by decide +kernel
theorem own_d1_24 : decode method_2_code 24 = .ok (.iload_n 0, 1) := by decide +kernel
theorem own_d1_25 : decode method_2_code 25 = .ok (.bipush 52, 2) := by decide +kernel
theorem own_d1_27 : decode method_2_code 27 = .ok (.if_icmp .eq 33, 3) := by decide +kernel
theorem own_d1_30 : decode method_2_code 30 = .ok (.iload_n 0, 1) := by decide +kernel
theorem own_d1_31 : decode method_2_code 31 = .ok (.bipush 53, 2) := by decide +kernel
theorem own_d1_33 : decode method_2_code 33 = .ok (.if_icmp .eq 27, 3) := by decide +kernel
theorem own_d1_36 : decode method_2_code 36 = .ok (.iload_n 0, 1) := by decide +kernel
theorem own_d1_37 : decode method_2_code 37 = .ok (.bipush 54, 2) := by decide +kernel
theorem own_d1_39 : decode method_2_code 39 = .ok (.if_icmp .eq 21, 3) := by decide +kernel
theorem own_d1_42 : decode method_2_code 42 = .ok (.iload_n 0, 1) := by decide +kernel
theorem own_d1_43 : decode method_2_code 43 = .ok (.bipush 55, 2) := by decide +kernel
theorem own_d1_45 : decode method_2_code 45 = .ok (.if_icmp .eq 15, 3) := by decide +kernel
theorem own_d1_48 : decode method_2_code 48 = .ok (.iload_n 0, 1) := by decide +kernel
theorem own_d1_49 : decode method_2_code 49 = .ok (.bipush 56, 2) := by decide +kernel
theorem own_d1_51 : decode method_2_code 51 = .ok (.if_icmp .eq 9, 3) := by decide +kernel
theorem own_d1_54 : decode method_2_code 54 = .ok (.iload_n 0, 1) := by decide +kernel
theorem own_d1_55 : decode method_2_code 55 = .ok (.bipush 57, 2) := by decide +kernel
theorem own_d1_57 : decode method_2_code 57 = .ok (.if_icmp .ne 7, 3) := by decide +kernel
theorem own_d1_60 : decode method_2_code 60 = .ok (.iconst 1, 1) := by decide +kernel
theorem own_d1_61 : decode method_2_code 61 = .ok (.goto 4, 3) := by decide +kernel
theorem own_d1_64 : decode method_2_code 64 = .ok (.iconst 0, 1) := by decide +kernel
theorem own_d1_65 : decode method_2_code 65 = .ok (.ireturn, 1) := by decide +kernel
theorem own_ef1 (m : MethodId) (p1 : Int32) : entryFrame m #[(.int p1)] 1 = mkF m 0 #[.val (.int p1)] [] := by first | (simp [entryFrame, mkF, argsToLocals, Value.category]; done) | rfl
set_option maxRecDepth 65536 in
set_option maxHeartbeats 40000000 in
theorem own_rm1 (l : Launch) (Z : State) (a0 : Array Value) (hw : ∀ d ∈ tables_1, d.before a0 Z = true) (ws : List Jvm.Cond) (p1 : Int32) (h0 : Heap) (n0 : Nat) (Z0 : n0 ≤ h0.size)  :
    MetFree l (⟨"com/example/tariffline/tariffline/tariff/CommodityCodeIsAsciiDigitPinLaw", "oneOfTheTen", "(C)Z"⟩ : MethodName) (head1 (Jvm.Cond.code (⟨"com/example/tariffline/tariffline/tariff/CommodityCodeIsAsciiDigitPinLaw", "oneOfTheTen", "(C)Z"⟩ : MethodName) method_2_code 1 (some .boolean) :: ws) ({ frames := 0, cells := 0, slots := 0, locals := 0 } : Room)) (fun a U => a = #[(.int p1)] ∧ Z.Warmed39 U.vm ∧ U.heap = h0) (fun _ _ _ _ _ => True) (fun _ U o U' => ∃ v L, o = .returned v ∧ own_Qp (some (.int (own_b (own_ten p1)))) h0 n0 v U'.heap L ∧ FrameEnd U o U' L ({ frames := 0, cells := 0, slots := 0, locals := 0 } : Room).cells ({ frames := 0, cells := 0, slots := 0, locals := 0 } : Room).slots) := by
  refine MetFree.of_bodySF (plainFor_of_name own_pn0) hisR ?_
  intro p e s m args below meth c s₁ Bd hml0 hP hK
  obtain ⟨rfl, hZ, hh⟩ := hP
  have hx := Bd.exec
  have hby := Bd.bytes
  have hml : c.maxLocals = 1 := hml0
  have hown : s.vm.findClass "com/example/tariffline/tariffline/tariff/CommodityCodeIsAsciiDigitPinLaw" = some m.cls := findClass_of_methodNamed Bd.named
  have hnm := (name_of_methodNamed Bd.named Bd.method).1
  have X0 : Stand p l e ({ frames := 0, cells := 0, slots := 0, locals := 0 } : Room) s m #[(.int p1)] below meth c s₁ [] 0 0 := Stand.of_body Bd
  have e0 : s₁.heap = h0 := by rw [← hh, Bd.state]; rfl
  have N0 := Fr.nil n0
  refine own_in (Q := own_Qp (some (.int (own_b (own_ten p1)))) h0 n0) ?_
  rw [own_ef1]
  show own_G _ _ _ _ _ _ _ (s₁.setTop (mkF m 0 #[.val (.int p1)] []))
  refine own_st (fun t k => XS.iloadN X0.here hx rfl (hb hby own_d1_0) rfl k) ?_
  show own_G _ _ _ _ _ _ _ (s₁.setTop (mkF m 1 #[.val (.int p1)] [(.int p1)]))
  refine own_st (fun t k => XS.bipush X0.here hx rfl (hb hby own_d1_1) k) ?_
  show own_G _ _ _ _ _ _ _ (s₁.setTop (mkF m 3 #[.val (.int p1)] [(.int (48 : Int32)), (.int p1)]))
  by_cases hc0 : p1 = (48 : Int32)
  · refine own_st (fun t k => XS.icmpYes X0.here hx rfl (pc0 := 3) (pc' := 60) rfl (hb hby own_d1_3) rfl (teq hc0).1 (by decide) (by decide) k) ?_
    show own_G _ _ _ _ _ _ _ (s₁.setTop (mkF m 60 #[.val (.int p1)] []))
    refine own_st (fun t k => XS.iconst X0.here hx rfl (hb hby own_d1_60) k) ?_
    show own_G _ _ _ _ _ _ _ (s₁.setTop (mkF m 61 #[.val (.int p1)] [(.int (1 : Int32))]))
    refine own_st (fun t k => XS.goto X0.here hx rfl (pc0 := 61) (pc' := 65) rfl (hb hby own_d1_61) (by decide) (by decide) k) ?_
    show own_G _ _ _ _ _ _ _ (s₁.setTop (mkF m 65 #[.val (.int p1)] [(.int (1 : Int32))]))
    exact own_retN (t := .boolean) (by simp) X0 hx Bd.returns (BodyLoose.notSynchronized Bd) (hb hby own_d1_65) (by decide) (by decide) ⟨own_bT (by simp [own_ten, hc0]), N0, e0⟩
  · refine own_st (fun t k => XS.icmpNo X0.here hx rfl (hb hby own_d1_3) rfl (feq hc0).1 k) ?_
    show own_G _ _ _ _ _ _ _ (s₁.setTop (mkF m 6 #[.val (.int p1)] []))
    refine own_st (fun t k => XS.iloadN X0.here hx rfl (hb hby own_d1_6) rfl k) ?_
    show own_G _ _ _ _ _ _ _ (s₁.setTop (mkF m 7 #[.val (.int p1)] [(.int p1)]))
    refine own_st (fun t k => XS.bipush X0.here hx rfl (hb hby own_d1_7) k) ?_
    show own_G _ _ _ _ _ _ _ (s₁.setTop (mkF m 9 #[.val (.int p1)] [(.int (49 : Int32)), (.int p1)]))
    by_cases hc1 : p1 = (49 : Int32)
    · refine own_st (fun t k => XS.icmpYes X0.here hx rfl (pc0 := 9) (pc' := 60) rfl (hb hby own_d1_9) rfl (teq hc1).1 (by decide) (by decide) k) ?_
      show own_G _ _ _ _ _ _ _ (s₁.setTop (mkF m 60 #[.val (.int p1)] []))
      refine own_st (fun t k => XS.iconst X0.here hx rfl (hb hby own_d1_60) k) ?_
      show own_G _ _ _ _ _ _ _ (s₁.setTop (mkF m 61 #[.val (.int p1)] [(.int (1 : Int32))]))
      refine own_st (fun t k => XS.goto X0.here hx rfl (pc0 := 61) (pc' := 65) rfl (hb hby own_d1_61) (by decide) (by decide) k) ?_
      show own_G _ _ _ _ _ _ _ (s₁.setTop (mkF m 65 #[.val (.int p1)] [(.int (1 : Int32))]))
      exact own_retN (t := .boolean) (by simp) X0 hx Bd.returns (BodyLoose.notSynchronized Bd) (hb hby own_d1_65) (by decide) (by decide) ⟨own_bT (by simp [own_ten, hc1]), N0, e0⟩
    · refine own_st (fun t k => XS.icmpNo X0.here hx rfl (hb hby own_d1_9) rfl (feq hc1).1 k) ?_
      show own_G _ _ _ _ _ _ _ (s₁.setTop (mkF m 12 #[.val (.int p1)] []))
      refine own_st (fun t k => XS.iloadN X0.here hx rfl (hb hby own_d1_12) rfl k) ?_
      show own_G _ _ _ _ _ _ _ (s₁.setTop (mkF m 13 #[.val (.int p1)] [(.int p1)]))
      refine own_st (fun t k => XS.bipush X0.here hx rfl (hb hby own_d1_13) k) ?_
      show own_G _ _ _ _ _ _ _ (s₁.setTop (mkF m 15 #[.val (.int p1)] [(.int (50 : Int32)), (.int p1)]))
      by_cases hc2 : p1 = (50 : Int32)
      · refine own_st (fun t k => XS.icmpYes X0.here hx rfl (pc0 := 15) (pc' := 60) rfl (hb hby own_d1_15) rfl (teq hc2).1 (by decide) (by decide) k) ?_
        show own_G _ _ _ _ _ _ _ (s₁.setTop (mkF m 60 #[.val (.int p1)] []))
        refine own_st (fun t k => XS.iconst X0.here hx rfl (hb hby own_d1_60) k) ?_
        show own_G _ _ _ _ _ _ _ (s₁.setTop (mkF m 61 #[.val (.int p1)] [(.int (1 : Int32))]))
        refine own_st (fun t k => XS.goto X0.here hx rfl (pc0 := 61) (pc' := 65) rfl (hb hby own_d1_61) (by decide) (by decide) k) ?_
        show own_G _ _ _ _ _ _ _ (s₁.setTop (mkF m 65 #[.val (.int p1)] [(.int (1 : Int32))]))
        exact own_retN (t := .boolean) (by simp) X0 hx Bd.returns (BodyLoose.notSynchronized Bd) (hb hby own_d1_65) (by decide) (by decide) ⟨own_bT (by simp [own_ten, hc2]), N0, e0⟩
      · refine own_st (fun t k => XS.icmpNo X0.here hx rfl (hb hby own_d1_15) rfl (feq hc2).1 k) ?_
        show own_G _ _ _ _ _ _ _ (s₁.setTop (mkF m 18 #[.val (.int p1)] []))
        refine own_st (fun t k => XS.iloadN X0.here hx rfl (hb hby own_d1_18) rfl k) ?_
        show own_G _ _ _ _ _ _ _ (s₁.setTop (mkF m 19 #[.val (.int p1)] [(.int p1)]))
        refine own_st (fun t k => XS.bipush X0.here hx rfl (hb hby own_d1_19) k) ?_
        show own_G _ _ _ _ _ _ _ (s₁.setTop (mkF m 21 #[.val (.int p1)] [(.int (51 : Int32)), (.int p1)]))
        by_cases hc3 : p1 = (51 : Int32)
        · refine own_st (fun t k => XS.icmpYes X0.here hx rfl (pc0 := 21) (pc' := 60) rfl (hb hby own_d1_21) rfl (teq hc3).1 (by decide) (by decide) k) ?_
          show own_G _ _ _ _ _ _ _ (s₁.setTop (mkF m 60 #[.val (.int p1)] []))
          refine own_st (fun t k => XS.iconst X0.here hx rfl (hb hby own_d1_60) k) ?_
          show own_G _ _ _ _ _ _ _ (s₁.setTop (mkF m 61 #[.val (.int p1)] [(.int (1 : Int32))]))
          refine own_st (fun t k => XS.goto X0.here hx rfl (pc0 := 61) (pc' := 65) rfl (hb hby own_d1_61) (by decide) (by decide) k) ?_
          show own_G _ _ _ _ _ _ _ (s₁.setTop (mkF m 65 #[.val (.int p1)] [(.int (1 : Int32))]))
          exact own_retN (t := .boolean) (by simp) X0 hx Bd.returns (BodyLoose.notSynchronized Bd) (hb hby own_d1_65) (by decide) (by decide) ⟨own_bT (by simp [own_ten, hc3]), N0, e0⟩
        · refine own_st (fun t k => XS.icmpNo X0.here hx rfl (hb hby own_d1_21) rfl (feq hc3).1 k) ?_
          show own_G _ _ _ _ _ _ _ (s₁.setTop (mkF m 24 #[.val (.int p1)] []))
          refine own_st (fun t k => XS.iloadN X0.here hx rfl (hb hby own_d1_24) rfl k) ?_
          show own_G _ _ _ _ _ _ _ (s₁.setTop (mkF m 25 #[.val (.int p1)] [(.int p1)]))
          refine own_st (fun t k => XS.bipush X0.here hx rfl (hb hby own_d1_25) k) ?_
          show own_G _ _ _ _ _ _ _ (s₁.setTop (mkF m 27 #[.val (.int p1)] [(.int (52 : Int32)), (.int p1)]))
          by_cases hc4 : p1 = (52 : Int32)
          · refine own_st (fun t k => XS.icmpYes X0.here hx rfl (pc0 := 27) (pc' := 60) rfl (hb hby own_d1_27) rfl (teq hc4).1 (by decide) (by decide) k) ?_
            show own_G _ _ _ _ _ _ _ (s₁.setTop (mkF m 60 #[.val (.int p1)] []))
            refine own_st (fun t k => XS.iconst X0.here hx rfl (hb hby own_d1_60) k) ?_
            show own_G _ _ _ _ _ _ _ (s₁.setTop (mkF m 61 #[.val (.int p1)] [(.int (1 : Int32))]))
            refine own_st (fun t k => XS.goto X0.here hx rfl (pc0 := 61) (pc' := 65) rfl (hb hby own_d1_61) (by decide) (by decide) k) ?_
            show own_G _ _ _ _ _ _ _ (s₁.setTop (mkF m 65 #[.val (.int p1)] [(.int (1 : Int32))]))
            exact own_retN (t := .boolean) (by simp) X0 hx Bd.returns (BodyLoose.notSynchronized Bd) (hb hby own_d1_65) (by decide) (by decide) ⟨own_bT (by simp [own_ten, hc4]), N0, e0⟩
          · refine own_st (fun t k => XS.icmpNo X0.here hx rfl (hb hby own_d1_27) rfl (feq hc4).1 k) ?_
            show own_G _ _ _ _ _ _ _ (s₁.setTop (mkF m 30 #[.val (.int p1)] []))
            refine own_st (fun t k => XS.iloadN X0.here hx rfl (hb hby own_d1_30) rfl k) ?_
            show own_G _ _ _ _ _ _ _ (s₁.setTop (mkF m 31 #[.val (.int p1)] [(.int p1)]))
            refine own_st (fun t k => XS.bipush X0.here hx rfl (hb hby own_d1_31) k) ?_
            show own_G _ _ _ _ _ _ _ (s₁.setTop (mkF m 33 #[.val (.int p1)] [(.int (53 : Int32)), (.int p1)]))
            by_cases hc5 : p1 = (53 : Int32)
            · refine own_st (fun t k => XS.icmpYes X0.here hx rfl (pc0 := 33) (pc' := 60) rfl (hb hby own_d1_33) rfl (teq hc5).1 (by decide) (by decide) k) ?_
              show own_G _ _ _ _ _ _ _ (s₁.setTop (mkF m 60 #[.val (.int p1)] []))
              refine own_st (fun t k => XS.iconst X0.here hx rfl (hb hby own_d1_60) k) ?_
              show own_G _ _ _ _ _ _ _ (s₁.setTop (mkF m 61 #[.val (.int p1)] [(.int (1 : Int32))]))
              refine own_st (fun t k => XS.goto X0.here hx rfl (pc0 := 61) (pc' := 65) rfl (hb hby own_d1_61) (by decide) (by decide) k) ?_
              show own_G _ _ _ _ _ _ _ (s₁.setTop (mkF m 65 #[.val (.int p1)] [(.int (1 : Int32))]))
              exact own_retN (t := .boolean) (by simp) X0 hx Bd.returns (BodyLoose.notSynchronized Bd) (hb hby own_d1_65) (by decide) (by decide) ⟨own_bT (by simp [own_ten, hc5]), N0, e0⟩
            · refine own_st (fun t k => XS.icmpNo X0.here hx rfl (hb hby own_d1_33) rfl (feq hc5).1 k) ?_
              show own_G _ _ _ _ _ _ _ (s₁.setTop (mkF m 36 #[.val (.int p1)] []))
              refine own_st (fun t k => XS.iloadN X0.here hx rfl (hb hby own_d1_36) rfl k) ?_
              show own_G _ _ _ _ _ _ _ (s₁.setTop (mkF m 37 #[.val (.int p1)] [(.int p1)]))
              refine own_st (fun t k => XS.bipush X0.here hx rfl (hb hby own_d1_37) k) ?_
              show own_G _ _ _ _ _ _ _ (s₁.setTop (mkF m 39 #[.val (.int p1)] [(.int (54 : Int32)), (.int p1)]))
              by_cases hc6 : p1 = (54 : Int32)
              · refine own_st (fun t k => XS.icmpYes X0.here hx rfl (pc0 := 39) (pc' := 60) rfl (hb hby own_d1_39) rfl (teq hc6).1 (by decide) (by decide) k) ?_
                show own_G _ _ _ _ _ _ _ (s₁.setTop (mkF m 60 #[.val (.int p1)] []))
                refine own_st (fun t k => XS.iconst X0.here hx rfl (hb hby own_d1_60) k) ?_
                show own_G _ _ _ _ _ _ _ (s₁.setTop (mkF m 61 #[.val (.int p1)] [(.int (1 : Int32))]))
                refine own_st (fun t k => XS.goto X0.here hx rfl (pc0 := 61) (pc' := 65) rfl (hb hby own_d1_61) (by decide) (by decide) k) ?_
                show own_G _ _ _ _ _ _ _ (s₁.setTop (mkF m 65 #[.val (.int p1)] [(.int (1 : Int32))]))
                exact own_retN (t := .boolean) (by simp) X0 hx Bd.returns (BodyLoose.notSynchronized Bd) (hb hby own_d1_65) (by decide) (by decide) ⟨own_bT (by simp [own_ten, hc6]), N0, e0⟩
              · refine own_st (fun t k => XS.icmpNo X0.here hx rfl (hb hby own_d1_39) rfl (feq hc6).1 k) ?_
                show own_G _ _ _ _ _ _ _ (s₁.setTop (mkF m 42 #[.val (.int p1)] []))
                refine own_st (fun t k => XS.iloadN X0.here hx rfl (hb hby own_d1_42) rfl k) ?_
                show own_G _ _ _ _ _ _ _ (s₁.setTop (mkF m 43 #[.val (.int p1)] [(.int p1)]))
                refine own_st (fun t k => XS.bipush X0.here hx rfl (hb hby own_d1_43) k) ?_
                show own_G _ _ _ _ _ _ _ (s₁.setTop (mkF m 45 #[.val (.int p1)] [(.int (55 : Int32)), (.int p1)]))
                by_cases hc7 : p1 = (55 : Int32)
                · refine own_st (fun t k => XS.icmpYes X0.here hx rfl (pc0 := 45) (pc' := 60) rfl (hb hby own_d1_45) rfl (teq hc7).1 (by decide) (by decide) k) ?_
                  show own_G _ _ _ _ _ _ _ (s₁.setTop (mkF m 60 #[.val (.int p1)] []))
                  refine own_st (fun t k => XS.iconst X0.here hx rfl (hb hby own_d1_60) k) ?_
                  show own_G _ _ _ _ _ _ _ (s₁.setTop (mkF m 61 #[.val (.int p1)] [(.int (1 : Int32))]))
                  refine own_st (fun t k => XS.goto X0.here hx rfl (pc0 := 61) (pc' := 65) rfl (hb hby own_d1_61) (by decide) (by decide) k) ?_
                  show own_G _ _ _ _ _ _ _ (s₁.setTop (mkF m 65 #[.val (.int p1)] [(.int (1 : Int32))]))
                  exact own_retN (t := .boolean) (by simp) X0 hx Bd.returns (BodyLoose.notSynchronized Bd) (hb hby own_d1_65) (by decide) (by decide) ⟨own_bT (by simp [own_ten, hc7]), N0, e0⟩
                · refine own_st (fun t k => XS.icmpNo X0.here hx rfl (hb hby own_d1_45) rfl (feq hc7).1 k) ?_
                  show own_G _ _ _ _ _ _ _ (s₁.setTop (mkF m 48 #[.val (.int p1)] []))
                  refine own_st (fun t k => XS.iloadN X0.here hx rfl (hb hby own_d1_48) rfl k) ?_
                  show own_G _ _ _ _ _ _ _ (s₁.setTop (mkF m 49 #[.val (.int p1)] [(.int p1)]))
                  refine own_st (fun t k => XS.bipush X0.here hx rfl (hb hby own_d1_49) k) ?_
                  show own_G _ _ _ _ _ _ _ (s₁.setTop (mkF m 51 #[.val (.int p1)] [(.int (56 : Int32)), (.int p1)]))
                  by_cases hc8 : p1 = (56 : Int32)
                  · refine own_st (fun t k => XS.icmpYes X0.here hx rfl (pc0 := 51) (pc' := 60) rfl (hb hby own_d1_51) rfl (teq hc8).1 (by decide) (by decide) k) ?_
                    show own_G _ _ _ _ _ _ _ (s₁.setTop (mkF m 60 #[.val (.int p1)] []))
                    refine own_st (fun t k => XS.iconst X0.here hx rfl (hb hby own_d1_60) k) ?_
                    show own_G _ _ _ _ _ _ _ (s₁.setTop (mkF m 61 #[.val (.int p1)] [(.int (1 : Int32))]))
                    refine own_st (fun t k => XS.goto X0.here hx rfl (pc0 := 61) (pc' := 65) rfl (hb hby own_d1_61) (by decide) (by decide) k) ?_
                    show own_G _ _ _ _ _ _ _ (s₁.setTop (mkF m 65 #[.val (.int p1)] [(.int (1 : Int32))]))
                    exact own_retN (t := .boolean) (by simp) X0 hx Bd.returns (BodyLoose.notSynchronized Bd) (hb hby own_d1_65) (by decide) (by decide) ⟨own_bT (by simp [own_ten, hc8]), N0, e0⟩
                  · refine own_st (fun t k => XS.icmpNo X0.here hx rfl (hb hby own_d1_51) rfl (feq hc8).1 k) ?_
                    show own_G _ _ _ _ _ _ _ (s₁.setTop (mkF m 54 #[.val (.int p1)] []))
                    refine own_st (fun t k => XS.iloadN X0.here hx rfl (hb hby own_d1_54) rfl k) ?_
                    show own_G _ _ _ _ _ _ _ (s₁.setTop (mkF m 55 #[.val (.int p1)] [(.int p1)]))
                    refine own_st (fun t k => XS.bipush X0.here hx rfl (hb hby own_d1_55) k) ?_
                    show own_G _ _ _ _ _ _ _ (s₁.setTop (mkF m 57 #[.val (.int p1)] [(.int (57 : Int32)), (.int p1)]))
                    by_cases hc9 : p1 = (57 : Int32)
                    · refine own_st (fun t k => XS.icmpNo X0.here hx rfl (hb hby own_d1_57) rfl (teq hc9).2 k) ?_
                      show own_G _ _ _ _ _ _ _ (s₁.setTop (mkF m 60 #[.val (.int p1)] []))
                      refine own_st (fun t k => XS.iconst X0.here hx rfl (hb hby own_d1_60) k) ?_
                      show own_G _ _ _ _ _ _ _ (s₁.setTop (mkF m 61 #[.val (.int p1)] [(.int (1 : Int32))]))
                      refine own_st (fun t k => XS.goto X0.here hx rfl (pc0 := 61) (pc' := 65) rfl (hb hby own_d1_61) (by decide) (by decide) k) ?_
                      show own_G _ _ _ _ _ _ _ (s₁.setTop (mkF m 65 #[.val (.int p1)] [(.int (1 : Int32))]))
                      exact own_retN (t := .boolean) (by simp) X0 hx Bd.returns (BodyLoose.notSynchronized Bd) (hb hby own_d1_65) (by decide) (by decide) ⟨own_bT (by simp [own_ten, hc9]), N0, e0⟩
                    · refine own_st (fun t k => XS.icmpYes X0.here hx rfl (pc0 := 57) (pc' := 64) rfl (hb hby own_d1_57) rfl (feq hc9).2 (by decide) (by decide) k) ?_
                      show own_G _ _ _ _ _ _ _ (s₁.setTop (mkF m 64 #[.val (.int p1)] []))
                      refine own_st (fun t k => XS.iconst X0.here hx rfl (hb hby own_d1_64) k) ?_
                      show own_G _ _ _ _ _ _ _ (s₁.setTop (mkF m 65 #[.val (.int p1)] [(.int (0 : Int32))]))
                      exact own_retN (t := .boolean) (by simp) X0 hx Bd.returns (BodyLoose.notSynchronized Bd) (hb hby own_d1_65) (by decide) (by decide) ⟨own_bF (by simp [own_ten, hc0, hc1, hc2, hc3, hc4, hc5, hc6, hc7, hc8, hc9]), N0, e0⟩
theorem own_pn1 : plainName "com/example/tariffline/tariffline/tariff/CommodityCode" = true := by first | (simp [plainName, overriddenIn]; done) | decide +kernel
theorem own_d2_0 : decode prog_87_method_10_code 0 = .ok (.iload_n 0, 1) := by decide +kernel
theorem own_d2_1 : decode prog_87_method_10_code 1 = .ok (.bipush 48, 2) := by decide +kernel
theorem own_d2_3 : decode prog_87_method_10_code 3 = .ok (.if_icmp .lt 13, 3) := by decide +kernel
theorem own_d2_6 : decode prog_87_method_10_code 6 = .ok (.iload_n 0, 1) := by decide +kernel
theorem own_d2_7 : decode prog_87_method_10_code 7 = .ok (.bipush 57, 2) := by decide +kernel
theorem own_d2_9 : decode prog_87_method_10_code 9 = .ok (.if_icmp .gt 7, 3) := by decide +kernel
theorem own_d2_12 : decode prog_87_method_10_code 12 = .ok (.iconst 1, 1) := by decide +kernel
theorem own_d2_13 : decode prog_87_method_10_code 13 = .ok (.goto 4, 3) := by decide +kernel
theorem own_d2_16 : decode prog_87_method_10_code 16 = .ok (.iconst 0, 1) := by decide +kernel
theorem own_d2_17 : decode prog_87_method_10_code 17 = .ok (.ireturn, 1) := by decide +kernel
theorem own_ef2 (m : MethodId) (p1 : Int32) : entryFrame m #[(.int p1)] 1 = mkF m 0 #[.val (.int p1)] [] := by first | (simp [entryFrame, mkF, argsToLocals, Value.category]; done) | rfl
set_option maxRecDepth 65536 in
set_option maxHeartbeats 40000000 in
theorem own_rm2 (l : Launch) (Z : State) (a0 : Array Value) (hw : ∀ d ∈ tables_1, d.before a0 Z = true) (ws : List Jvm.Cond) (p1 : Int32) (h0 : Heap) (n0 : Nat) (Z0 : n0 ≤ h0.size)  :
    MetFree l (⟨"com/example/tariffline/tariffline/tariff/CommodityCode", "isAsciiDigit", "(C)Z"⟩ : MethodName) (head1 (Jvm.Cond.code (⟨"com/example/tariffline/tariffline/tariff/CommodityCode", "isAsciiDigit", "(C)Z"⟩ : MethodName) prog_87_method_10_code 1 (some .boolean) :: ws) ({ frames := 0, cells := 0, slots := 0, locals := 0 } : Room)) (fun a U => a = #[(.int p1)] ∧ Z.Warmed39 U.vm ∧ U.heap = h0) (fun _ _ _ _ _ => True) (fun _ U o U' => ∃ v L, o = .returned v ∧ own_Qp (some (.int (own_b (own_dig p1)))) h0 n0 v U'.heap L ∧ FrameEnd U o U' L ({ frames := 0, cells := 0, slots := 0, locals := 0 } : Room).cells ({ frames := 0, cells := 0, slots := 0, locals := 0 } : Room).slots) := by
  refine MetFree.of_bodySF (plainFor_of_name own_pn1) hisR ?_
  intro p e s m args below meth c s₁ Bd hml0 hP hK
  obtain ⟨rfl, hZ, hh⟩ := hP
  have hx := Bd.exec
  have hby := Bd.bytes
  have hml : c.maxLocals = 1 := hml0
  have hown : s.vm.findClass "com/example/tariffline/tariffline/tariff/CommodityCode" = some m.cls := findClass_of_methodNamed Bd.named
  have hnm := (name_of_methodNamed Bd.named Bd.method).1
  have X0 : Stand p l e ({ frames := 0, cells := 0, slots := 0, locals := 0 } : Room) s m #[(.int p1)] below meth c s₁ [] 0 0 := Stand.of_body Bd
  have e0 : s₁.heap = h0 := by rw [← hh, Bd.state]; rfl
  have N0 := Fr.nil n0
  refine own_in (Q := own_Qp (some (.int (own_b (own_dig p1)))) h0 n0) ?_
  rw [own_ef2]
  show own_G _ _ _ _ _ _ _ (s₁.setTop (mkF m 0 #[.val (.int p1)] []))
  refine own_st (fun t k => XS.iloadN X0.here hx rfl (hb hby own_d2_0) rfl k) ?_
  show own_G _ _ _ _ _ _ _ (s₁.setTop (mkF m 1 #[.val (.int p1)] [(.int p1)]))
  refine own_st (fun t k => XS.bipush X0.here hx rfl (hb hby own_d2_1) k) ?_
  show own_G _ _ _ _ _ _ _ (s₁.setTop (mkF m 3 #[.val (.int p1)] [(.int (48 : Int32)), (.int p1)]))
  by_cases hc0 : p1 < (48 : Int32)
  · refine own_st (fun t k => XS.icmpYes X0.here hx rfl (pc0 := 3) (pc' := 16) rfl (hb hby own_d2_3) rfl (tlt hc0).1 (by decide) (by decide) k) ?_
    show own_G _ _ _ _ _ _ _ (s₁.setTop (mkF m 16 #[.val (.int p1)] []))
    refine own_st (fun t k => XS.iconst X0.here hx rfl (hb hby own_d2_16) k) ?_
    show own_G _ _ _ _ _ _ _ (s₁.setTop (mkF m 17 #[.val (.int p1)] [(.int (0 : Int32))]))
    exact own_retN (t := .boolean) (by simp) X0 hx Bd.returns (BodyLoose.notSynchronized Bd) (hb hby own_d2_17) (by decide) (by decide) ⟨own_bF (fun q => q.1 hc0), N0, e0⟩
  · refine own_st (fun t k => XS.icmpNo X0.here hx rfl (hb hby own_d2_3) rfl (flt hc0).1 k) ?_
    show own_G _ _ _ _ _ _ _ (s₁.setTop (mkF m 6 #[.val (.int p1)] []))
    refine own_st (fun t k => XS.iloadN X0.here hx rfl (hb hby own_d2_6) rfl k) ?_
    show own_G _ _ _ _ _ _ _ (s₁.setTop (mkF m 7 #[.val (.int p1)] [(.int p1)]))
    refine own_st (fun t k => XS.bipush X0.here hx rfl (hb hby own_d2_7) k) ?_
    show own_G _ _ _ _ _ _ _ (s₁.setTop (mkF m 9 #[.val (.int p1)] [(.int (57 : Int32)), (.int p1)]))
    by_cases hc1 : (57 : Int32) < p1
    · refine own_st (fun t k => XS.icmpYes X0.here hx rfl (pc0 := 9) (pc' := 16) rfl (hb hby own_d2_9) rfl (tlt hc1).2.2.1 (by decide) (by decide) k) ?_
      show own_G _ _ _ _ _ _ _ (s₁.setTop (mkF m 16 #[.val (.int p1)] []))
      refine own_st (fun t k => XS.iconst X0.here hx rfl (hb hby own_d2_16) k) ?_
      show own_G _ _ _ _ _ _ _ (s₁.setTop (mkF m 17 #[.val (.int p1)] [(.int (0 : Int32))]))
      exact own_retN (t := .boolean) (by simp) X0 hx Bd.returns (BodyLoose.notSynchronized Bd) (hb hby own_d2_17) (by decide) (by decide) ⟨own_bF (fun q => q.2 hc1), N0, e0⟩
    · refine own_st (fun t k => XS.icmpNo X0.here hx rfl (hb hby own_d2_9) rfl (flt hc1).2.2.1 k) ?_
      show own_G _ _ _ _ _ _ _ (s₁.setTop (mkF m 12 #[.val (.int p1)] []))
      refine own_st (fun t k => XS.iconst X0.here hx rfl (hb hby own_d2_12) k) ?_
      show own_G _ _ _ _ _ _ _ (s₁.setTop (mkF m 13 #[.val (.int p1)] [(.int (1 : Int32))]))
      refine own_st (fun t k => XS.goto X0.here hx rfl (pc0 := 13) (pc' := 17) rfl (hb hby own_d2_13) (by decide) (by decide) k) ?_
      show own_G _ _ _ _ _ _ _ (s₁.setTop (mkF m 17 #[.val (.int p1)] [(.int (1 : Int32))]))
      exact own_retN (t := .boolean) (by simp) X0 hx Bd.returns (BodyLoose.notSynchronized Bd) (hb hby own_d2_17) (by decide) (by decide) ⟨own_bT ⟨hc0, hc1⟩, N0, e0⟩
theorem own_pd0 : parseMethodDescriptor "(C)Z" = some ⟨[.char], some .boolean⟩ := by decide +kernel
theorem own_ef0 (m : MethodId) (p1 : Int32) : entryFrame m #[(.int p1)] maxLocals = mkF m 0 #[.val (.int p1), .unset, .unset] [] := by first | (simp [entryFrame, mkF, argsToLocals, Value.category, maxLocals]; done) | rfl
set_option maxRecDepth 65536 in
set_option maxHeartbeats 40000000 in
theorem own_rm0 (l : Launch) (Z : State) (a0 : Array Value) (hw : ∀ d ∈ tables_1, d.before a0 Z = true) (ws : List Jvm.Cond) (p1 : Int32) (h0 : Heap) (n0 : Nat) (Z0 : n0 ≤ h0.size)  :
    MetFree l x (head1 (Jvm.Cond.code x code maxLocals ret :: ws) room_1) (fun a U => a = #[(.int p1)] ∧ Z.Warmed39 U.vm ∧ U.heap = h0) (fun _ _ _ _ _ => True) (fun _ U o U' => ∃ v L, o = .returned v ∧ own_Q0 n0 v U'.heap L ∧ FrameEnd U o U' L room_1.cells room_1.slots) := by
  refine MetFree.of_bodySF (plainFor_of_name own_pn0) hisR ?_
  intro p e s m args below meth c s₁ Bd hml0 hP hK
  obtain ⟨rfl, hZ, hh⟩ := hP
  have hx := Bd.exec
  have hby := Bd.bytes
  have hml : c.maxLocals = 3 := hml0
  have hown : s.vm.findClass "com/example/tariffline/tariffline/tariff/CommodityCodeIsAsciiDigitPinLaw" = some m.cls := findClass_of_methodNamed Bd.named
  have hnm := (name_of_methodNamed Bd.named Bd.method).1
  have X0 : Stand p l e room_1 s m #[(.int p1)] below meth c s₁ [] 0 0 := Stand.of_body Bd
  have e0 : s₁.heap = h0 := by rw [← hh, Bd.state]; rfl
  have N0 := Fr.nil n0
  refine own_in (Q := own_Q0 n0) ?_
  rw [own_ef0]
  show own_G _ _ _ _ _ _ _ (s₁.setTop (mkF m 0 #[.val (.int p1), .unset, .unset] []))
  refine own_st (fun t k => XS.iloadN X0.here hx rfl (hb hby at_0) rfl k) ?_
  show own_G _ _ _ _ _ _ _ (s₁.setTop (mkF m 1 #[.val (.int p1), .unset, .unset] [(.int p1)]))
  refine own_st (fun t k => X0.ldcInt hx hown (mvT hZ (hw _ (List.mem_of_getElem? (i := 0) rfl))) (g := (mkF m 1 #[.val (.int p1), .unset, .unset] [(.int p1)])) rfl (hb hby at_1) t k) ?_
  show own_G _ _ _ _ _ _ _ (s₁.setTop (mkF m 3 #[.val (.int p1), .unset, .unset] [(.int (65535 : Int32)), (.int p1)]))
  refine own_st (fun t k => XS.iand X0.here hx rfl (hb hby at_3) rfl k) ?_
  show own_G _ _ _ _ _ _ _ (s₁.setTop (mkF m 4 #[.val (.int p1), .unset, .unset] [(.int (p1 &&& (65535 : Int32)))]))
  refine own_st (fun t k => XS.i2c X0.here hx rfl (hb hby at_4) rfl k) ?_
  show own_G _ _ _ _ _ _ _ (s₁.setTop (mkF m 5 #[.val (.int p1), .unset, .unset] [(.int ((p1 &&& (65535 : Int32)).toUInt32.toUInt16.toUInt32.toInt32))]))
  generalize h_ch : ((p1 &&& (65535 : Int32)).toUInt32.toUInt16.toUInt32.toInt32) = ch
  show own_G _ _ _ _ _ _ _ (s₁.setTop (mkF m 5 #[.val (.int p1), .unset, .unset] [(.int ch)]))
  refine own_st (fun t k => XS.istoreN X0.here hx rfl (hb hby at_5) rfl (l' := #[.val (.int p1), .val (.int ch), .unset]) rfl k) ?_
  show own_G _ _ _ _ _ _ _ (s₁.setTop (mkF m 6 #[.val (.int p1), .val (.int ch), .unset] []))
  refine own_st (fun t k => XS.iloadN X0.here hx rfl (hb hby at_6) rfl k) ?_
  show own_G _ _ _ _ _ _ _ (s₁.setTop (mkF m 7 #[.val (.int p1), .val (.int ch), .unset] [(.int ch)]))
  obtain ⟨_, _, ⟨T1, L1, k1, n1⟩, -, X1, ⟨Lc1, hQ1, l1, y1, z1⟩, st1⟩ := Jvm.LawKit.callS X0 hx (y := (⟨"com/example/tariffline/tariffline/tariff/CommodityCodeIsAsciiDigitPinLaw", "oneOfTheTen", "(C)Z"⟩ : MethodName)) hown (mvT hZ (hw _ (List.mem_of_getElem? (i := 1) rfl))) (mvT hZ (hw _ (List.mem_of_getElem? (i := 2) rfl))) (mvT hZ (hw _ (List.mem_of_getElem? (i := 3) rfl))) (mvT hZ (hw _ (List.mem_of_getElem? (i := 4) rfl))) (by decide) (backOf (W := 0) (own_rm1 l Z a0 hw [] ch h0 n0 Z0) hZ (hw _ (List.mem_of_getElem? (i := 4) rfl)) (hw _ (List.mem_of_getElem? (i := 3) rfl)) (by decide) (by decide)) (g := (mkF m 7 #[.val (.int p1), .val (.int ch), .unset] [(.int ch)])) rfl (by rw [hml]; rfl) (argsL := [(.int ch)]) (rest := []) (lenOf own_pd0 rfl) rfl (by show 2 * 0 + _ ≤ _; exact Nat.le_of_eq rfl) (hb hby at_7) (fun _ _ => ⟨rfl, e0, (by decide : 0 + 0 ≤ _), (by decide : 0 + 0 ≤ _)⟩)
  dsimp only [Pt.U, Pt.locs, Pt.cells, Pt.slots] at X1 l1 y1 z1 st1 hQ1
  subst l1 y1 z1
  obtain ⟨rfl, N1q, e1⟩ := hQ1
  have N1 := Fr.app N0 N1q
  refine own_st (fun t k => st1 t k) ?_
  show own_G _ _ _ _ _ _ _ (T1.setTop (mkF m 10 #[.val (.int p1), .val (.int ch), .unset] [(.int (own_b (own_ten ch)))]))
  refine own_st (fun t k => XS.istoreN X1.here hx rfl (hb hby at_10) rfl (l' := #[.val (.int p1), .val (.int ch), .val (.int (own_b (own_ten ch)))]) rfl k) ?_
  show own_G _ _ _ _ _ _ _ (T1.setTop (mkF m 11 #[.val (.int p1), .val (.int ch), .val (.int (own_b (own_ten ch)))] []))
  refine own_st (fun t k => XS.iloadN X1.here hx rfl (hb hby at_11) rfl k) ?_
  show own_G _ _ _ _ _ _ _ (T1.setTop (mkF m 12 #[.val (.int p1), .val (.int ch), .val (.int (own_b (own_ten ch)))] [(.int ch)]))
  obtain ⟨_, _, ⟨T2, L2, k2, n2⟩, -, X2, ⟨Lc2, hQ2, l2, y2, z2⟩, st2⟩ := Jvm.LawKit.callS X1 hx (y := (⟨"com/example/tariffline/tariffline/tariff/CommodityCode", "isAsciiDigit", "(C)Z"⟩ : MethodName)) hown (mvT hZ (hw _ (List.mem_of_getElem? (i := 5) rfl))) (mvT hZ (hw _ (List.mem_of_getElem? (i := 6) rfl))) (mvT hZ (hw _ (List.mem_of_getElem? (i := 7) rfl))) (mvT hZ (hw _ (List.mem_of_getElem? (i := 8) rfl))) (by decide) (backOf (W := 0) (own_rm2 l Z a0 hw [] ch h0 n0 Z0) hZ (hw _ (List.mem_of_getElem? (i := 8) rfl)) (hw _ (List.mem_of_getElem? (i := 7) rfl)) (by decide) (by decide)) (g := (mkF m 12 #[.val (.int p1), .val (.int ch), .val (.int (own_b (own_ten ch)))] [(.int ch)])) rfl (by rw [hml]; rfl) (argsL := [(.int ch)]) (rest := []) (lenOf own_pd0 rfl) rfl (by show 2 * 0 + _ ≤ _; exact Nat.le_of_eq rfl) (hb hby at_12) (fun _ _ => ⟨rfl, e1, (by decide : 0 + 0 ≤ _), (by decide : 0 + 0 ≤ _)⟩)
  dsimp only [Pt.U, Pt.locs, Pt.cells, Pt.slots] at X2 l2 y2 z2 st2 hQ2
  subst l2 y2 z2
  obtain ⟨rfl, N2q, e2⟩ := hQ2
  have N2 := Fr.app N1 N2q
  refine own_st (fun t k => st2 t k) ?_
  show own_G _ _ _ _ _ _ _ (T2.setTop (mkF m 15 #[.val (.int p1), .val (.int ch), .val (.int (own_b (own_ten ch)))] [(.int (own_b (own_dig ch)))]))
  refine own_st (fun t k => XS.iloadN X2.here hx rfl (hb hby at_15) rfl k) ?_
  show own_G _ _ _ _ _ _ _ (T2.setTop (mkF m 16 #[.val (.int p1), .val (.int ch), .val (.int (own_b (own_ten ch)))] [(.int (own_b (own_ten ch))), (.int (own_b (own_dig ch)))]))
  refine own_st (fun t k => XS.icmpNo X2.here hx rfl (hb hby at_16) rfl (teq (own_bEq (own_same ch))).2 k) ?_
  show own_G _ _ _ _ _ _ _ (T2.setTop (mkF m 19 #[.val (.int p1), .val (.int ch), .val (.int (own_b (own_ten ch)))] []))
  refine own_st (fun t k => XS.iconst X2.here hx rfl (hb hby at_19) k) ?_
  show own_G _ _ _ _ _ _ _ (T2.setTop (mkF m 20 #[.val (.int p1), .val (.int ch), .val (.int (own_b (own_ten ch)))] [(.int (1 : Int32))]))
  refine own_st (fun t k => XS.goto X2.here hx rfl (pc0 := 20) (pc' := 24) rfl (hb hby at_20) (by decide) (by decide) k) ?_
  show own_G _ _ _ _ _ _ _ (T2.setTop (mkF m 24 #[.val (.int p1), .val (.int ch), .val (.int (own_b (own_ten ch)))] [(.int (1 : Int32))]))
  exact own_retN (t := .boolean) (by simp) X2 hx Bd.returns (BodyLoose.notSynchronized Bd) (hb hby at_24) (by decide) (by decide) ⟨rfl, N2⟩
set_option maxRecDepth 65536 in
set_option maxHeartbeats 40000000 in
theorem own_comes {Post : Tables → Env → Array Value → State → Outcome → State → Prop} (hpost : ∀ tb e args s v u, (limb_1_1.after args s (.returned v) u = true ∧ limb_1_2.after args s (.returned v) u = true ∧ True) → FrameEnd s (.returned v) u (Jvm.fieldLocs frame_1_writes args s ++ Jvm.arrayLocs frame_1_arrays args s ++ Jvm.staticLocs frame_1_statics s) 0 0 → Post tb e args s (.returned v) u) :
    ArmFor flags0 classFile x code maxLocals ret World_1 tables_1 room_1 Calls_1 rest_1 Pre_1 Post := by
  intro l hfl _ _ p e ha hc hk s m args below hf hA hF happ hP
  obtain ⟨hcalls, hrest, hpre⟩ := hP
  obtain ⟨-, -, -, hnamed, -, -, -, hat⟩ := (Spec.applies_iff hf).mp happ
  obtain ⟨hg, hn⟩ := and_e (Cond.before_iff.mp (show (Jvm.Cond.and given_1 narrow_1).before args s = true from hpre))
  obtain ⟨gc, ga0⟩ := and_e hg
  obtain ⟨w0, rfl⟩ : ∃ w0 : Value, args = #[w0] := by
    have hs : args.size = 1 := by simpa [Cond.value, given_1] using gc
    obtain ⟨L⟩ := args
    match L, hs with
    | [w0], _ => exact ⟨w0, rfl⟩
  have hw := fun d (hd : d ∈ tables_1) => atoms_spec (ws := Jvm.Cond.code x code maxLocals ret :: tables_1) hat d (List.mem_cons_of_mem _ hd)
  have hfit : Fit s := fun {y c} hc i hi => by
    obtain ⟨ha, rfl⟩ := Array.getElem?_eq_some_iff.mp hc
    have q := List.all_eq_true.mp ((Array.all_eq_true_iff_forall_mem.mp hF) _ (Array.getElem_mem ha)) i (List.mem_range.mpr hi)
    simpa [Array.getElem?_eq_getElem hi] using q
  obtain ⟨i0, ei0⟩ := is_v ga0
  obtain rfl : w0 = (.int i0) := Option.some.inj ei0
  obtain ⟨n, o, h1, h2, h3, _, L, rfl, ⟨rfl, N⟩, hq⟩ := own_rm0 l s _ hw tables_1 i0 s.heap s.heap.size (Nat.le_refl _)  p e ha hc hk s m _ below hf ((Spec.applies_iff_loose hf).mp happ).1 ⟨rfl, State.Warmed39.refl s, rfl⟩ trivial
  refine ⟨n, _, h1, h2, h3, hpost _ _ _ _ _ _ ⟨Cond.after_iff.mpr rfl, Cond.after_iff.mpr (eq_i res_at (Term.int_eval (1)) rfl), trivial⟩ ⟨hq.1, hq.2.1, (hq.2.2.sift fun y hy => Or.inr (N y hy)).mono (by decide) (by decide)⟩⟩
theorem main_1_1 : Claimed_1_1 := own_comes fun _ _ _ _ _ _ h hF => ⟨h.1, hF⟩
theorem main_1_2 : Claimed_1_2 := own_comes fun _ _ _ _ _ _ h hF => ⟨h.2.1, hF⟩
end Jvm.Pilot.@@N@@
namespace Jvm.Pilot.@@N@@
open Jvm Jvm.ClassFile Sem Op Lib Jvm.Free Jvm.Stand Jvm.Pilot.@@N@@.Jvm.D
/-! MADE BY PROGRAM (witnessworld.py) out of the Statement's table words and the real class files: 11 classes; the members and pool entries that the words name. The judged class is class 1, her method 2. -/
namespace start1
open Jvm.ClassFile
def u (s : String) : CpInfo := .utf8 (stringToUtf16 s)
/-- a pool by its gaps: so many unusable entries, then the entry; so many at the end -/
def gap : Nat → List CpInfo → List CpInfo
  | 0, r => r
  | n + 1, r => .unusable :: gap n r
def poolList (es : List (Nat × CpInfo)) (last : Nat) : List CpInfo := es.foldr (fun e r => gap e.1 (e.2 :: r)) (gap last [])
def pool (es : List (Nat × CpInfo)) (last : Nat) : Array CpInfo := ⟨poolList es last⟩
def fileOf (pool : Array CpInfo) (this : Nat) (attrs : Array Attribute := #[]) (ms : Array MethodInfo := #[]) (fl : Nat := 33) (sup : Nat := 0) (ifs : Array Nat := #[]) (fds : Array FieldInfo := #[]) : ClassFile where
  minorVersion := 0
  majorVersion := 65
  constantPool := pool
  accessFlags := fl
  thisClass := this
  superClass := sup
  interfaces := ifs
  fields := fds
  methods := ms
  attributes := attrs
def plain (name : String) (sup : Option ClassId) : Class where
  name := name
  kind := .ordinary
  loader := none
  accessFlags := 33
  super := sup
  interfaces := #[]
  cf := none
  fields := #[]
  methods := #[]
  instanceTypes := #[]
  staticTypes := #[]
  resolved := #[]
  callSites := []
  init := .initialized
  statics := none
  mirror := none

def pool0 : Array CpInfo := pool [(5, u "<init>"), (0, u "()V"), (1, .class_ 10), (1, u "java/lang/Object")] 113

def k0m0 : Method := { name := "<init>", desc := "()V", sig := { parameters := [], returnType := none }, accessFlags := 1, code := none }
/-- java/lang/Object -/
def k0 : Class := { plain "java/lang/Object" none with
  accessFlags := 33
  interfaces := #[]
  cf := some (fileOf pool0 8 #[] #[{ accessFlags := 1, nameIndex := 5, descriptorIndex := 6, attributes := #[] }] 33 0 #[] #[])
  fields := #[]
  methods := #[k0m0]
  instanceTypes := #[]
  staticTypes := #[]
  resolved := Array.replicate 124 none
  statics := none }

def pool1 : Array CpInfo := pool [(2, .class_ 4), (1, u "java/lang/Object"), (0, u "<init>"), (0, u "()V"), (0, .integer 65535), (0, .methodref 9 10), (0, .class_ 11), (0, .nameAndType 12 13), (0, u "com/example/tariffline/tariffline/tariff/CommodityCodeIsAsciiDigitPinLaw"), (0, u "oneOfTheTen"), (0, u "(C)Z"), (0, .methodref 15 16), (0, .class_ 17), (0, .nameAndType 18 13), (0, u "com/example/tariffline/tariffline/tariff/CommodityCode"), (0, u "isAsciiDigit"), (3, u "law"), (0, u "(I)Z")] 2

def k1m0 : Method := { name := "<init>", desc := "()V", sig := { parameters := [], returnType := none }, accessFlags := 2, code := none }
def k1c1 : Code := { maxStack := 2, maxLocals := 1, code := method_2_code, exceptionTable := #[], attributes := #[] }
def k1m1 : Method := { name := "oneOfTheTen", desc := "(C)Z", sig := { parameters := [.char], returnType := some .boolean }, accessFlags := 10, code := some k1c1 }
def k1c2 : Code := { maxStack := 2, maxLocals := 3, code := code, exceptionTable := #[], attributes := #[] }
def k1m2 : Method := { name := "law", desc := "(I)Z", sig := { parameters := [.int], returnType := some .boolean }, accessFlags := 9, code := some k1c2 }
/-- com/example/tariffline/tariffline/tariff/CommodityCodeIsAsciiDigitPinLaw -/
def k1 : Class := { plain "com/example/tariffline/tariffline/tariff/CommodityCodeIsAsciiDigitPinLaw" (some 0) with
  accessFlags := 49
  interfaces := #[]
  cf := some (fileOf pool1 9 #[] #[{ accessFlags := 2, nameIndex := 5, descriptorIndex := 6, attributes := #[] }, { accessFlags := 10, nameIndex := 12, descriptorIndex := 13, attributes := #[] }, { accessFlags := 9, nameIndex := 22, descriptorIndex := 23, attributes := #[] }] 49 2 #[] #[])
  fields := #[]
  methods := #[k1m0, k1m1, k1m2]
  instanceTypes := #[]
  staticTypes := #[]
  resolved := Array.replicate 26 none
  statics := none }

def pool2 : Array CpInfo := pool [(2, .class_ 4), (1, u "java/lang/Object"), (0, u "<init>"), (0, u "()V"), (0, .class_ 8), (0, u "java/lang/Record")] 13

def k2m0 : Method := { name := "<init>", desc := "()V", sig := { parameters := [], returnType := none }, accessFlags := 4, code := none }
/-- java/lang/Record -/
def k2 : Class := { plain "java/lang/Record" (some 0) with
  accessFlags := 1057
  interfaces := #[]
  cf := some (fileOf pool2 7 #[] #[{ accessFlags := 4, nameIndex := 5, descriptorIndex := 6, attributes := #[] }] 1057 2 #[] #[])
  fields := #[]
  methods := #[k2m0]
  instanceTypes := #[]
  staticTypes := #[]
  resolved := Array.replicate 22 none
  statics := none }

def pool3 : Array CpInfo := pool [(1, .class_ 2), (0, u "java/lang/Comparable"), (0, .class_ 4), (0, u "java/lang/Object")] 7

/-- java/lang/Comparable -/
def k3 : Class := { plain "java/lang/Comparable" (some 0) with
  accessFlags := 1537
  interfaces := #[]
  cf := some (fileOf pool3 1 #[] #[] 1537 3 #[] #[])
  fields := #[]
  methods := #[]
  instanceTypes := #[]
  staticTypes := #[]
  resolved := Array.replicate 12 none
  statics := none }

def pool4 : Array CpInfo := pool [(2, .class_ 4), (1, u "java/lang/Record"), (3, u "digits"), (12, .class_ 22), (0, u "com/example/tariffline/tariffline/tariff/CommodityCode"), (12, u "Ljava/lang/String;"), (48, u "isAsciiDigit"), (0, u "(C)Z"), (10, .class_ 97), (0, u "java/lang/Comparable"), (0, u "LENGTH"), (0, u "I"), (2, u "CHAPTER_ZEROS"), (0, u "HEADING_ZEROS")] 41

def k4c0 : Code := { maxStack := 2, maxLocals := 1, code := prog_87_method_10_code, exceptionTable := #[], attributes := #[] }
def k4m0 : Method := { name := "isAsciiDigit", desc := "(C)Z", sig := { parameters := [.char], returnType := some .boolean }, accessFlags := 8, code := some k4c0 }
/-- com/example/tariffline/tariffline/tariff/CommodityCode -/
def k4 : Class := { plain "com/example/tariffline/tariffline/tariff/CommodityCode" (some 2) with
  accessFlags := 49
  interfaces := #[3]
  cf := some (fileOf pool4 21 #[] #[{ accessFlags := 8, nameIndex := 84, descriptorIndex := 85, attributes := #[] }] 49 2 #[96] #[{ accessFlags := 18, nameIndex := 8, descriptorIndex := 35, attributes := #[] }, { accessFlags := 24, nameIndex := 98, descriptorIndex := 99, attributes := #[] }, { accessFlags := 26, nameIndex := 102, descriptorIndex := 35, attributes := #[] }, { accessFlags := 26, nameIndex := 103, descriptorIndex := 35, attributes := #[] }])
  fields := #[{ name := "digits", type := (.object "java/lang/String"), accessFlags := 18, slot := 0, constantValue := 0 }, { name := "LENGTH", type := .int, accessFlags := 24, slot := 0, constantValue := 0 }, { name := "CHAPTER_ZEROS", type := (.object "java/lang/String"), accessFlags := 26, slot := 1, constantValue := 0 }, { name := "HEADING_ZEROS", type := (.object "java/lang/String"), accessFlags := 26, slot := 2, constantValue := 0 }]
  methods := #[k4m0]
  instanceTypes := #[(.object "java/lang/String")]
  staticTypes := #[.int, (.object "java/lang/String"), (.object "java/lang/String")]
  resolved := Array.replicate 145 none
  statics := none }

def pool5 : Array CpInfo := pool [(1, u "java/lang/Cloneable"), (0, .class_ 1), (0, u "java/lang/Object"), (0, .class_ 3)] 3

/-- java/lang/Cloneable -/
def k5 : Class := { plain "java/lang/Cloneable" (some 0) with
  accessFlags := 1537
  interfaces := #[]
  cf := some (fileOf pool5 2 #[] #[] 1537 4 #[] #[])
  fields := #[]
  methods := #[]
  instanceTypes := #[]
  staticTypes := #[]
  resolved := Array.replicate 8 none
  statics := none }

def pool6 : Array CpInfo := pool [(1, u "java/io/Serializable"), (0, .class_ 1), (0, u "java/lang/Object"), (0, .class_ 3)] 3

/-- java/io/Serializable -/
def k6 : Class := { plain "java/io/Serializable" (some 0) with
  accessFlags := 1537
  interfaces := #[]
  cf := some (fileOf pool6 2 #[] #[] 1537 4 #[] #[])
  fields := #[]
  methods := #[]
  instanceTypes := #[]
  staticTypes := #[]
  resolved := Array.replicate 8 none
  statics := none }

/-- the primitive byte -/
def k7 : Class := { plain "byte" none with kind := .primitive 'B', accessFlags := 0x411 }
/-- [B -/
def k8 : Class := { plain "[B" (some 0) with kind := .array 7 .byte, interfaces := #[5, 6], accessFlags := 1041 }

/-- the primitive int -/
def k9 : Class := { plain "int" none with kind := .primitive 'I', accessFlags := 0x411 }
/-- [I -/
def k10 : Class := { plain "[I" (some 0) with kind := .array 9 .int, interfaces := #[5, 6], accessFlags := 1041 }

def heap : Heap := #[]
def classes : Array Class := #[k0, k1, k2, k3, k4, k5, k6, k7, k8, k9, k10]
def interned : List (Array UInt16 × Addr) := []
def slotsUsed : Nat := 0
def theMethod : MethodId := ⟨1, 2⟩
def args0 : Array Value := #[.int 5]
def aboutOver (below : List Frame) : State where
  vm := { classes := classes, interned := interned.toArray }
  heap := heap
  slotsUsed := slotsUsed
  threads := #[{ frames := .invoking theMethod args0 :: below }]
def below0 : List Frame := [.native { method := ⟨0, 0⟩, args := #[] }]
def about1 : State := aboutOver below0
def p0 : Program := .bare "" "" ""
def e0 : Env := launch0.env 0 0 0
theorem w_frames : about1.frames = Frame.invoking theMethod args0 :: below0 := rfl
set_option maxRecDepth 65536 in
theorem w_args : argsFit about1.vm theMethod args0 = true := by decide +kernel
set_option maxRecDepth 65536 in
theorem w_heap : heapFits about1 = true := by decide +kernel
set_option maxRecDepth 65536 in
theorem w_runnable : about1.curStatus? = some .runnable := by decide +kernel
set_option maxRecDepth 65536 in
theorem w_alone : about1.alone = true := by decide +kernel
set_option maxRecDepth 65536 in
theorem w_named : about1.methodNamed? x = some theMethod := by decide +kernel
set_option maxRecDepth 65536 in
theorem w_hears : about1.hears theMethod below0 = true := by decide +kernel
set_option maxRecDepth 65536 in
theorem w_ripe : about1.ripe theMethod args0 below0 = true := by decide +kernel
theorem w_running : about1.status = .running := rfl
set_option maxRecDepth 65536 in
theorem w_room : about1.hasRoom e0.platform room_1 = true :=
  launch0.hasRoom_least _ room_1 (by decide +kernel) (by decide +kernel) (by decide +kernel) (by decide +kernel) (by decide +kernel) (by decide +kernel)
theorem allAtoms_all (ts : List Jvm.Cond) (a : Array Jvm.Value) (st : Jvm.State) : (allAtoms ts).before a st = ts.all (fun c => c.before a st) := by
  induction ts with
  | nil => rfl
  | cons c t ih =>
    show (Jvm.Cond.and c (allAtoms t)).before a st = _
    rw [Jvm.Cond.before_and, ih, List.all_cons]
def words1 : List Jvm.Cond := Jvm.Cond.code x code maxLocals ret :: tables_1
/-- a 'code' word, met by the world's own term for the bytes: nothing is compared byte by byte -/
theorem code_word {y : MethodName} {bytes : ByteArray} {mx : Nat} {rt : Option FieldType} {a : Array Value} {s : State} {m : MethodId} {meth : Method} {c : Code} (h1 : s.methodNamed? y = some m) (h2 : s.vm.method? m = some meth) (h3 : meth.code = some c) (h4 : c.code = bytes)
    (h5 : (c.maxLocals == mx && c.exceptionTable.isEmpty && decide (c.maxStack ≤ mostOperands) && decide (meth.sig.returnType = rt) && !meth.locks && decide (parseMethodDescriptor y.desc = some meth.sig)) = true) : (Jvm.Cond.code y bytes mx rt).before a s = true := by
  simp only [Bool.and_eq_true, beq_iff_eq, Bool.not_eq_true', decide_eq_true_eq] at h5
  obtain ⟨⟨⟨⟨⟨g1, g2⟩, g3⟩, g4⟩, g5⟩, g6⟩ := h5
  simp [Cond.before, Cond.holds, Cond.value, h1, h2, h3, h4, g1, g2, g3, g4, g5, g6]
def isCode : Jvm.Cond → Bool
  | .code _ _ _ _ => true
  | _ => false
theorem all_split {L : List Jvm.Cond} {P : Jvm.Cond → Bool} (h1 : L.all (fun c => isCode c || P c) = true) (h2 : ∀ c ∈ L.filter isCode, P c = true) : L.all P = true := by
  refine List.all_eq_true.mpr fun c hc => ?_
  have h := List.all_eq_true.mp h1 c hc
  rcases Bool.eq_false_or_eq_true (isCode c) with hi | hi
  · exact h2 c (List.mem_filter.mpr ⟨hc, hi⟩)
  · simpa [hi] using h
set_option maxRecDepth 65536 in
theorem w_c0 : (Jvm.Cond.code x code maxLocals ret).before args0 about1 = true := code_word (m := ⟨1, 2⟩) (meth := k1m2) (c := k1c2) (by decide +kernel) rfl rfl rfl (by decide +kernel)
set_option maxRecDepth 65536 in
theorem w_c1 : (Jvm.Cond.code ({ cls := "com/example/tariffline/tariffline/tariff/CommodityCodeIsAsciiDigitPinLaw", name := "oneOfTheTen", desc := "(C)Z" } : Jvm.MethodName) method_2_code (1 : Nat) (Option.some Jvm.ClassFile.FieldType.boolean)).before args0 about1 = true := code_word (m := ⟨1, 1⟩) (meth := k1m1) (c := k1c1) (by decide +kernel) rfl rfl rfl (by decide +kernel)
set_option maxRecDepth 65536 in
theorem w_c2 : (Jvm.Cond.code ({ cls := "com/example/tariffline/tariffline/tariff/CommodityCode", name := "isAsciiDigit", desc := "(C)Z" } : Jvm.MethodName) prog_87_method_10_code (1 : Nat) (Option.some Jvm.ClassFile.FieldType.boolean)).before args0 about1 = true := code_word (m := ⟨4, 0⟩) (meth := k4m0) (c := k4c0) (by decide +kernel) rfl rfl rfl (by decide +kernel)
def codes1 : List Jvm.Cond := [Jvm.Cond.code x code maxLocals ret, Jvm.Cond.code ({ cls := "com/example/tariffline/tariffline/tariff/CommodityCodeIsAsciiDigitPinLaw", name := "oneOfTheTen", desc := "(C)Z" } : Jvm.MethodName) method_2_code (1 : Nat) (Option.some Jvm.ClassFile.FieldType.boolean), Jvm.Cond.code ({ cls := "com/example/tariffline/tariffline/tariff/CommodityCode", name := "isAsciiDigit", desc := "(C)Z" } : Jvm.MethodName) prog_87_method_10_code (1 : Nat) (Option.some Jvm.ClassFile.FieldType.boolean)]
set_option maxRecDepth 65536 in
theorem codes_eq : words1.filter isCode = codes1 := rfl
theorem w_codes : ∀ c ∈ words1.filter isCode, c.before args0 about1 = true := by
  rw [codes_eq]
  intro c hc
  simp only [codes1, List.mem_cons, List.not_mem_nil, or_false] at hc
  rcases hc with rfl | rfl | rfl
  · exact w_c0
  · exact w_c1
  · exact w_c2
set_option maxRecDepth 65536 in
theorem w_t1 : words1.all (fun c => isCode c || c.before args0 about1) = true := by decide +kernel
theorem w_tables : (allAtoms (Jvm.Cond.code x code maxLocals ret :: tables_1)).before args0 about1 = true := by
  rw [allAtoms_all]
  show words1.all (fun c => c.before args0 about1) = true
  refine all_split ?_ w_codes
  rw [w_t1]
set_option maxRecDepth 65536 in
theorem w_case : (Jvm.Cond.and given_1 narrow_1).before args0 about1 = true := by decide +kernel
theorem w_applies : (headSpec (Jvm.Cond.code x code maxLocals ret :: tables_1) room_1).applies x e0.platform about1 = true :=
  (Spec.applies_iff w_frames).mpr ⟨w_running, w_runnable, w_alone, w_named, w_hears, w_ripe, w_room, w_tables⟩
theorem atStart : AtStart classFile x code maxLocals ret World_1 tables_1 room_1 Calls_1 rest_1 Pre_1 launch0 p0 e0 about1 theMethod args0 below0 :=
  ⟨lists_1, trivial, launch0.admits_env _ _ _, launch0.least_env, fairChoices_fair.cas, fairChoices_fair.clock, w_frames, w_args, w_heap, w_applies, trivial, trivial, w_case⟩
end start1
theorem witness_1 : WitnessClaimed_1 := ⟨start1.p0, start1.e0, start1.about1, start1.theMethod, start1.args0, start1.below0, start1.atStart⟩
end Jvm.Pilot.@@N@@
