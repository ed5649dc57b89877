import JvmDerived
import JvmDerived.Pilot.@@N@@Statement
import JvmDerived.Pilot.@@N@@Code
set_option linter.unusedVariables false
set_option linter.unusedSimpArgs false
namespace Jvm.Pilot.@@N@@
open Jvm Jvm.ClassFile Sem Op Lib Jvm.Free Jvm.Stand Jvm.LawKit Jvm.RoadKit Bundle Jvm.Pilot.@@N@@.Jvm.D
/-! the goal that a walk carries along: from this state the run comes to the method's end, and Q holds there -/
def own_G (tb : Tables) (e : Env) (below : List Frame) (s : State) (Q : Option Value → Heap → List Loc → Prop) (kc ks : Nat) (st : State) : Prop :=
  ∃ u o, Steps tb e below st u ∧ u.status = .running ∧ Ended u below o ∧ ∃ v L, o = .returned v ∧ Q v u.heap L ∧ FrameEnd s o u L kc ks
theorem own_in {tb : Tables} {e : Env} {below : List Frame} {s : State} {Q : Option Value → Heap → List Loc → Prop} {kc ks : Nat} {st : State} (h : own_G tb e below s Q kc ks st) :
    ∃ u o, Steps tb e below st u ∧ u.status = .running ∧ Ended u below o ∧ ∃ v L, o = .returned v ∧ Q v u.heap L ∧ FrameEnd s o u L kc ks := h
theorem own_st {tb : Tables} {e : Env} {below : List Frame} {s : State} {Q : Option Value → Heap → List Loc → Prop} {kc ks : Nat} {a b : State} (k : ∀ t, Steps tb e below b t → Steps tb e below a t) (h : own_G tb e below s Q kc ks b) : own_G tb e below s Q kc ks a := by
  obtain ⟨u, o, h1, h2⟩ := h; exact ⟨u, o, k u h1, h2⟩
section OwnRet
variable {p : Program} {l : Launch} {e : Env} {R : Room} {s : State} {m : MethodId} {args : Array Value} {below : List Frame} {meth : Method} {c : Code} {T : State} {locs : List Loc} {cells slots : Nat} {Q : Option Value → Heap → List Loc → Prop} {kc ks : Nat} {pc : Nat} {Ls : Array Slot} {rest : List Value}
theorem own_ret (X : Stand p l e R s m args below meth c T locs cells slots) {v : Option Value} (hv : meth.sig.returnType = none → v = none) (hlk : meth.locks = false) (hc : cells ≤ kc) (hs : slots ≤ ks) (hQ : Q v T.heap locs) {st : State}
    (step : ∀ fs, (∀ (f : JFrame) (acts : List Action), f.method = m → f.locked = none → f.entered = [] → (doReturn e (T.setTop f) acts v).1 = T.setFrames fs) → Steps p.tables e below st (T.setFrames fs)) : own_G p.tables e below s Q kc ks st := by
  obtain ⟨fs, hr, hrun, hended, hW, hsame⟩ := X.leave (v := v) hv hlk
  exact ⟨_, _, step fs hr, hrun, hended, _, _, rfl, hQ, ⟨_, rfl⟩, hW, hsame.mono hc hs⟩
theorem own_retV (X : Stand p l e R s m args below meth c T locs cells slots) (hx : p.tables.exec = Jvm.exec) (hret : meth.sig.returnType = none) (hlk : meth.locks = false) (hd : decode c.code pc = .ok (.return_, 1)) (hc : cells ≤ kc) (hs : slots ≤ ks) (hQ : Q none T.heap locs) : own_G p.tables e below s Q kc ks (T.setTop (mkF m pc Ls [])) :=
  own_ret X (v := none) (fun _ => rfl) hlk hc hs hQ fun _ hr => X.returnOut hx hret hd hr
theorem own_retI {z : Int32} (X : Stand p l e R s m args below meth c T locs cells slots) (hx : p.tables.exec = Jvm.exec) (hret : meth.sig.returnType = some .int) (hlk : meth.locks = false) (hd : decode c.code pc = .ok (.ireturn, 1)) (hc : cells ≤ kc) (hs : slots ≤ ks) (hQ : Q (some (.int z)) T.heap locs) : own_G p.tables e below s Q kc ks (T.setTop (mkF m pc Ls (.int z :: rest))) :=
  own_ret X (v := some (.int z)) (fun h => by rw [hret] at h; cases h) hlk hc hs hQ fun _ hr => retOut X hx hret rfl (Or.inl ⟨rfl, Or.inl rfl, z, rfl⟩) hd hr
theorem own_retJ {z : Int64} (X : Stand p l e R s m args below meth c T locs cells slots) (hx : p.tables.exec = Jvm.exec) (hret : meth.sig.returnType = some .long) (hlk : meth.locks = false) (hd : decode c.code pc = .ok (.lreturn, 1)) (hc : cells ≤ kc) (hs : slots ≤ ks) (hQ : Q (some (.long z)) T.heap locs) : own_G p.tables e below s Q kc ks (T.setTop (mkF m pc Ls (.long z :: rest))) :=
  own_ret X (v := some (.long z)) (fun h => by rw [hret] at h; cases h) hlk hc hs hQ fun _ hr => retOut X hx hret rfl (Or.inr (Or.inl ⟨rfl, rfl, z, rfl⟩)) hd hr
theorem own_retA {ft : FieldType} {w : Value} (ht : ft.isReference = true) (hw : w.isRef = true) (X : Stand p l e R s m args below meth c T locs cells slots) (hx : p.tables.exec = Jvm.exec) (hret : meth.sig.returnType = some ft) (hlk : meth.locks = false) (hd : decode c.code pc = .ok (.areturn, 1)) (hc : cells ≤ kc) (hs : slots ≤ ks) (hQ : Q (some w) T.heap locs) : own_G p.tables e below s Q kc ks (T.setTop (mkF m pc Ls (w :: rest))) :=
  own_ret X (v := some w) (fun h => by rw [hret] at h; cases h) hlk hc hs hQ fun _ hr => retOut X hx hret (by cases ft <;> first | (cases ht; done) | (cases w <;> first | rfl | cases hw)) (Or.inr (Or.inr (Or.inr (Or.inr ⟨rfl, ht, hw⟩)))) hd hr
theorem own_retN {t : FieldType} {z : Int32} (ht : t = .boolean ∨ t = .byte ∨ t = .char ∨ t = .short) (X : Stand p l e R s m args below meth c T locs cells slots) (hx : p.tables.exec = Jvm.exec) (hret : meth.sig.returnType = some t) (hlk : meth.locks = false) (hd : decode c.code pc = .ok (.ireturn, 1)) (hc : cells ≤ kc) (hs : slots ≤ ks) (hQ : Q (some (.int (nar t z))) T.heap locs) : own_G p.tables e below s Q kc ks (T.setTop (mkF m pc Ls (.int z :: rest))) :=
  own_ret X (v := some (.int (nar t z))) (fun h => by rw [hret] at h; cases h) hlk hc hs hQ fun _ hr => retN X hx hret ht hd hr
end OwnRet
def own_b (P : Prop) [Decidable P] : Int32 := if P then 1 else 0
theorem own_bT {P : Prop} [Decidable P] (h : P) : some (Value.int (nar .boolean (1 : Int32))) = some (Value.int (own_b P)) := by rw [own_b, if_pos h]; rfl
theorem own_bF {P : Prop} [Decidable P] (h : ¬ P) : some (Value.int (nar .boolean (0 : Int32))) = some (Value.int (own_b P)) := by rw [own_b, if_neg h]; rfl
theorem own_bEq {P P' : Prop} [Decidable P] [Decidable P'] (h : P ↔ P') : own_b P = own_b P' := by simp only [own_b, h]
/-- a body that writes nothing: what it returns, the heap as it was -/
def own_Qp (r : Option Value) (h0 : Heap) (n0 : Nat) (v : Option Value) (h : Heap) (L : List Loc) : Prop := v = r ∧ Fr n0 L ∧ h = h0
/-- the law's own end: it returns 1, nothing old is written -/
def own_Q0 (n0 : Nat) (v : Option Value) (h : Heap) (L : List Loc) : Prop := v = some (.int 1) ∧ Fr n0 L
theorem own_ord {s : State} {args : Array Value} {t : Term} {a : Addr} {C n d : String} {k : Int32} (ev : t.eval args s none [] s = some (.ref a)) (h : (Jvm.Cond.eq (Term.field t C n d) (Term.int k)).value args s none s [] = some true) : Fld s s.heap a C n d (.int k) := by
  obtain ⟨x, y, e1, e2, -, k2⟩ := cmp_v (Or.inl h)
  obtain rfl : Value.int k = y := Option.some.inj e2
  obtain ⟨z, rfl⟩ := k2
  have q : z = k := by simpa [Jvm.Cond.value, e1, e2] using h
  subst q
  exact Fld.start ((fld_at ev).symm.trans e1)
theorem own_len {s : State} {args : Array Value} {t : Term} {a : Addr} {c : Cell} {ty : FieldType} {n : Int32} (ev : t.eval args s none [] s = some (.ref a)) (A : Arr s s.heap a c ty) (h : (Jvm.Cond.eq (Term.length t) (Term.int n)).value args s none s [] = some true) : c.slots.size < 2 ^ 31 ∧ c.slots.size.toInt32 = n := by
  have q := eqv_i (Term.int_eval n) h
  have f := A.fin (Vm.Alike.refl _)
  have z : c.slots.size < 2147483648 ∧ c.slots.size.toInt32 = n := by simpa [Term.eval, ev, f] using q
  exact z
theorem own_eqr {s : State} {args : Array Value} {X F : Term} {y : Addr} (hF : F.eval args s none [] s = some (.ref y)) (h : (Jvm.Cond.eq X F).value args s none s [] = some true) : X.eval args s none [] s = some (.ref y) := by
  obtain ⟨x, y', e1, e2, k1, k2⟩ := cmp_v (Or.inl h)
  cases hF.symm.trans e2
  have hx : x.isRef = true := k2.2
  have q := gotT (eq_R e1 hF hx rfl) h
  rw [q] at e1; exact e1
theorem own_el {s : State} {args : Array Value} {t : Term} {a : Addr} {c : Cell} {ty : FieldType} {j : Int32} {v : Value} (ev : t.eval args s none [] s = some (.ref a)) (A : Arr s s.heap a c ty) (h : (Term.elem t (Term.int j)).eval args s none [] s = some v) : c.slots[j.toNatClampNeg]? = some v := (elem_in h ev (Term.int_eval j) A.1).2
theorem own_nea {Z : State} {h : Heap} {a b : Addr} {C : String} {a0 : Array Value} {k : Nat} {kc : ClassId} {ty : FieldType} {z : Int32} {vs : List Value} {d : Value} (F : Exa Z h a C) (wi : (Jvm.Cond.instantiable C k).before a0 Z = true) (V : Arv Z h b kc ty z vs d) : a ≠ b := by
  obtain ⟨c, A, -⟩ := V; exact ne_arr F wi A
theorem own_pn0 : plainName "com/example/tariffline/tariffline/tariff/Taric3Type$Base" = true := by first | (simp [plainName, overriddenIn]; done) | decide +kernel
theorem own_d1_0 : decode prog_152_method_5_code 0 = .ok (.aload_n 0, 1) := by decide +kernel
theorem own_d1_1 : decode prog_152_method_5_code 1 = .ok (.getstatic 3, 3) := by decide +kernel
theorem own_d1_4 : decode prog_152_method_5_code 4 = .ok (.if_acmp .eq 7, 3) := by decide +kernel
theorem own_d1_7 : decode prog_152_method_5_code 7 = .ok (.iconst 1, 1) := by decide +kernel
theorem own_d1_8 : decode prog_152_method_5_code 8 = .ok (.goto 4, 3) := by decide +kernel
theorem own_d1_11 : decode prog_152_method_5_code 11 = .ok (.iconst 0, 1) := by decide +kernel
theorem own_d1_12 : decode prog_152_method_5_code 12 = .ok (.ireturn, 1) := by decide +kernel
theorem own_ef1 (m : MethodId) (a1 : Addr) : entryFrame m #[(.ref a1)] 1 = mkF m 0 #[.val (.ref a1)] [] := by first | (simp [entryFrame, mkF, argsToLocals, Value.category]; done) | rfl
set_option maxRecDepth 65536 in
set_option maxHeartbeats 40000000 in
theorem own_rm1 (l : Launch) (Z : State) (a0 : Array Value) (hw : ∀ d ∈ tables_1, d.before a0 Z = true) (ws : List Jvm.Cond) (a1 s0 : Addr) (h0 : Heap) (n0 : Nat) (Z0 : n0 ≤ h0.size) (S0 : Sta Z h0 "com/example/tariffline/tariffline/tariff/Taric3Type$Base" "STRING" "Lcom/example/tariffline/tariffline/tariff/Taric3Type$Base;" (.ref s0)) :
    MetFree l (⟨"com/example/tariffline/tariffline/tariff/Taric3Type$Base", "collapsesBlanks", "()Z"⟩ : MethodName) (head1 (Jvm.Cond.code (⟨"com/example/tariffline/tariffline/tariff/Taric3Type$Base", "collapsesBlanks", "()Z"⟩ : MethodName) prog_152_method_5_code 1 (some .boolean) :: ws) ({ frames := 0, cells := 0, slots := 0, locals := 0 } : Room)) (fun a U => a = #[(.ref a1)] ∧ Z.Warmed39 U.vm ∧ U.heap = h0) (fun _ _ _ _ _ => True) (fun _ U o U' => ∃ v L, o = .returned v ∧ own_Qp (some (.int (own_b (¬ a1 = s0)))) h0 n0 v U'.heap L ∧ FrameEnd U o U' L ({ frames := 0, cells := 0, slots := 0, locals := 0 } : Room).cells ({ frames := 0, cells := 0, slots := 0, locals := 0 } : Room).slots) := by
  refine MetFree.of_bodySF (plainFor_of_name own_pn0) hisR ?_
  intro p e s m args below meth c s₁ Bd hml0 hP hK
  obtain ⟨rfl, hZ, hh⟩ := hP
  have hx := Bd.exec
  have hby := Bd.bytes
  have hml : c.maxLocals = 1 := hml0
  have hown : s.vm.findClass "com/example/tariffline/tariffline/tariff/Taric3Type$Base" = some m.cls := findClass_of_methodNamed Bd.named
  have hnm := (name_of_methodNamed Bd.named Bd.method).1
  have X0 : Stand p l e ({ frames := 0, cells := 0, slots := 0, locals := 0 } : Room) s m #[(.ref a1)] below meth c s₁ [] 0 0 := Stand.of_body Bd
  have e0 : s₁.heap = h0 := by rw [← hh, Bd.state]; rfl
  have N0 := Fr.nil n0
  refine own_in (Q := own_Qp (some (.int (own_b (¬ a1 = s0)))) h0 n0) ?_
  rw [own_ef1]
  show own_G _ _ _ _ _ _ _ (s₁.setTop (mkF m 0 #[.val (.ref a1)] []))
  refine own_st (fun t k => XS.aloadN X0.here hx rfl (hb hby own_d1_0) rfl rfl k) ?_
  show own_G _ _ _ _ _ _ _ (s₁.setTop (mkF m 1 #[.val (.ref a1)] [(.ref a1)]))
  obtain ⟨T1, X1, e1, st1⟩ := getS2 X0 hx hZ hown (host := "") (Or.inl (hw _ (List.mem_of_getElem? (i := 9) rfl))) Via.refl e0 S0 (g := (mkF m 1 #[.val (.ref a1)] [(.ref a1)])) rfl (hb hby own_d1_1)
  refine own_st (fun t k => st1 t k) ?_
  show own_G _ _ _ _ _ _ _ (T1.setTop (mkF m 4 #[.val (.ref a1)] [(.ref s0), (.ref a1)]))
  by_cases hc : a1 = s0
  · refine own_st (fun t k => Jvm.RoadKit.acmp (g := (mkF m 4 #[.val (.ref a1)] [(.ref s0), (.ref a1)])) X1 hx rfl rfl rfl (pc0 := 4) (pc' := 11) (same := true) rfl (hb hby own_d1_4) rfl (decide_eq_true (congrArg Value.ref hc)) (by decide) (by decide) k) ?_
    show own_G _ _ _ _ _ _ _ (T1.setTop (mkF m 11 #[.val (.ref a1)] []))
    refine own_st (fun t k => XS.iconst X1.here hx rfl (hb hby own_d1_11) k) ?_
    show own_G _ _ _ _ _ _ _ (T1.setTop (mkF m 12 #[.val (.ref a1)] [(.int (0 : Int32))]))
    exact own_retN (t := .boolean) (by simp) X1 hx Bd.returns (BodyLoose.notSynchronized Bd) (hb hby own_d1_12) (by decide) (by decide) ⟨own_bF (fun q => q hc), N0, e1⟩
  · refine own_st (fun t k => Jvm.RoadKit.acmp (g := (mkF m 4 #[.val (.ref a1)] [(.ref s0), (.ref a1)])) X1 hx rfl rfl rfl (pc0 := 4) (pc' := 7) (same := false) rfl (hb hby own_d1_4) rfl (decide_eq_false fun q => hc (Value.ref.inj q)) (by decide) (by decide) k) ?_
    show own_G _ _ _ _ _ _ _ (T1.setTop (mkF m 7 #[.val (.ref a1)] []))
    refine own_st (fun t k => XS.iconst X1.here hx rfl (hb hby own_d1_7) k) ?_
    show own_G _ _ _ _ _ _ _ (T1.setTop (mkF m 8 #[.val (.ref a1)] [(.int (1 : Int32))]))
    refine own_st (fun t k => XS.goto X1.here hx rfl (pc0 := 8) (pc' := 12) rfl (hb hby own_d1_8) (by decide) (by decide) k) ?_
    show own_G _ _ _ _ _ _ _ (T1.setTop (mkF m 12 #[.val (.ref a1)] [(.int (1 : Int32))]))
    exact own_retN (t := .boolean) (by simp) X1 hx Bd.returns (BodyLoose.notSynchronized Bd) (hb hby own_d1_12) (by decide) (by decide) ⟨own_bT hc, N0, e1⟩
theorem own_pd0 : parseMethodDescriptor "()Z" = some ⟨[], some .boolean⟩ := by decide +kernel
theorem own_pn1 : plainName "com/example/tariffline/tariffline/tariff/Taric3TypeCollapsesBlanksPinLaw" = true := by first | (simp [plainName, overriddenIn]; done) | decide +kernel
theorem own_ef0 (m : MethodId) (p1 : Int32) : entryFrame m #[(.int p1)] maxLocals = mkF m 0 #[.val (.int p1), .unset, .unset, .unset] [] := by first | (simp [entryFrame, mkF, argsToLocals, Value.category, maxLocals]; done) | rfl
set_option maxRecDepth 65536 in
set_option maxHeartbeats 40000000 in
theorem own_rm0 (l : Launch) (Z : State) (a0 : Array Value) (hw : ∀ d ∈ tables_1, d.before a0 Z = true) (ws : List Jvm.Cond) (p1 : Int32) (c_STRING c_INT c_DECIMAL c_DATE c_DATE_TIME c_NMTOKEN c_LANGUAGE : Addr) (h0 : Heap) (n0 : Nat) (Z0 : n0 ≤ h0.size) (S_STRING : Sta Z h0 "com/example/tariffline/tariffline/tariff/Taric3Type$Base" "STRING" "Lcom/example/tariffline/tariffline/tariff/Taric3Type$Base;" (.ref c_STRING)) (A_STRING : Exa Z h0 c_STRING "com/example/tariffline/tariffline/tariff/Taric3Type$Base") (S_INT : Sta Z h0 "com/example/tariffline/tariffline/tariff/Taric3Type$Base" "INT" "Lcom/example/tariffline/tariffline/tariff/Taric3Type$Base;" (.ref c_INT)) (A_INT : Exa Z h0 c_INT "com/example/tariffline/tariffline/tariff/Taric3Type$Base") (S_DECIMAL : Sta Z h0 "com/example/tariffline/tariffline/tariff/Taric3Type$Base" "DECIMAL" "Lcom/example/tariffline/tariffline/tariff/Taric3Type$Base;" (.ref c_DECIMAL)) (A_DECIMAL : Exa Z h0 c_DECIMAL "com/example/tariffline/tariffline/tariff/Taric3Type$Base") (S_DATE : Sta Z h0 "com/example/tariffline/tariffline/tariff/Taric3Type$Base" "DATE" "Lcom/example/tariffline/tariffline/tariff/Taric3Type$Base;" (.ref c_DATE)) (A_DATE : Exa Z h0 c_DATE "com/example/tariffline/tariffline/tariff/Taric3Type$Base") (S_DATE_TIME : Sta Z h0 "com/example/tariffline/tariffline/tariff/Taric3Type$Base" "DATE_TIME" "Lcom/example/tariffline/tariffline/tariff/Taric3Type$Base;" (.ref c_DATE_TIME)) (A_DATE_TIME : Exa Z h0 c_DATE_TIME "com/example/tariffline/tariffline/tariff/Taric3Type$Base") (S_NMTOKEN : Sta Z h0 "com/example/tariffline/tariffline/tariff/Taric3Type$Base" "NMTOKEN" "Lcom/example/tariffline/tariffline/tariff/Taric3Type$Base;" (.ref c_NMTOKEN)) (A_NMTOKEN : Exa Z h0 c_NMTOKEN "com/example/tariffline/tariffline/tariff/Taric3Type$Base") (S_LANGUAGE : Sta Z h0 "com/example/tariffline/tariffline/tariff/Taric3Type$Base" "LANGUAGE" "Lcom/example/tariffline/tariffline/tariff/Taric3Type$Base;" (.ref c_LANGUAGE)) (A_LANGUAGE : Exa Z h0 c_LANGUAGE "com/example/tariffline/tariffline/tariff/Taric3Type$Base") (d_INT : ¬ c_INT = c_STRING) (d_DECIMAL : ¬ c_DECIMAL = c_STRING) (d_DATE : ¬ c_DATE = c_STRING) (d_DATE_TIME : ¬ c_DATE_TIME = c_STRING) (d_NMTOKEN : ¬ c_NMTOKEN = c_STRING) (d_LANGUAGE : ¬ c_LANGUAGE = c_STRING) :
    MetFree l x (head1 (Jvm.Cond.code x code maxLocals ret :: ws) room_1) (fun a U => a = #[(.int p1)] ∧ Z.Warmed39 U.vm ∧ U.heap = h0) (fun _ _ _ _ _ => True) (fun _ U o U' => ∃ v L, o = .returned v ∧ own_Q0 n0 v U'.heap L ∧ FrameEnd U o U' L room_1.cells room_1.slots) := by
  refine MetFree.of_bodySF (plainFor_of_name own_pn1) hisR ?_
  intro p e s m args below meth c s₁ Bd hml0 hP hK
  obtain ⟨rfl, hZ, hh⟩ := hP
  have hx := Bd.exec
  have hby := Bd.bytes
  have hml : c.maxLocals = 4 := hml0
  have hown : s.vm.findClass "com/example/tariffline/tariffline/tariff/Taric3TypeCollapsesBlanksPinLaw" = some m.cls := findClass_of_methodNamed Bd.named
  have hnm := (name_of_methodNamed Bd.named Bd.method).1
  have X0 : Stand p l e room_1 s m #[(.int p1)] below meth c s₁ [] 0 0 := Stand.of_body Bd
  have e0 : s₁.heap = h0 := by rw [← hh, Bd.state]; rfl
  have N0 := Fr.nil n0
  refine own_in (Q := own_Q0 n0) ?_
  rw [own_ef0]
  show own_G _ _ _ _ _ _ _ (s₁.setTop (mkF m 0 #[.val (.int p1), .unset, .unset, .unset] []))
  have J : ∀ {T2 : State} {locs2 : List Loc} (X2 : Stand p l e room_1 s m #[(.int p1)] below meth c T2 locs2 0 0) (e2 : T2.heap = h0) (N2 : Fr n0 locs2) (a2 : Addr) (kk v3 : Int32) (A2 : Exa Z h0 a2 "com/example/tariffline/tariffline/tariff/Taric3Type$Base") (hv : v3 = own_b (¬ a2 = c_STRING)), own_G p.tables e below s (own_Q0 n0) room_1.cells room_1.slots (T2.setTop (mkF m 97 #[.val (.int p1), .val (.int kk), .val (.ref a2), .val (.int v3)] [])) := by
    intro T2 locs2 X2 e2 N2 a2 kk v3 A2 hv
    refine own_st (fun t k => XS.aloadN X2.here hx rfl (hb hby at_97) rfl rfl k) ?_
    show own_G _ _ _ _ _ _ _ (T2.setTop (mkF m 98 #[.val (.int p1), .val (.int kk), .val (.ref a2), .val (.int v3)] [(.ref a2)]))
    obtain ⟨cq3, kq3, q3a, q3b, q3c⟩ := isOf hZ e2 A2
    obtain ⟨_, _, ⟨T3, L3, k3, n3⟩, -, X3, ⟨Lc3, hQ3, l3, y3, z3⟩, st3⟩ := X2.virtualBack hx (y := (⟨"com/example/tariffline/tariffline/tariff/Taric3Type$Base", "collapsesBlanks", "()Z"⟩ : MethodName)) (z := (⟨"com/example/tariffline/tariffline/tariff/Taric3Type$Base", "collapsesBlanks", "()Z"⟩ : MethodName)) hown (mvT hZ (hw _ (List.mem_of_getElem? (i := 4) rfl))) (mvT hZ (hw _ (List.mem_of_getElem? (i := 5) rfl))) (notFace_of_selects (args := #[]) (mvT hZ (hw _ (List.mem_of_getElem? (i := 7) rfl)))) (mvT hZ (hw _ (List.mem_of_getElem? (i := 7) rfl))) (mvT hZ (hw _ (List.mem_of_getElem? (i := 6) rfl))) (by decide) (backOf (W := 0) (own_rm1 l Z a0 hw [] a2 c_STRING h0 n0 Z0 S_STRING) hZ (hw _ (List.mem_of_getElem? (i := 8) rfl)) (hw _ (List.mem_of_getElem? (i := 2) rfl)) (by decide) (by decide)) q3a q3c (g := (mkF m 98 #[.val (.int p1), .val (.int kk), .val (.ref a2), .val (.int v3)] [(.ref a2)])) rfl (by rw [hml]; rfl) (Steps.refl _) (argsL := []) (rest := []) (lenOf own_pd0 rfl) rfl (by show 2 * 0 + _ ≤ _; exact Nat.le_of_eq rfl) (hb hby at_98) (fun _ _ => ⟨rfl, e2, (by decide : 0 + 0 ≤ _), (by decide : 0 + 0 ≤ _)⟩)
    dsimp only [Pt.U, Pt.locs, Pt.cells, Pt.slots] at X3 l3 y3 z3 st3 hQ3
    subst l3 y3 z3
    obtain ⟨rfl, N3q, e3⟩ := hQ3
    have N3 := Fr.app N2 N3q
    refine own_st (fun t k => st3.trans k) ?_
    show own_G _ _ _ _ _ _ _ (T3.setTop (mkF m 101 #[.val (.int p1), .val (.int kk), .val (.ref a2), .val (.int v3)] [(.int (own_b (¬ a2 = c_STRING)))]))
    refine own_st (fun t k => XS.iloadN X3.here hx rfl (hb hby at_101) rfl k) ?_
    show own_G _ _ _ _ _ _ _ (T3.setTop (mkF m 102 #[.val (.int p1), .val (.int kk), .val (.ref a2), .val (.int v3)] [(.int v3), (.int (own_b (¬ a2 = c_STRING)))]))
    refine own_st (fun t k => XS.icmpNo X3.here hx rfl (hb hby at_102) rfl (teq hv.symm).2 k) ?_
    show own_G _ _ _ _ _ _ _ (T3.setTop (mkF m 105 #[.val (.int p1), .val (.int kk), .val (.ref a2), .val (.int v3)] []))
    refine own_st (fun t k => XS.iconst X3.here hx rfl (hb hby at_105) k) ?_
    show own_G _ _ _ _ _ _ _ (T3.setTop (mkF m 106 #[.val (.int p1), .val (.int kk), .val (.ref a2), .val (.int v3)] [(.int (1 : Int32))]))
    refine own_st (fun t k => XS.goto X3.here hx rfl (pc0 := 106) (pc' := 110) rfl (hb hby at_106) (by decide) (by decide) k) ?_
    show own_G _ _ _ _ _ _ _ (T3.setTop (mkF m 110 #[.val (.int p1), .val (.int kk), .val (.ref a2), .val (.int v3)] [(.int (1 : Int32))]))
    exact own_retN (t := .boolean) (by simp) X3 hx Bd.returns (BodyLoose.notSynchronized Bd) (hb hby at_110) (by decide) (by decide) ⟨rfl, N3⟩
  refine own_st (fun t k => XS.iloadN X0.here hx rfl (hb hby at_0) rfl k) ?_
  show own_G _ _ _ _ _ _ _ (s₁.setTop (mkF m 1 #[.val (.int p1), .unset, .unset, .unset] [(.int p1)]))
  refine own_st (fun t k => X0.ldcInt hx hown (mvT hZ (hw _ (List.mem_of_getElem? (i := 0) rfl))) (g := (mkF m 1 #[.val (.int p1), .unset, .unset, .unset] [(.int p1)])) rfl (hb hby at_1) t k) ?_
  show own_G _ _ _ _ _ _ _ (s₁.setTop (mkF m 3 #[.val (.int p1), .unset, .unset, .unset] [(.int (2147483647 : Int32)), (.int p1)]))
  refine own_st (fun t k => XS.iand X0.here hx rfl (hb hby at_3) rfl k) ?_
  show own_G _ _ _ _ _ _ _ (s₁.setTop (mkF m 4 #[.val (.int p1), .unset, .unset, .unset] [(.int (p1 &&& (2147483647 : Int32)))]))
  refine own_st (fun t k => XS.bipush X0.here hx rfl (hb hby at_4) k) ?_
  show own_G _ _ _ _ _ _ _ (s₁.setTop (mkF m 6 #[.val (.int p1), .unset, .unset, .unset] [(.int (7 : Int32)), (.int (p1 &&& (2147483647 : Int32)))]))
  refine own_st (fun t k => iremM X0 hx rfl (hb hby at_6) rfl (by decide) k) ?_
  show own_G _ _ _ _ _ _ _ (s₁.setTop (mkF m 7 #[.val (.int p1), .unset, .unset, .unset] [(.int ((p1 &&& (2147483647 : Int32)) % (7 : Int32)))]))
  generalize h_kk : ((p1 &&& (2147483647 : Int32)) % (7 : Int32)) = kk
  show own_G _ _ _ _ _ _ _ (s₁.setTop (mkF m 7 #[.val (.int p1), .unset, .unset, .unset] [(.int kk)]))
  refine own_st (fun t k => XS.istoreN X0.here hx rfl (hb hby at_7) rfl (l' := #[.val (.int p1), .val (.int kk), .unset, .unset]) rfl k) ?_
  show own_G _ _ _ _ _ _ _ (s₁.setTop (mkF m 8 #[.val (.int p1), .val (.int kk), .unset, .unset] []))
  refine own_st (fun t k => XS.iloadN X0.here hx rfl (hb hby at_8) rfl k) ?_
  show own_G _ _ _ _ _ _ _ (s₁.setTop (mkF m 9 #[.val (.int p1), .val (.int kk), .unset, .unset] [(.int kk)]))
  by_cases hk0 : kk = (0 : Int32)
  · refine own_st (fun t k => XS.ifNo X0.here hx rfl (hb hby at_9) rfl ((if0 _ _).trans (teq hk0).2) k) ?_
    show own_G _ _ _ _ _ _ _ (s₁.setTop (mkF m 12 #[.val (.int p1), .val (.int kk), .unset, .unset] []))
    obtain ⟨T4, X4, e4, st4⟩ := getS2 X0 hx hZ hown (host := "") (Or.inl (hw _ (List.mem_of_getElem? (i := 1) rfl))) Via.refl e0 S_STRING (g := (mkF m 12 #[.val (.int p1), .val (.int kk), .unset, .unset] [])) rfl (hb hby at_12)
    refine own_st (fun t k => st4 t k) ?_
    show own_G _ _ _ _ _ _ _ (T4.setTop (mkF m 15 #[.val (.int p1), .val (.int kk), .unset, .unset] [(.ref c_STRING)]))
    refine own_st (fun t k => XS.astoreN X4.here hx rfl (hb hby at_15) rfl rfl (l' := #[.val (.int p1), .val (.int kk), .val (.ref c_STRING), .unset]) rfl k) ?_
    show own_G _ _ _ _ _ _ _ (T4.setTop (mkF m 16 #[.val (.int p1), .val (.int kk), .val (.ref c_STRING), .unset] []))
    refine own_st (fun t k => XS.iconst X4.here hx rfl (hb hby at_16) k) ?_
    show own_G _ _ _ _ _ _ _ (T4.setTop (mkF m 17 #[.val (.int p1), .val (.int kk), .val (.ref c_STRING), .unset] [(.int (0 : Int32))]))
    refine own_st (fun t k => XS.istoreN X4.here hx rfl (hb hby at_17) rfl (l' := #[.val (.int p1), .val (.int kk), .val (.ref c_STRING), .val (.int (0 : Int32))]) rfl k) ?_
    show own_G _ _ _ _ _ _ _ (T4.setTop (mkF m 18 #[.val (.int p1), .val (.int kk), .val (.ref c_STRING), .val (.int (0 : Int32))] []))
    refine own_st (fun t k => XS.goto X4.here hx rfl (pc0 := 18) (pc' := 97) rfl (hb hby at_18) (by decide) (by decide) k) ?_
    show own_G _ _ _ _ _ _ _ (T4.setTop (mkF m 97 #[.val (.int p1), .val (.int kk), .val (.ref c_STRING), .val (.int (0 : Int32))] []))
    exact J X4 e4 N0 _ _ _ A_STRING (by rw [own_b, if_neg (fun q => q rfl)])
  · refine own_st (fun t k => XS.ifYes X0.here hx rfl (pc0 := 9) (pc' := 21) rfl (hb hby at_9) rfl ((if0 _ _).trans (feq hk0).2) (by decide) (by decide) k) ?_
    show own_G _ _ _ _ _ _ _ (s₁.setTop (mkF m 21 #[.val (.int p1), .val (.int kk), .unset, .unset] []))
    refine own_st (fun t k => XS.iloadN X0.here hx rfl (hb hby at_21) rfl k) ?_
    show own_G _ _ _ _ _ _ _ (s₁.setTop (mkF m 22 #[.val (.int p1), .val (.int kk), .unset, .unset] [(.int kk)]))
    refine own_st (fun t k => XS.iconst X0.here hx rfl (hb hby at_22) k) ?_
    show own_G _ _ _ _ _ _ _ (s₁.setTop (mkF m 23 #[.val (.int p1), .val (.int kk), .unset, .unset] [(.int (1 : Int32)), (.int kk)]))
    by_cases hk1 : kk = (1 : Int32)
    · refine own_st (fun t k => XS.icmpNo X0.here hx rfl (hb hby at_23) rfl (teq hk1).2 k) ?_
      show own_G _ _ _ _ _ _ _ (s₁.setTop (mkF m 26 #[.val (.int p1), .val (.int kk), .unset, .unset] []))
      obtain ⟨T5, X5, e5, st5⟩ := getS2 X0 hx hZ hown (host := "") (Or.inl (hw _ (List.mem_of_getElem? (i := 20) rfl))) Via.refl e0 S_INT (g := (mkF m 26 #[.val (.int p1), .val (.int kk), .unset, .unset] [])) rfl (hb hby at_26)
      refine own_st (fun t k => st5 t k) ?_
      show own_G _ _ _ _ _ _ _ (T5.setTop (mkF m 29 #[.val (.int p1), .val (.int kk), .unset, .unset] [(.ref c_INT)]))
      refine own_st (fun t k => XS.astoreN X5.here hx rfl (hb hby at_29) rfl rfl (l' := #[.val (.int p1), .val (.int kk), .val (.ref c_INT), .unset]) rfl k) ?_
      show own_G _ _ _ _ _ _ _ (T5.setTop (mkF m 30 #[.val (.int p1), .val (.int kk), .val (.ref c_INT), .unset] []))
      refine own_st (fun t k => XS.iconst X5.here hx rfl (hb hby at_30) k) ?_
      show own_G _ _ _ _ _ _ _ (T5.setTop (mkF m 31 #[.val (.int p1), .val (.int kk), .val (.ref c_INT), .unset] [(.int (1 : Int32))]))
      refine own_st (fun t k => XS.istoreN X5.here hx rfl (hb hby at_31) rfl (l' := #[.val (.int p1), .val (.int kk), .val (.ref c_INT), .val (.int (1 : Int32))]) rfl k) ?_
      show own_G _ _ _ _ _ _ _ (T5.setTop (mkF m 32 #[.val (.int p1), .val (.int kk), .val (.ref c_INT), .val (.int (1 : Int32))] []))
      refine own_st (fun t k => XS.goto X5.here hx rfl (pc0 := 32) (pc' := 97) rfl (hb hby at_32) (by decide) (by decide) k) ?_
      show own_G _ _ _ _ _ _ _ (T5.setTop (mkF m 97 #[.val (.int p1), .val (.int kk), .val (.ref c_INT), .val (.int (1 : Int32))] []))
      exact J X5 e5 N0 _ _ _ A_INT (by rw [own_b, if_pos d_INT])
    · refine own_st (fun t k => XS.icmpYes X0.here hx rfl (pc0 := 23) (pc' := 35) rfl (hb hby at_23) rfl (feq hk1).2 (by decide) (by decide) k) ?_
      show own_G _ _ _ _ _ _ _ (s₁.setTop (mkF m 35 #[.val (.int p1), .val (.int kk), .unset, .unset] []))
      refine own_st (fun t k => XS.iloadN X0.here hx rfl (hb hby at_35) rfl k) ?_
      show own_G _ _ _ _ _ _ _ (s₁.setTop (mkF m 36 #[.val (.int p1), .val (.int kk), .unset, .unset] [(.int kk)]))
      refine own_st (fun t k => XS.iconst X0.here hx rfl (hb hby at_36) k) ?_
      show own_G _ _ _ _ _ _ _ (s₁.setTop (mkF m 37 #[.val (.int p1), .val (.int kk), .unset, .unset] [(.int (2 : Int32)), (.int kk)]))
      by_cases hk2 : kk = (2 : Int32)
      · refine own_st (fun t k => XS.icmpNo X0.here hx rfl (hb hby at_37) rfl (teq hk2).2 k) ?_
        show own_G _ _ _ _ _ _ _ (s₁.setTop (mkF m 40 #[.val (.int p1), .val (.int kk), .unset, .unset] []))
        obtain ⟨T6, X6, e6, st6⟩ := getS2 X0 hx hZ hown (host := "") (Or.inl (hw _ (List.mem_of_getElem? (i := 18) rfl))) Via.refl e0 S_DECIMAL (g := (mkF m 40 #[.val (.int p1), .val (.int kk), .unset, .unset] [])) rfl (hb hby at_40)
        refine own_st (fun t k => st6 t k) ?_
        show own_G _ _ _ _ _ _ _ (T6.setTop (mkF m 43 #[.val (.int p1), .val (.int kk), .unset, .unset] [(.ref c_DECIMAL)]))
        refine own_st (fun t k => XS.astoreN X6.here hx rfl (hb hby at_43) rfl rfl (l' := #[.val (.int p1), .val (.int kk), .val (.ref c_DECIMAL), .unset]) rfl k) ?_
        show own_G _ _ _ _ _ _ _ (T6.setTop (mkF m 44 #[.val (.int p1), .val (.int kk), .val (.ref c_DECIMAL), .unset] []))
        refine own_st (fun t k => XS.iconst X6.here hx rfl (hb hby at_44) k) ?_
        show own_G _ _ _ _ _ _ _ (T6.setTop (mkF m 45 #[.val (.int p1), .val (.int kk), .val (.ref c_DECIMAL), .unset] [(.int (1 : Int32))]))
        refine own_st (fun t k => XS.istoreN X6.here hx rfl (hb hby at_45) rfl (l' := #[.val (.int p1), .val (.int kk), .val (.ref c_DECIMAL), .val (.int (1 : Int32))]) rfl k) ?_
        show own_G _ _ _ _ _ _ _ (T6.setTop (mkF m 46 #[.val (.int p1), .val (.int kk), .val (.ref c_DECIMAL), .val (.int (1 : Int32))] []))
        refine own_st (fun t k => XS.goto X6.here hx rfl (pc0 := 46) (pc' := 97) rfl (hb hby at_46) (by decide) (by decide) k) ?_
        show own_G _ _ _ _ _ _ _ (T6.setTop (mkF m 97 #[.val (.int p1), .val (.int kk), .val (.ref c_DECIMAL), .val (.int (1 : Int32))] []))
        exact J X6 e6 N0 _ _ _ A_DECIMAL (by rw [own_b, if_pos d_DECIMAL])
      · refine own_st (fun t k => XS.icmpYes X0.here hx rfl (pc0 := 37) (pc' := 49) rfl (hb hby at_37) rfl (feq hk2).2 (by decide) (by decide) k) ?_
        show own_G _ _ _ _ _ _ _ (s₁.setTop (mkF m 49 #[.val (.int p1), .val (.int kk), .unset, .unset] []))
        refine own_st (fun t k => XS.iloadN X0.here hx rfl (hb hby at_49) rfl k) ?_
        show own_G _ _ _ _ _ _ _ (s₁.setTop (mkF m 50 #[.val (.int p1), .val (.int kk), .unset, .unset] [(.int kk)]))
        refine own_st (fun t k => XS.iconst X0.here hx rfl (hb hby at_50) k) ?_
        show own_G _ _ _ _ _ _ _ (s₁.setTop (mkF m 51 #[.val (.int p1), .val (.int kk), .unset, .unset] [(.int (3 : Int32)), (.int kk)]))
        by_cases hk3 : kk = (3 : Int32)
        · refine own_st (fun t k => XS.icmpNo X0.here hx rfl (hb hby at_51) rfl (teq hk3).2 k) ?_
          show own_G _ _ _ _ _ _ _ (s₁.setTop (mkF m 54 #[.val (.int p1), .val (.int kk), .unset, .unset] []))
          obtain ⟨T7, X7, e7, st7⟩ := getS2 X0 hx hZ hown (host := "") (Or.inl (hw _ (List.mem_of_getElem? (i := 10) rfl))) Via.refl e0 S_DATE (g := (mkF m 54 #[.val (.int p1), .val (.int kk), .unset, .unset] [])) rfl (hb hby at_54)
          refine own_st (fun t k => st7 t k) ?_
          show own_G _ _ _ _ _ _ _ (T7.setTop (mkF m 57 #[.val (.int p1), .val (.int kk), .unset, .unset] [(.ref c_DATE)]))
          refine own_st (fun t k => XS.astoreN X7.here hx rfl (hb hby at_57) rfl rfl (l' := #[.val (.int p1), .val (.int kk), .val (.ref c_DATE), .unset]) rfl k) ?_
          show own_G _ _ _ _ _ _ _ (T7.setTop (mkF m 58 #[.val (.int p1), .val (.int kk), .val (.ref c_DATE), .unset] []))
          refine own_st (fun t k => XS.iconst X7.here hx rfl (hb hby at_58) k) ?_
          show own_G _ _ _ _ _ _ _ (T7.setTop (mkF m 59 #[.val (.int p1), .val (.int kk), .val (.ref c_DATE), .unset] [(.int (1 : Int32))]))
          refine own_st (fun t k => XS.istoreN X7.here hx rfl (hb hby at_59) rfl (l' := #[.val (.int p1), .val (.int kk), .val (.ref c_DATE), .val (.int (1 : Int32))]) rfl k) ?_
          show own_G _ _ _ _ _ _ _ (T7.setTop (mkF m 60 #[.val (.int p1), .val (.int kk), .val (.ref c_DATE), .val (.int (1 : Int32))] []))
          refine own_st (fun t k => XS.goto X7.here hx rfl (pc0 := 60) (pc' := 97) rfl (hb hby at_60) (by decide) (by decide) k) ?_
          show own_G _ _ _ _ _ _ _ (T7.setTop (mkF m 97 #[.val (.int p1), .val (.int kk), .val (.ref c_DATE), .val (.int (1 : Int32))] []))
          exact J X7 e7 N0 _ _ _ A_DATE (by rw [own_b, if_pos d_DATE])
        · refine own_st (fun t k => XS.icmpYes X0.here hx rfl (pc0 := 51) (pc' := 63) rfl (hb hby at_51) rfl (feq hk3).2 (by decide) (by decide) k) ?_
          show own_G _ _ _ _ _ _ _ (s₁.setTop (mkF m 63 #[.val (.int p1), .val (.int kk), .unset, .unset] []))
          refine own_st (fun t k => XS.iloadN X0.here hx rfl (hb hby at_63) rfl k) ?_
          show own_G _ _ _ _ _ _ _ (s₁.setTop (mkF m 64 #[.val (.int p1), .val (.int kk), .unset, .unset] [(.int kk)]))
          refine own_st (fun t k => XS.iconst X0.here hx rfl (hb hby at_64) k) ?_
          show own_G _ _ _ _ _ _ _ (s₁.setTop (mkF m 65 #[.val (.int p1), .val (.int kk), .unset, .unset] [(.int (4 : Int32)), (.int kk)]))
          by_cases hk4 : kk = (4 : Int32)
          · refine own_st (fun t k => XS.icmpNo X0.here hx rfl (hb hby at_65) rfl (teq hk4).2 k) ?_
            show own_G _ _ _ _ _ _ _ (s₁.setTop (mkF m 68 #[.val (.int p1), .val (.int kk), .unset, .unset] []))
            obtain ⟨T8, X8, e8, st8⟩ := getS2 X0 hx hZ hown (host := "") (Or.inl (hw _ (List.mem_of_getElem? (i := 16) rfl))) Via.refl e0 S_DATE_TIME (g := (mkF m 68 #[.val (.int p1), .val (.int kk), .unset, .unset] [])) rfl (hb hby at_68)
            refine own_st (fun t k => st8 t k) ?_
            show own_G _ _ _ _ _ _ _ (T8.setTop (mkF m 71 #[.val (.int p1), .val (.int kk), .unset, .unset] [(.ref c_DATE_TIME)]))
            refine own_st (fun t k => XS.astoreN X8.here hx rfl (hb hby at_71) rfl rfl (l' := #[.val (.int p1), .val (.int kk), .val (.ref c_DATE_TIME), .unset]) rfl k) ?_
            show own_G _ _ _ _ _ _ _ (T8.setTop (mkF m 72 #[.val (.int p1), .val (.int kk), .val (.ref c_DATE_TIME), .unset] []))
            refine own_st (fun t k => XS.iconst X8.here hx rfl (hb hby at_72) k) ?_
            show own_G _ _ _ _ _ _ _ (T8.setTop (mkF m 73 #[.val (.int p1), .val (.int kk), .val (.ref c_DATE_TIME), .unset] [(.int (1 : Int32))]))
            refine own_st (fun t k => XS.istoreN X8.here hx rfl (hb hby at_73) rfl (l' := #[.val (.int p1), .val (.int kk), .val (.ref c_DATE_TIME), .val (.int (1 : Int32))]) rfl k) ?_
            show own_G _ _ _ _ _ _ _ (T8.setTop (mkF m 74 #[.val (.int p1), .val (.int kk), .val (.ref c_DATE_TIME), .val (.int (1 : Int32))] []))
            refine own_st (fun t k => XS.goto X8.here hx rfl (pc0 := 74) (pc' := 97) rfl (hb hby at_74) (by decide) (by decide) k) ?_
            show own_G _ _ _ _ _ _ _ (T8.setTop (mkF m 97 #[.val (.int p1), .val (.int kk), .val (.ref c_DATE_TIME), .val (.int (1 : Int32))] []))
            exact J X8 e8 N0 _ _ _ A_DATE_TIME (by rw [own_b, if_pos d_DATE_TIME])
          · refine own_st (fun t k => XS.icmpYes X0.here hx rfl (pc0 := 65) (pc' := 77) rfl (hb hby at_65) rfl (feq hk4).2 (by decide) (by decide) k) ?_
            show own_G _ _ _ _ _ _ _ (s₁.setTop (mkF m 77 #[.val (.int p1), .val (.int kk), .unset, .unset] []))
            refine own_st (fun t k => XS.iloadN X0.here hx rfl (hb hby at_77) rfl k) ?_
            show own_G _ _ _ _ _ _ _ (s₁.setTop (mkF m 78 #[.val (.int p1), .val (.int kk), .unset, .unset] [(.int kk)]))
            refine own_st (fun t k => XS.iconst X0.here hx rfl (hb hby at_78) k) ?_
            show own_G _ _ _ _ _ _ _ (s₁.setTop (mkF m 79 #[.val (.int p1), .val (.int kk), .unset, .unset] [(.int (5 : Int32)), (.int kk)]))
            by_cases hk5 : kk = (5 : Int32)
            · refine own_st (fun t k => XS.icmpNo X0.here hx rfl (hb hby at_79) rfl (teq hk5).2 k) ?_
              show own_G _ _ _ _ _ _ _ (s₁.setTop (mkF m 82 #[.val (.int p1), .val (.int kk), .unset, .unset] []))
              obtain ⟨T9, X9, e9, st9⟩ := getS2 X0 hx hZ hown (host := "") (Or.inl (hw _ (List.mem_of_getElem? (i := 12) rfl))) Via.refl e0 S_NMTOKEN (g := (mkF m 82 #[.val (.int p1), .val (.int kk), .unset, .unset] [])) rfl (hb hby at_82)
              refine own_st (fun t k => st9 t k) ?_
              show own_G _ _ _ _ _ _ _ (T9.setTop (mkF m 85 #[.val (.int p1), .val (.int kk), .unset, .unset] [(.ref c_NMTOKEN)]))
              refine own_st (fun t k => XS.astoreN X9.here hx rfl (hb hby at_85) rfl rfl (l' := #[.val (.int p1), .val (.int kk), .val (.ref c_NMTOKEN), .unset]) rfl k) ?_
              show own_G _ _ _ _ _ _ _ (T9.setTop (mkF m 86 #[.val (.int p1), .val (.int kk), .val (.ref c_NMTOKEN), .unset] []))
              refine own_st (fun t k => XS.iconst X9.here hx rfl (hb hby at_86) k) ?_
              show own_G _ _ _ _ _ _ _ (T9.setTop (mkF m 87 #[.val (.int p1), .val (.int kk), .val (.ref c_NMTOKEN), .unset] [(.int (1 : Int32))]))
              refine own_st (fun t k => XS.istoreN X9.here hx rfl (hb hby at_87) rfl (l' := #[.val (.int p1), .val (.int kk), .val (.ref c_NMTOKEN), .val (.int (1 : Int32))]) rfl k) ?_
              show own_G _ _ _ _ _ _ _ (T9.setTop (mkF m 88 #[.val (.int p1), .val (.int kk), .val (.ref c_NMTOKEN), .val (.int (1 : Int32))] []))
              refine own_st (fun t k => XS.goto X9.here hx rfl (pc0 := 88) (pc' := 97) rfl (hb hby at_88) (by decide) (by decide) k) ?_
              show own_G _ _ _ _ _ _ _ (T9.setTop (mkF m 97 #[.val (.int p1), .val (.int kk), .val (.ref c_NMTOKEN), .val (.int (1 : Int32))] []))
              exact J X9 e9 N0 _ _ _ A_NMTOKEN (by rw [own_b, if_pos d_NMTOKEN])
            · refine own_st (fun t k => XS.icmpYes X0.here hx rfl (pc0 := 79) (pc' := 91) rfl (hb hby at_79) rfl (feq hk5).2 (by decide) (by decide) k) ?_
              show own_G _ _ _ _ _ _ _ (s₁.setTop (mkF m 91 #[.val (.int p1), .val (.int kk), .unset, .unset] []))
              obtain ⟨T10, X10, e10, st10⟩ := getS2 X0 hx hZ hown (host := "") (Or.inl (hw _ (List.mem_of_getElem? (i := 14) rfl))) Via.refl e0 S_LANGUAGE (g := (mkF m 91 #[.val (.int p1), .val (.int kk), .unset, .unset] [])) rfl (hb hby at_91)
              refine own_st (fun t k => st10 t k) ?_
              show own_G _ _ _ _ _ _ _ (T10.setTop (mkF m 94 #[.val (.int p1), .val (.int kk), .unset, .unset] [(.ref c_LANGUAGE)]))
              refine own_st (fun t k => XS.astoreN X10.here hx rfl (hb hby at_94) rfl rfl (l' := #[.val (.int p1), .val (.int kk), .val (.ref c_LANGUAGE), .unset]) rfl k) ?_
              show own_G _ _ _ _ _ _ _ (T10.setTop (mkF m 95 #[.val (.int p1), .val (.int kk), .val (.ref c_LANGUAGE), .unset] []))
              refine own_st (fun t k => XS.iconst X10.here hx rfl (hb hby at_95) k) ?_
              show own_G _ _ _ _ _ _ _ (T10.setTop (mkF m 96 #[.val (.int p1), .val (.int kk), .val (.ref c_LANGUAGE), .unset] [(.int (1 : Int32))]))
              refine own_st (fun t k => XS.istoreN X10.here hx rfl (hb hby at_96) rfl (l' := #[.val (.int p1), .val (.int kk), .val (.ref c_LANGUAGE), .val (.int (1 : Int32))]) rfl k) ?_
              show own_G _ _ _ _ _ _ _ (T10.setTop (mkF m 97 #[.val (.int p1), .val (.int kk), .val (.ref c_LANGUAGE), .val (.int (1 : Int32))] []))
              exact J X10 e10 N0 _ _ _ A_LANGUAGE (by rw [own_b, if_pos d_LANGUAGE])
set_option maxRecDepth 65536 in
set_option maxHeartbeats 40000000 in
theorem own_comes {Post : Tables → Env → Array Value → State → Outcome → State → Prop} (hpost : ∀ tb e args s v u, (limb_1_1.after args s (.returned v) u = true ∧ limb_1_2.after args s (.returned v) u = true ∧ True) → FrameEnd s (.returned v) u (Jvm.fieldLocs frame_1_writes args s ++ Jvm.arrayLocs frame_1_arrays args s ++ Jvm.staticLocs frame_1_statics s) 0 0 → Post tb e args s (.returned v) u) :
    ArmFor flags0 classFile x code maxLocals ret World_1 tables_1 room_1 Calls_1 rest_1 Pre_1 Post := by
  intro l hfl _ _ p e ha hc hk s m args below hf hA hF happ hP
  obtain ⟨hcalls, hrest, hpre⟩ := hP
  obtain ⟨-, -, -, hnamed, -, -, -, hat⟩ := (Spec.applies_iff hf).mp happ
  obtain ⟨hg, hn⟩ := and_e (Cond.before_iff.mp (show (Jvm.Cond.and given_1 narrow_1).before args s = true from hpre))
  obtain ⟨gc, ga0⟩ := and_e hg
  obtain ⟨w0, rfl⟩ : ∃ w0 : Value, args = #[w0] := by
    have hs : args.size = 1 := by simpa [Cond.value, given_1] using gc
    obtain ⟨L⟩ := args
    match L, hs with
    | [w0], _ => exact ⟨w0, rfl⟩
  have hw := fun d (hd : d ∈ tables_1) => atoms_spec (ws := Jvm.Cond.code x code maxLocals ret :: tables_1) hat d (List.mem_cons_of_mem _ hd)
  have hfit : Fit s := fun {y c} hc i hi => by
    obtain ⟨ha, rfl⟩ := Array.getElem?_eq_some_iff.mp hc
    have q := List.all_eq_true.mp ((Array.all_eq_true_iff_forall_mem.mp hF) _ (Array.getElem_mem ha)) i (List.mem_range.mpr hi)
    simpa [Array.getElem?_eq_getElem hi] using q
  obtain ⟨i0, ei0⟩ := is_v ga0
  obtain rfl : w0 = (.int i0) := Option.some.inj ei0
  obtain ⟨nr0, nq0⟩ := and_e hn
  obtain ⟨nr1, nq1⟩ := and_e nq0
  obtain ⟨nr2, nq2⟩ := and_e nq1
  obtain ⟨nr3, nq3⟩ := and_e nq2
  obtain ⟨nr4, nq4⟩ := and_e nq3
  obtain ⟨nr5, nq5⟩ := and_e nq4
  obtain ⟨nr6, nq6⟩ := and_e nq5
  obtain ⟨nr7, nq7⟩ := and_e nq6
  obtain ⟨nr8, nq8⟩ := and_e nq7
  obtain ⟨nr9, nq9⟩ := and_e nq8
  obtain ⟨nr10, nq10⟩ := and_e nq9
  obtain ⟨nr11, nq11⟩ := and_e nq10
  obtain ⟨nr12, nq12⟩ := and_e nq11
  obtain ⟨c_STRING, ev_STRING⟩ := exa_v nr0
  have A_STRING := Exa.start ev_STRING nr0
  have S_STRING := Sta.start ev_STRING (Or.inr ⟨(hw _ (List.mem_of_getElem? (i := 2) rfl)), (hw _ (List.mem_of_getElem? (i := 3) rfl))⟩)
  have O_STRING := own_ord ev_STRING nr3
  obtain ⟨c_DATE, ev_DATE⟩ := exa_v nr1
  have A_DATE := Exa.start ev_DATE nr1
  have S_DATE := Sta.start ev_DATE (Or.inr ⟨(hw _ (List.mem_of_getElem? (i := 2) rfl)), (hw _ (List.mem_of_getElem? (i := 11) rfl))⟩)
  have O_DATE := own_ord ev_DATE nr2
  obtain ⟨c_NMTOKEN, ev_NMTOKEN⟩ := exa_v nr4
  have A_NMTOKEN := Exa.start ev_NMTOKEN nr4
  have S_NMTOKEN := Sta.start ev_NMTOKEN (Or.inr ⟨(hw _ (List.mem_of_getElem? (i := 2) rfl)), (hw _ (List.mem_of_getElem? (i := 13) rfl))⟩)
  have O_NMTOKEN := own_ord ev_NMTOKEN nr5
  obtain ⟨c_LANGUAGE, ev_LANGUAGE⟩ := exa_v nr6
  have A_LANGUAGE := Exa.start ev_LANGUAGE nr6
  have S_LANGUAGE := Sta.start ev_LANGUAGE (Or.inr ⟨(hw _ (List.mem_of_getElem? (i := 2) rfl)), (hw _ (List.mem_of_getElem? (i := 15) rfl))⟩)
  have O_LANGUAGE := own_ord ev_LANGUAGE nr7
  obtain ⟨c_DATE_TIME, ev_DATE_TIME⟩ := exa_v nr8
  have A_DATE_TIME := Exa.start ev_DATE_TIME nr8
  have S_DATE_TIME := Sta.start ev_DATE_TIME (Or.inr ⟨(hw _ (List.mem_of_getElem? (i := 2) rfl)), (hw _ (List.mem_of_getElem? (i := 17) rfl))⟩)
  have O_DATE_TIME := own_ord ev_DATE_TIME nr9
  obtain ⟨c_DECIMAL, ev_DECIMAL⟩ := exa_v nr10
  have A_DECIMAL := Exa.start ev_DECIMAL nr10
  have S_DECIMAL := Sta.start ev_DECIMAL (Or.inr ⟨(hw _ (List.mem_of_getElem? (i := 2) rfl)), (hw _ (List.mem_of_getElem? (i := 19) rfl))⟩)
  have O_DECIMAL := own_ord ev_DECIMAL nr11
  obtain ⟨c_INT, ev_INT⟩ := exa_v nr12
  have A_INT := Exa.start ev_INT nr12
  have S_INT := Sta.start ev_INT (Or.inr ⟨(hw _ (List.mem_of_getElem? (i := 2) rfl)), (hw _ (List.mem_of_getElem? (i := 21) rfl))⟩)
  have O_INT := own_ord ev_INT nq12
  have d_INT : ¬ c_INT = c_STRING := Fld.ne O_INT O_STRING (fun q => absurd (Value.int.inj q) (by decide))
  have d_DECIMAL : ¬ c_DECIMAL = c_STRING := Fld.ne O_DECIMAL O_STRING (fun q => absurd (Value.int.inj q) (by decide))
  have d_DATE : ¬ c_DATE = c_STRING := Fld.ne O_DATE O_STRING (fun q => absurd (Value.int.inj q) (by decide))
  have d_DATE_TIME : ¬ c_DATE_TIME = c_STRING := Fld.ne O_DATE_TIME O_STRING (fun q => absurd (Value.int.inj q) (by decide))
  have d_NMTOKEN : ¬ c_NMTOKEN = c_STRING := Fld.ne O_NMTOKEN O_STRING (fun q => absurd (Value.int.inj q) (by decide))
  have d_LANGUAGE : ¬ c_LANGUAGE = c_STRING := Fld.ne O_LANGUAGE O_STRING (fun q => absurd (Value.int.inj q) (by decide))
  obtain ⟨n, o, h1, h2, h3, _, L, rfl, ⟨rfl, N⟩, hq⟩ := own_rm0 l s _ hw tables_1 i0 c_STRING c_INT c_DECIMAL c_DATE c_DATE_TIME c_NMTOKEN c_LANGUAGE s.heap s.heap.size (Nat.le_refl _) S_STRING A_STRING S_INT A_INT S_DECIMAL A_DECIMAL S_DATE A_DATE S_DATE_TIME A_DATE_TIME S_NMTOKEN A_NMTOKEN S_LANGUAGE A_LANGUAGE d_INT d_DECIMAL d_DATE d_DATE_TIME d_NMTOKEN d_LANGUAGE p e ha hc hk s m _ below hf ((Spec.applies_iff_loose hf).mp happ).1 ⟨rfl, State.Warmed39.refl s, rfl⟩ trivial
  refine ⟨n, _, h1, h2, h3, hpost _ _ _ _ _ _ ⟨Cond.after_iff.mpr rfl, Cond.after_iff.mpr (eq_i res_at (Term.int_eval (1)) rfl), trivial⟩ ⟨hq.1, hq.2.1, (hq.2.2.sift fun y hy => Or.inr (N y hy)).mono (by decide) (by decide)⟩⟩
theorem main_1_1 : Claimed_1_1 := own_comes fun _ _ _ _ _ _ h hF => ⟨h.1, hF⟩
theorem main_1_2 : Claimed_1_2 := own_comes fun _ _ _ _ _ _ h hF => ⟨h.2.1, hF⟩
end Jvm.Pilot.@@N@@
namespace Jvm.Pilot.@@N@@
open Jvm Jvm.ClassFile Sem Op Lib Jvm.Free Jvm.Stand Jvm.Pilot.@@N@@.Jvm.D
/-! MADE BY PROGRAM (witnessworld.py) out of the Statement's table words and the real class files: 12 classes; the members and pool entries that the words name. The judged class is class 1, her method 1. -/
namespace start1
open Jvm.ClassFile
def u (s : String) : CpInfo := .utf8 (stringToUtf16 s)
/-- a pool by its gaps: so many unusable entries, then the entry; so many at the end -/
def gap : Nat → List CpInfo → List CpInfo
  | 0, r => r
  | n + 1, r => .unusable :: gap n r
def poolList (es : List (Nat × CpInfo)) (last : Nat) : List CpInfo := es.foldr (fun e r => gap e.1 (e.2 :: r)) (gap last [])
def pool (es : List (Nat × CpInfo)) (last : Nat) : Array CpInfo := ⟨poolList es last⟩
def fileOf (pool : Array CpInfo) (this : Nat) (attrs : Array Attribute := #[]) (ms : Array MethodInfo := #[]) (fl : Nat := 33) (sup : Nat := 0) (ifs : Array Nat := #[]) (fds : Array FieldInfo := #[]) : ClassFile where
  minorVersion := 0
  majorVersion := 65
  constantPool := pool
  accessFlags := fl
  thisClass := this
  superClass := sup
  interfaces := ifs
  fields := fds
  methods := ms
  attributes := attrs
def plain (name : String) (sup : Option ClassId) : Class where
  name := name
  kind := .ordinary
  loader := none
  accessFlags := 33
  super := sup
  interfaces := #[]
  cf := none
  fields := #[]
  methods := #[]
  instanceTypes := #[]
  staticTypes := #[]
  resolved := #[]
  callSites := []
  init := .initialized
  statics := none
  mirror := none

def pool0 : Array CpInfo := pool [(5, u "<init>"), (0, u "()V"), (1, .class_ 10), (1, u "java/lang/Object")] 113

def k0m0 : Method := { name := "<init>", desc := "()V", sig := { parameters := [], returnType := none }, accessFlags := 1, code := none }
/-- java/lang/Object -/
def k0 : Class := { plain "java/lang/Object" none with
  accessFlags := 33
  interfaces := #[]
  cf := some (fileOf pool0 8 #[] #[{ accessFlags := 1, nameIndex := 5, descriptorIndex := 6, attributes := #[] }] 33 0 #[] #[])
  fields := #[]
  methods := #[k0m0]
  instanceTypes := #[]
  staticTypes := #[]
  resolved := Array.replicate 124 none
  statics := none }

def pool1 : Array CpInfo := pool [(2, .class_ 4), (1, u "java/lang/Object"), (0, u "<init>"), (0, u "()V"), (0, .integer 2147483647), (0, .fieldref 9 10), (0, .class_ 11), (0, .nameAndType 12 13), (0, u "com/example/tariffline/tariffline/tariff/Taric3Type$Base"), (0, u "STRING"), (0, u "Lcom/example/tariffline/tariffline/tariff/Taric3Type$Base;"), (0, .fieldref 9 15), (0, .nameAndType 16 13), (0, u "INT"), (0, .fieldref 9 18), (0, .nameAndType 19 13), (0, u "DECIMAL"), (0, .fieldref 9 21), (0, .nameAndType 22 13), (0, u "DATE"), (0, .fieldref 9 24), (0, .nameAndType 25 13), (0, u "DATE_TIME"), (0, .fieldref 9 27), (0, .nameAndType 28 13), (0, u "NMTOKEN"), (0, .fieldref 9 30), (0, .nameAndType 31 13), (0, u "LANGUAGE"), (0, .methodref 9 33), (0, .nameAndType 34 35), (0, u "collapsesBlanks"), (0, u "()Z"), (0, .class_ 37), (0, u "com/example/tariffline/tariffline/tariff/Taric3TypeCollapsesBlanksPinLaw"), (2, u "law"), (0, u "(I)Z")] 7

def k1m0 : Method := { name := "<init>", desc := "()V", sig := { parameters := [], returnType := none }, accessFlags := 2, code := none }
def k1c1 : Code := { maxStack := 2, maxLocals := 4, code := code, exceptionTable := #[], attributes := #[] }
def k1m1 : Method := { name := "law", desc := "(I)Z", sig := { parameters := [.int], returnType := some .boolean }, accessFlags := 9, code := some k1c1 }
/-- com/example/tariffline/tariffline/tariff/Taric3TypeCollapsesBlanksPinLaw -/
def k1 : Class := { plain "com/example/tariffline/tariffline/tariff/Taric3TypeCollapsesBlanksPinLaw" (some 0) with
  accessFlags := 49
  interfaces := #[]
  cf := some (fileOf pool1 36 #[] #[{ accessFlags := 2, nameIndex := 5, descriptorIndex := 6, attributes := #[] }, { accessFlags := 9, nameIndex := 40, descriptorIndex := 41, attributes := #[] }] 49 2 #[] #[])
  fields := #[]
  methods := #[k1m0, k1m1]
  instanceTypes := #[]
  staticTypes := #[]
  resolved := Array.replicate 49 none
  statics := none }

def pool2 : Array CpInfo := pool [(1, .class_ 2), (0, u "java/lang/constant/Constable"), (0, .class_ 4), (0, u "java/lang/Object")] 6

/-- java/lang/constant/Constable -/
def k2 : Class := { plain "java/lang/constant/Constable" (some 0) with
  accessFlags := 1537
  interfaces := #[]
  cf := some (fileOf pool2 1 #[] #[] 1537 3 #[] #[])
  fields := #[]
  methods := #[]
  instanceTypes := #[]
  staticTypes := #[]
  resolved := Array.replicate 11 none
  statics := none }

def pool3 : Array CpInfo := pool [(1, .class_ 2), (0, u "java/lang/Comparable"), (0, .class_ 4), (0, u "java/lang/Object")] 7

/-- java/lang/Comparable -/
def k3 : Class := { plain "java/lang/Comparable" (some 0) with
  accessFlags := 1537
  interfaces := #[]
  cf := some (fileOf pool3 1 #[] #[] 1537 3 #[] #[])
  fields := #[]
  methods := #[]
  instanceTypes := #[]
  staticTypes := #[]
  resolved := Array.replicate 12 none
  statics := none }

def pool4 : Array CpInfo := pool [(1, .class_ 2), (0, u "java/io/Serializable"), (0, .class_ 4), (0, u "java/lang/Object")] 2

/-- java/io/Serializable -/
def k4 : Class := { plain "java/io/Serializable" (some 0) with
  accessFlags := 1537
  interfaces := #[]
  cf := some (fileOf pool4 1 #[] #[] 1537 3 #[] #[])
  fields := #[]
  methods := #[]
  instanceTypes := #[]
  staticTypes := #[]
  resolved := Array.replicate 7 none
  statics := none }

def pool5 : Array CpInfo := pool [(2, .class_ 4), (1, u "java/lang/Enum"), (0, u "name"), (0, u "Ljava/lang/String;"), (2, u "ordinal"), (0, u "I"), (1, .class_ 14), (1, u "java/lang/Object"), (4, u "hash"), (86, .class_ 108), (1, u "java/lang/Enum$EnumDesc"), (2, .class_ 112), (0, u "java/lang/constant/Constable"), (0, .class_ 114), (0, u "java/lang/Comparable"), (0, .class_ 116), (0, u "java/io/Serializable")] 87

/-- java/lang/Enum -/
def k5 : Class := { plain "java/lang/Enum" (some 0) with
  accessFlags := 1057
  interfaces := #[2, 3, 4]
  cf := some (fileOf pool5 2 #[.nestMembers #[106]] #[] 1057 12 #[111, 113, 115] #[{ accessFlags := 18, nameIndex := 5, descriptorIndex := 6, attributes := #[] }, { accessFlags := 18, nameIndex := 9, descriptorIndex := 10, attributes := #[] }, { accessFlags := 2, nameIndex := 19, descriptorIndex := 10, attributes := #[] }])
  fields := #[{ name := "name", type := (.object "java/lang/String"), accessFlags := 18, slot := 0, constantValue := 0 }, { name := "ordinal", type := .int, accessFlags := 18, slot := 1, constantValue := 0 }, { name := "hash", type := .int, accessFlags := 2, slot := 2, constantValue := 0 }]
  methods := #[]
  instanceTypes := #[(.object "java/lang/String"), .int, .int]
  staticTypes := #[]
  resolved := Array.replicate 204 none
  statics := none }

def pool6 : Array CpInfo := pool [(1, .class_ 2), (0, u "com/example/tariffline/tariffline/tariff/Taric3Type$Base"), (0, .fieldref 1 4), (0, .nameAndType 5 6), (0, u "STRING"), (0, u "Lcom/example/tariffline/tariffline/tariff/Taric3Type$Base;"), (2, u "INT"), (2, u "DECIMAL"), (2, u "DATE"), (2, u "DATE_TIME"), (2, u "NMTOKEN"), (2, u "LANGUAGE"), (2, u "$VALUES"), (0, u "[Lcom/example/tariffline/tariffline/tariff/Taric3Type$Base;"), (6, .class_ 37), (1, u "java/lang/Enum"), (8, u "schemaName"), (0, u "Ljava/lang/String;"), (34, u "collapsesBlanks"), (0, u "()Z"), (7, .class_ 92), (0, u "com/example/tariffline/tariffline/tariff/Taric3Type")] 2

def k6c0 : Code := { maxStack := 2, maxLocals := 1, code := prog_152_method_5_code, exceptionTable := #[], attributes := #[] }
def k6m0 : Method := { name := "collapsesBlanks", desc := "()Z", sig := { parameters := [], returnType := some .boolean }, accessFlags := 0, code := some k6c0 }
/-- com/example/tariffline/tariffline/tariff/Taric3Type$Base -/
def k6 : Class := { plain "com/example/tariffline/tariffline/tariff/Taric3Type$Base" (some 5) with
  accessFlags := 16432
  interfaces := #[]
  cf := some (fileOf pool6 1 #[.nestHost 91] #[{ accessFlags := 0, nameIndex := 82, descriptorIndex := 83, attributes := #[] }] 16432 35 #[] #[{ accessFlags := 16409, nameIndex := 5, descriptorIndex := 6, attributes := #[] }, { accessFlags := 16409, nameIndex := 9, descriptorIndex := 6, attributes := #[] }, { accessFlags := 16409, nameIndex := 12, descriptorIndex := 6, attributes := #[] }, { accessFlags := 16409, nameIndex := 15, descriptorIndex := 6, attributes := #[] }, { accessFlags := 16409, nameIndex := 18, descriptorIndex := 6, attributes := #[] }, { accessFlags := 16409, nameIndex := 21, descriptorIndex := 6, attributes := #[] }, { accessFlags := 16409, nameIndex := 24, descriptorIndex := 6, attributes := #[] }, { accessFlags := 18, nameIndex := 46, descriptorIndex := 47, attributes := #[] }, { accessFlags := 4122, nameIndex := 27, descriptorIndex := 28, attributes := #[] }])
  fields := #[{ name := "STRING", type := (.object "com/example/tariffline/tariffline/tariff/Taric3Type$Base"), accessFlags := 16409, slot := 0, constantValue := 0 }, { name := "INT", type := (.object "com/example/tariffline/tariffline/tariff/Taric3Type$Base"), accessFlags := 16409, slot := 1, constantValue := 0 }, { name := "DECIMAL", type := (.object "com/example/tariffline/tariffline/tariff/Taric3Type$Base"), accessFlags := 16409, slot := 2, constantValue := 0 }, { name := "DATE", type := (.object "com/example/tariffline/tariffline/tariff/Taric3Type$Base"), accessFlags := 16409, slot := 3, constantValue := 0 }, { name := "DATE_TIME", type := (.object "com/example/tariffline/tariffline/tariff/Taric3Type$Base"), accessFlags := 16409, slot := 4, constantValue := 0 }, { name := "NMTOKEN", type := (.object "com/example/tariffline/tariffline/tariff/Taric3Type$Base"), accessFlags := 16409, slot := 5, constantValue := 0 }, { name := "LANGUAGE", type := (.object "com/example/tariffline/tariffline/tariff/Taric3Type$Base"), accessFlags := 16409, slot := 6, constantValue := 0 }, { name := "schemaName", type := (.object "java/lang/String"), accessFlags := 18, slot := 3, constantValue := 0 }, { name := "$VALUES", type := (.array (.object "com/example/tariffline/tariffline/tariff/Taric3Type$Base")), accessFlags := 4122, slot := 7, constantValue := 0 }]
  methods := #[k6m0]
  instanceTypes := #[(.object "java/lang/String"), .int, .int, (.object "java/lang/String")]
  staticTypes := #[(.object "com/example/tariffline/tariffline/tariff/Taric3Type$Base"), (.object "com/example/tariffline/tariffline/tariff/Taric3Type$Base"), (.object "com/example/tariffline/tariffline/tariff/Taric3Type$Base"), (.object "com/example/tariffline/tariffline/tariff/Taric3Type$Base"), (.object "com/example/tariffline/tariffline/tariff/Taric3Type$Base"), (.object "com/example/tariffline/tariffline/tariff/Taric3Type$Base"), (.object "com/example/tariffline/tariffline/tariff/Taric3Type$Base"), (.array (.object "com/example/tariffline/tariffline/tariff/Taric3Type$Base"))]
  resolved := Array.replicate 95 none
  statics := some 0 }

def pool7 : Array CpInfo := pool [(1, u "java/lang/Cloneable"), (0, .class_ 1), (0, u "java/lang/Object"), (0, .class_ 3)] 3

/-- java/lang/Cloneable -/
def k7 : Class := { plain "java/lang/Cloneable" (some 0) with
  accessFlags := 1537
  interfaces := #[]
  cf := some (fileOf pool7 2 #[] #[] 1537 4 #[] #[])
  fields := #[]
  methods := #[]
  instanceTypes := #[]
  staticTypes := #[]
  resolved := Array.replicate 8 none
  statics := none }

/-- the primitive byte -/
def k8 : Class := { plain "byte" none with kind := .primitive 'B', accessFlags := 0x411 }
/-- [B -/
def k9 : Class := { plain "[B" (some 0) with kind := .array 8 .byte, interfaces := #[7, 4], accessFlags := 1041 }

/-- the primitive int -/
def k10 : Class := { plain "int" none with kind := .primitive 'I', accessFlags := 0x411 }
/-- [I -/
def k11 : Class := { plain "[I" (some 0) with kind := .array 10 .int, interfaces := #[7, 4], accessFlags := 1041 }

def heap : Heap := #[{ cls := 6, slots := #[.ref 1, .ref 2, .ref 3, .ref 4, .ref 5, .ref 6, .ref 7, .null], vm := .statics 6 },
  { cls := 6, slots := #[.null, .int 0, .int 0, .null], vm := .none },
  { cls := 6, slots := #[.null, .int 1, .int 0, .null], vm := .none },
  { cls := 6, slots := #[.null, .int 2, .int 0, .null], vm := .none },
  { cls := 6, slots := #[.null, .int 3, .int 0, .null], vm := .none },
  { cls := 6, slots := #[.null, .int 4, .int 0, .null], vm := .none },
  { cls := 6, slots := #[.null, .int 5, .int 0, .null], vm := .none },
  { cls := 6, slots := #[.null, .int 6, .int 0, .null], vm := .none }]
def classes : Array Class := #[k0, k1, k2, k3, k4, k5, k6, k7, k8, k9, k10, k11]
def interned : List (Array UInt16 × Addr) := []
def slotsUsed : Nat := 36
def theMethod : MethodId := ⟨1, 1⟩
def args0 : Array Value := #[.int 5]
def aboutOver (below : List Frame) : State where
  vm := { classes := classes, interned := interned.toArray }
  heap := heap
  slotsUsed := slotsUsed
  threads := #[{ frames := .invoking theMethod args0 :: below }]
def below0 : List Frame := [.native { method := ⟨0, 0⟩, args := #[] }]
def about1 : State := aboutOver below0
def p0 : Program := .bare "" "" ""
def e0 : Env := launch0.env 0 0 0
theorem w_frames : about1.frames = Frame.invoking theMethod args0 :: below0 := rfl
set_option maxRecDepth 65536 in
theorem w_args : argsFit about1.vm theMethod args0 = true := by decide +kernel
set_option maxRecDepth 65536 in
theorem w_heap : heapFits about1 = true := by decide +kernel
set_option maxRecDepth 65536 in
theorem w_runnable : about1.curStatus? = some .runnable := by decide +kernel
set_option maxRecDepth 65536 in
theorem w_alone : about1.alone = true := by decide +kernel
set_option maxRecDepth 65536 in
theorem w_named : about1.methodNamed? x = some theMethod := by decide +kernel
set_option maxRecDepth 65536 in
theorem w_hears : about1.hears theMethod below0 = true := by decide +kernel
set_option maxRecDepth 65536 in
theorem w_ripe : about1.ripe theMethod args0 below0 = true := by decide +kernel
theorem w_running : about1.status = .running := rfl
set_option maxRecDepth 65536 in
theorem w_room : about1.hasRoom e0.platform room_1 = true :=
  launch0.hasRoom_least _ room_1 (by decide +kernel) (by decide +kernel) (by decide +kernel) (by decide +kernel) (by decide +kernel) (by decide +kernel)
theorem allAtoms_all (ts : List Jvm.Cond) (a : Array Jvm.Value) (st : Jvm.State) : (allAtoms ts).before a st = ts.all (fun c => c.before a st) := by
  induction ts with
  | nil => rfl
  | cons c t ih =>
    show (Jvm.Cond.and c (allAtoms t)).before a st = _
    rw [Jvm.Cond.before_and, ih, List.all_cons]
def words1 : List Jvm.Cond := Jvm.Cond.code x code maxLocals ret :: tables_1
/-- a 'code' word, met by the world's own term for the bytes: nothing is compared byte by byte -/
theorem code_word {y : MethodName} {bytes : ByteArray} {mx : Nat} {rt : Option FieldType} {a : Array Value} {s : State} {m : MethodId} {meth : Method} {c : Code} (h1 : s.methodNamed? y = some m) (h2 : s.vm.method? m = some meth) (h3 : meth.code = some c) (h4 : c.code = bytes)
    (h5 : (c.maxLocals == mx && c.exceptionTable.isEmpty && decide (c.maxStack ≤ mostOperands) && decide (meth.sig.returnType = rt) && !meth.locks && decide (parseMethodDescriptor y.desc = some meth.sig)) = true) : (Jvm.Cond.code y bytes mx rt).before a s = true := by
  simp only [Bool.and_eq_true, beq_iff_eq, Bool.not_eq_true', decide_eq_true_eq] at h5
  obtain ⟨⟨⟨⟨⟨g1, g2⟩, g3⟩, g4⟩, g5⟩, g6⟩ := h5
  simp [Cond.before, Cond.holds, Cond.value, h1, h2, h3, h4, g1, g2, g3, g4, g5, g6]
def isCode : Jvm.Cond → Bool
  | .code _ _ _ _ => true
  | _ => false
theorem all_split {L : List Jvm.Cond} {P : Jvm.Cond → Bool} (h1 : L.all (fun c => isCode c || P c) = true) (h2 : ∀ c ∈ L.filter isCode, P c = true) : L.all P = true := by
  refine List.all_eq_true.mpr fun c hc => ?_
  have h := List.all_eq_true.mp h1 c hc
  rcases Bool.eq_false_or_eq_true (isCode c) with hi | hi
  · exact h2 c (List.mem_filter.mpr ⟨hc, hi⟩)
  · simpa [hi] using h
set_option maxRecDepth 65536 in
theorem w_c0 : (Jvm.Cond.code x code maxLocals ret).before args0 about1 = true := code_word (m := ⟨1, 1⟩) (meth := k1m1) (c := k1c1) (by decide +kernel) rfl rfl rfl (by decide +kernel)
set_option maxRecDepth 65536 in
theorem w_c1 : (Jvm.Cond.code ({ cls := "com/example/tariffline/tariffline/tariff/Taric3Type$Base", name := "collapsesBlanks", desc := "()Z" } : Jvm.MethodName) prog_152_method_5_code (1 : Nat) (Option.some Jvm.ClassFile.FieldType.boolean)).before args0 about1 = true := code_word (m := ⟨6, 0⟩) (meth := k6m0) (c := k6c0) (by decide +kernel) rfl rfl rfl (by decide +kernel)
def codes1 : List Jvm.Cond := [Jvm.Cond.code x code maxLocals ret, Jvm.Cond.code ({ cls := "com/example/tariffline/tariffline/tariff/Taric3Type$Base", name := "collapsesBlanks", desc := "()Z" } : Jvm.MethodName) prog_152_method_5_code (1 : Nat) (Option.some Jvm.ClassFile.FieldType.boolean)]
set_option maxRecDepth 65536 in
theorem codes_eq : words1.filter isCode = codes1 := rfl
theorem w_codes : ∀ c ∈ words1.filter isCode, c.before args0 about1 = true := by
  rw [codes_eq]
  intro c hc
  simp only [codes1, List.mem_cons, List.not_mem_nil, or_false] at hc
  rcases hc with rfl | rfl
  · exact w_c0
  · exact w_c1
set_option maxRecDepth 65536 in
theorem w_t1 : words1.all (fun c => isCode c || c.before args0 about1) = true := by decide +kernel
theorem w_tables : (allAtoms (Jvm.Cond.code x code maxLocals ret :: tables_1)).before args0 about1 = true := by
  rw [allAtoms_all]
  show words1.all (fun c => c.before args0 about1) = true
  refine all_split ?_ w_codes
  rw [w_t1]
set_option maxRecDepth 65536 in
theorem w_case : (Jvm.Cond.and given_1 narrow_1).before args0 about1 = true := by decide +kernel
theorem w_applies : (headSpec (Jvm.Cond.code x code maxLocals ret :: tables_1) room_1).applies x e0.platform about1 = true :=
  (Spec.applies_iff w_frames).mpr ⟨w_running, w_runnable, w_alone, w_named, w_hears, w_ripe, w_room, w_tables⟩
theorem atStart : AtStart classFile x code maxLocals ret World_1 tables_1 room_1 Calls_1 rest_1 Pre_1 launch0 p0 e0 about1 theMethod args0 below0 :=
  ⟨lists_1, trivial, launch0.admits_env _ _ _, launch0.least_env, fairChoices_fair.cas, fairChoices_fair.clock, w_frames, w_args, w_heap, w_applies, trivial, trivial, w_case⟩
end start1
theorem witness_1 : WitnessClaimed_1 := ⟨start1.p0, start1.e0, start1.about1, start1.theMethod, start1.args0, start1.below0, start1.atStart⟩
end Jvm.Pilot.@@N@@
